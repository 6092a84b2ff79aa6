/-
  SEAT b6628763a. THE LAW FnRemoveSparesItsArgumentAndEmptiesItself (4) answers true.
-/
import Derived.Test.Qxb6628763aLaw3
import Derived.Test.Qxb6628763aZz12
namespace Go.Proofs.Qxb6628763a
open Go.RowKit Go.Maps Go.WideMaps

set_option maxRecDepth 100000 in
set_option maxHeartbeats 12800000 in
theorem law4 (a0 a1 : Option Addr) (n0 c0 n1 c1 : Nat) (L0 L1 : List Path) (w : World) (r0 : RdP w.heap.size w a0 n0 c0 L0) (r1 : RdP w.heap.size w a1 n1 c1 L1) (hf0 : Fits L0) (hf1 : Fits L1) :
    Calls Try.prog 4 #[.slice a0 n0 c0, .slice a1 n1 c1] w fun e w' => e = .returned (.bool true) ∧ Below w.heap.size w w' := by
  have hn0 : n0 ≤ 9223372036854775807 := by have := r0.2.1; have := r0.2.2.1; unfold maxLen at *; omega
  have hn1 : n1 ≤ 9223372036854775807 := by have := r1.2.1; have := r1.2.2.1; unfold maxLen at *; omega
  have HL0 : Hid (L0.length = n0) := r0.1
  have HL1 : Hid (L1.length = n1) := r1.1
  have R0 := Lib.hid r0
  have R1 := Lib.hid r1
  have HF0 := Lib.hid hf0
  have HF1 := Lib.hid hf1
  clear r0 r1 hf0 hf1
  obtain ⟨i4, hi4, hz4, hz41, hz42⟩ := info_parts info4
  go_enter Try.func4, Try.ntmps4
  go_wp2_with (go_at_call 12; refine (zz12 w.heap.size a0 a1 n0 c0 n1 c1 L0 L1 w R0.out R1.out HF0.out HF1.out).mono ?_; rintro e w1 ⟨r, rfl, rfl⟩; refine Hid.out ?_)
  refine Lib.hid ?_
  cases r with
  | false =>
    go_wp2_with fail
    go_ret
    exact ⟨rfl, Below.refl _ _⟩
  | true =>
  by_cases hb0 : 4096 < n0
  · have hd : decide ((4096 : Int) < (n0 : Int)) = true := decide_eq_true (by omega)
    go_wp2_with fail
    go_ret
    exact ⟨rfl, Below.refl _ _⟩
  have hd0 : decide ((4096 : Int) < (n0 : Int)) = false := decide_eq_false (by omega)
  by_cases hb1 : 4096 < n1
  · have hd : decide ((4096 : Int) < (n1 : Int)) = true := decide_eq_true (by omega)
    go_wp2_with fail
    go_ret
    exact ⟨rfl, Below.refl _ _⟩
  have hd1 : decide ((4096 : Int) < (n1 : Int)) = false := decide_eq_false (by omega)
  have k0 : n0 ≤ 4096 := by omega
  have k1 : n1 ≤ 4096 := by omega
  clear hb0 hb1
  go_wp2_with (go_at_call 6; refine (tooBig_any w.heap.size a0 a1 n0 c0 n1 c1 L0 L1 w R0.out R1.out HF0.out HF1.out).mono ?_; rintro e w1 ⟨r, rfl, rfl, hsh⟩; refine Hid.out ?_)
  refine Lib.hid ?_
  have HSH := Lib.hid hsh
  clear hsh
  cases r with
  | true =>
    go_wp2_with fail
    go_ret
    exact ⟨rfl, Below.refl _ _⟩
  | false =>
  have HS0 := Lib.hid (HSH.out rfl).1
  have HS1 := Lib.hid (HSH.out rfl).2
  clear HSH
  go_wp2_with (go_at_call 8; refine (all_any n0 w (by omega)).mono ?_; rintro e w1 ⟨aa, ca, rfl, hr, hb⟩; refine Hid.out ?_)
  refine Lib.hid ?_
  have RA := Lib.hid hr
  have HB1 := Lib.hid hb
  have hs1 : w.heap.size ≤ w1.heap.size := hb.size
  have R01 : Hid (RdP w1.heap.size w1 a0 n0 c0 L0) := (R0.out.below hb).mono hs1
  clear hr hb
  go_wp2_with (go_at_call 7; refine (build_all a0 n0 c0 L0 HF0.out HS0.out aa ca w1 R01.out RA.out).mono ?_; rintro e w2 ⟨bs, rfl, hb, hrep⟩; refine Hid.out ?_)
  refine Lib.hid ?_
  have HREP := Lib.hid hrep
  have HB2 : Hid (Below w.heap.size w w2) := HB1.out.trans (hb.mono hs1)
  have hs2 : w1.heap.size ≤ w2.heap.size := hb.size
  clear hrep hb RA R01 HB1
  go_wp2_with (go_at_call 8; refine (all_any n1 w2 (by omega)).mono ?_; rintro e w3 ⟨ab, cb, rfl, hr, hb⟩; refine Hid.out ?_)
  refine Lib.hid ?_
  have RA := Lib.hid hr
  have hs3 : w2.heap.size ≤ w3.heap.size := hb.size
  have HB3 : Hid (Below w.heap.size w w3) := HB2.out.trans (hb.mono (by omega))
  have HREP3 : Hid (Rep 65537 w3 bs w1.heap.size w2.heap.size (SetOf n0 L0)) := HREP.out.frame (fun i _ h2 => hb.block i h2)
  have R11 : Hid (RdP w3.heap.size w3 a1 n1 c1 L1) := (R1.out.below HB3.out).mono (by omega)
  clear hr hb HREP
  go_wp2_with (go_at_call 7; refine (build_all a1 n1 c1 L1 HF1.out HS1.out ab cb w3 R11.out RA.out).mono ?_; rintro e w4 ⟨bo, rfl, hb, hrep⟩; refine Hid.out ?_)
  refine Lib.hid ?_
  have HREPO := Lib.hid hrep
  have HREP4 : Hid (Rep 65537 w4 bs w1.heap.size w2.heap.size (SetOf n0 L0)) := HREP3.out.frame (fun i _ h2 => hb.block i (by omega))
  have hs4 : w3.heap.size ≤ w4.heap.size := hb.size
  have HB4 : Hid (Below w.heap.size w w4) := HB3.out.trans (hb.mono (by omega))
  clear hrep hb RA R11 HREP3 HB3 HB2
  go_wp2_with (go_at_call 10; refine (remove_apart 65537 65537 bs w1.heap.size w2.heap.size bo w3.heap.size w4.heap.size _ _ w4 HREP4.out HREPO.out (.inl hs3) (by omega) (Nat.le_refl _)).mono ?_; rintro e w5 ⟨rfl, _, hout⟩; refine Hid.out ?_)
  refine Lib.hid ?_
  have hs5 : w4.heap.size ≤ w5.heap.size := hout.size
  have HB5 : Hid (Below w.heap.size w w5) := HB4.out.trans (hout.below hs1 (by omega))
  have HREP5 : Hid (Rep 65537 w5 bo w3.heap.size w4.heap.size (SetOf n1 L1)) := HREPO.out.out hout (Nat.le_refl _) (.inr hs3)
  clear hout HREPO HREP4 HB4
  go_wp2_with (at_make; refine wpList_make_full _ rfl _ _ 28 rfl w5.heap.size 4 i4 (.bool false) 1 Try.underlying28 hi4 hz4 hz41 _ _ _ _ n1 rfl rfl rfl rfl (by rw [hz42]; omega) (by unfold maxLen; omega) (Nat.le_refl _) ?_)
  intro w6 hown hgrow
  have HB6 : Hid (Below w5.heap.size w5 w6) := (Below.refl _ _).grown hgrow (Nat.le_refl _) (fun k hk => by cases hk)
  have HO := Lib.hid hown
  clear hown hgrow
  go_wp2_with fail
  go_loopw [8] (fun i wr => ∃ (k : Nat) (xs : List Value), k ≤ n1 ∧ i = .int .i64 k ∧ Hid (wr.ownsRow w5.heap.size 4 1 (.slice (some ⟨w5.heap.size, 0, none⟩) n1 n1) n1 xs) ∧ Hid (∀ t, t < k → xs[t]? = some (.bool true)) ∧ Hid (Below w5.heap.size w5 wr)) (fun i _ => n1 - (intOf i).toNat)
  case atStart => exact ⟨0, _, Nat.zero_le _, rfl, HO, fun t ht => by omega, HB6⟩
  case round =>
    obtain ⟨k, xs, hk, rfl, HOk, HX, HBk⟩ := hrel
    by_cases hlt : k < n1
    · have hxl : xs.length = n1 := by have := HOk.out.1; omega
      have HXL := Lib.hid hxl
      have i0' : (k : Int) < (n1 : Int) := by omega
      have hsz : w5.heap.size ≤ wr.heap.size := HBk.out.size
      obtain ⟨g, c, e, hg, hcell, hfr⟩ := own_cell0 HOk.out k hlt
      simp only [Value.slice.injEq, Option.some.injEq, Addr.mk.injEq] at e
      obtain ⟨⟨rfl, _, _⟩, _, rfl⟩ := e
      obtain ⟨hst, hgst⟩ := HOk.out.stored k (.bool true)
      have HST := Lib.hid hst
      have HGS := Lib.hid hgst
      clear hst hgst hxl
      go_wp2_with fail
      go_roundw
      case rel =>
        refine ⟨k + 1, xs.set k (.bool true), by omega, by go_num, HST, fun t ht => ?_, HBk.out.grown HGS.out hsz (fun r hr => by cases hr; exact Nat.le_refl _)⟩
        rcases Nat.lt_or_ge t k with h1 | h1
        · rw [List.getElem?_set_ne (by omega)]; exact HX.out t h1
        · obtain rfl : t = k := by omega
          rw [List.getElem?_set_self (by have := HXL.out; omega)]
      case measure => simp [intOf]; omega
    · have hkn : k = n1 := by omega
      subst hkn
      obtain ⟨w7, hw7⟩ : ∃ x, x = wr := ⟨_, rfl⟩
      subst hw7
      have HOW : Hid (w7.ownsRow w5.heap.size 4 1 (.slice (some ⟨w5.heap.size, 0, none⟩) k k) k ((List.replicate k true).map Value.bool)) :=
        own_ext HOk.out (by simp) (fun t ht => by rw [HX.out t ht]; simp [ht])
      have hs7 : w5.heap.size ≤ w7.heap.size := HBk.out.size
      have HB7 : Hid (Below w.heap.size w w7) := HB5.out.trans (HBk.out.mono (by omega))
      have HREP7 : Hid (Rep 65537 w7 bo w3.heap.size w4.heap.size (SetOf k L1)) := HREP5.out.frame (fun i _ h2 => HBk.out.block i (by omega))
      clear HOk HX HREP5
      have R17 : Hid (RdP w7.heap.size w7 a1 k c1 L1) := (R1.out.below HB7.out).mono (by omega)
      have RB7 : Hid (RdB w7.heap.size w7 (some ⟨w5.heap.size, 0, none⟩) k k (List.replicate k true)) := by
        obtain ⟨a, c, e, hr⟩ := rdb_of_own (l := List.replicate k true) (by simp) HOW.out
        simp only [Value.slice.injEq] at e
        obtain ⟨rfl, _, rfl⟩ := e
        exact hr
      have HSS : Hid (∀ p, SetOf k L1 p ↔ ∃ i, i < k ∧ (List.replicate k true).getD i false = true ∧ L1.getD i [] = p) := by
        intro p
        constructor
        · rintro ⟨i, hi, rfl⟩
          exact ⟨i, hi, by simp [hi], rfl⟩
        · rintro ⟨i, hi, _, rfl⟩
          exact ⟨i, hi, rfl⟩
      go_wp2_with (go_at_call 11; refine (holdsExactly_true 65537 bo w3.heap.size w4.heap.size _ a1 _ k c1 k L1 (List.replicate k true) w7 HREP7.out (by omega) R17.out RB7.out HS1.out HF1.out HSS.out).mono ?_; rintro e w8 ⟨rfl, hb⟩; refine Hid.out ?_)
      refine Lib.hid ?_
      have HB8 : Hid (Below w.heap.size w w8) := HB7.out.trans (hb.mono (by omega))
      have hs8 : w7.heap.size ≤ w8.heap.size := hb.size
      have HREP8 : Hid (Rep 65537 w8 bo w3.heap.size w4.heap.size (SetOf k L1)) := HREP7.out.frame (fun i _ h2 => hb.block i (by omega))
      clear hb HREP7
      go_wp2_with (go_at_call 10; refine (remove_self 65537 bo w3.heap.size w4.heap.size _ w8 HREP8.out (by omega)).mono ?_; rintro e w9 ⟨rfl, hrep, hout⟩; refine Hid.out ?_)
      refine Lib.hid ?_
      have HB9 : Hid (Below w.heap.size w w9) := HB8.out.trans (hout.below (by omega) (by omega))
      obtain ⟨m9, self9, mo9, f9, LO9, HI9, hm9, hop9⟩ := hrep.op
      have hE := hop9.empty_iff.2 (fun _ h => h)
      have HND : Hid (Node w9 bo self9 mo9) := hop9.node
      have hlen := fun ty => len_run hop9.mapo [] List.nodup_nil (fun k => by simp [hE.2 k]) ty
      obtain ⟨hE1, _⟩ := hE
      clear hop9 hrep hout hm9
      subst hE1
      go_wp2_with (first
        | (go_at_call 13; refine (self_any bo false mo9 _ HND.out).mono ?_; rintro e w7 ⟨rfl, rfl⟩)
        | (go_at_call 14; refine (below_any bo false mo9 _ HND.out).mono ?_; rintro e w7 ⟨rfl, rfl⟩))
      go_ret
      exact ⟨rfl, HB9.out⟩

end Go.Proofs.Qxb6628763a
