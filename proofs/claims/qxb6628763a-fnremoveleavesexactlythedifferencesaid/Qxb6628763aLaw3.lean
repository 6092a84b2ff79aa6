/-
  SEAT b6628763a. THE LAW FnRemoveLeavesExactlyTheDifference (3) answers true.
-/
import Derived.Test.Qxb6628763aBuild
import Derived.Test.Qxb6628763aHolds
import Derived.Test.Qxb6628763aSelf
import Derived.Test.Qxb6628763aZz5
namespace Go.Proofs.Qxb6628763a
open Go.RowKit Go.Maps Go.WideMaps

theorem info4 : (Try.prog.info? 4).map (fun i => (i.zero, i.size, i.bytes)) = some (some (.bool false), 1, 1) := by kernel_rfl

theorem Out.below {lo hi B : Nat} {w w' : World} (h : Out lo hi w w') (h1 : B ≤ lo) (h2 : B ≤ w.heap.size) : Below B w w' :=
  ⟨h.os, h.tape, h.output, h.size, fun k hk => h.block k (by omega) (by omega)⟩

theorem own_out {w w' : World} {B e : Nat} {v : Value} {n : Nat} {xs : List Value} {lo hi : Nat} (h : w.ownsRow B e 1 v n xs) (ho : Out lo hi w w') (hB : hi ≤ B) : w'.ownsRow B e 1 v n xs := by
  refine ⟨h.1, ?_⟩
  rcases h.2 with h' | ⟨g, cap, cur, rfl, hb, hg, rest⟩
  · exact .inl h'
  · exact .inr ⟨g, cap, cur, rfl, hb, by rw [ho.block g (Array.getElem?_eq_some_iff.1 hg).1 (by omega)]; exact hg, rest⟩

theorem rdb_of_own {w : World} {B : Nat} {v : Value} {n : Nat} {l : List Bool} (hl : l.length = n) (h : w.ownsRow B 4 1 v n (l.map Value.bool)) : ∃ a c, v = .slice a n c ∧ RdB w.heap.size w a n c l := by
  subst hl
  rcases h.2 with ⟨rfl, h0⟩ | ⟨g, cap, cur, rfl, hb, hg, h1, h2, h3, h4⟩
  · obtain rfl := List.eq_nil_of_length_eq_zero h0
    exact ⟨none, 0, rfl, rfl, Nat.le_refl _, by unfold maxLen; omega, fun _ => rfl, fun i hi => absurd hi (by simp)⟩
  · refine ⟨_, _, rfl, rfl, h1, h2, (fun h => by cases h), fun i hi => ⟨g, 0, rfl, (Array.getElem?_eq_some_iff.1 hg).1, ?_⟩⟩
    rw [cell_of_row w g _ _ 4 (0, 0) hg]
    have e : (cur.toList.take (l.length * 1))[i]? = (l.map Value.bool)[i]? := by rw [h4]
    rw [List.getElem?_take_of_lt (by omega)] at e
    simp only [Nat.zero_add, Array.getElem?_toList] at e ⊢
    rw [e]
    simp [hi]

/-- The set of the paths of L. -/
def SetOf (n : Nat) (L : List Path) : Path → Prop := fun p => ∃ i, i < n ∧ L.getD i [] = p

theorem setOf_iff (n : Nat) (L : List Path) (p : Path) : (∃ i ∈ List.range n, (L.getD i []).drop 0 = p) ↔ SetOf n L p := by
  simp [SetOf]

theorem setOf_mem {n : Nat} {L : List Path} (h : L.length = n) (p : Path) : SetOf n L p ↔ p ∈ L := by
  constructor
  · rintro ⟨i, hi, rfl⟩
    have e : L.getD i [] = L[i] := by simp [show i < L.length by omega]
    rw [e]
    exact List.getElem_mem _
  · intro hp
    obtain ⟨i, hi, rfl⟩ := List.getElem_of_mem hp
    exact ⟨i, by omega, by simp [hi]⟩

/-- zzBuild(ps, zzAll(len(ps)), 0), its second half. -/
theorem build_all (a0 : Option Addr) (n0 c0 : Nat) (L : List Path) (hfit : Fits L) (hsh : Short n0 L) (a1 : Option Addr) (c1 : Nat) (w : World) (r0 : RdP w.heap.size w a0 n0 c0 L) (r1 : RdI w.heap.size w a1 n0 c1 (List.range n0)) :
    Calls Try.prog 7 #[.slice a0 n0 c0, .slice a1 n0 c1, .int .i64 0] w fun e w' => ∃ b, e = .returned (.pointer (some ⟨b, 0, none⟩)) ∧ Below w.heap.size w w' ∧ Rep 65537 w' b w.heap.size w'.heap.size (SetOf n0 L) := by
  refine (build_any a0 n0 c0 L hfit hsh 65536 a1 n0 c1 (List.range n0) 0 w r0 r1 (fun i hi => ?_) (by have := hsh.1; omega) (by omega)).mono ?_
  · have hi' : i < n0 := by simpa using hi
    exact ⟨hi', Nat.zero_le _, by have := hsh.2 i hi'; omega⟩
  · rintro e w' ⟨b, h1, h2, h3⟩
    exact ⟨b, h1, h2, h3.congr (fun p => setOf_iff n0 L p)⟩

def keepOf (L0 L1 : List Path) : List Bool := L0.map (fun p => !(L1.any (fun q => decide (q = p))))

theorem keepOf_at (L0 L1 : List Path) (i : Nat) (h : i < L0.length) : (keepOf L0 L1).getD i false = true ↔ L0.getD i [] ∉ L1 := by
  unfold keepOf
  simp only [List.getD_eq_getElem?_getD, List.getElem?_map, List.getElem?_eq_getElem h, Option.map_some, Option.getD_some, Bool.not_eq_true', List.any_eq_false, decide_eq_true_eq]
  exact ⟨fun hn hm => hn _ hm rfl, fun hn q hq e => hn (e ▸ hq)⟩

set_option maxRecDepth 100000 in
set_option maxHeartbeats 12800000 in
theorem law3 (a0 a1 : Option Addr) (n0 c0 n1 c1 : Nat) (L0 L1 : List Path) (w : World) (r0 : RdP w.heap.size w a0 n0 c0 L0) (r1 : RdP w.heap.size w a1 n1 c1 L1) (hf0 : Fits L0) (hf1 : Fits L1) :
    Calls Try.prog 3 #[.slice a0 n0 c0, .slice a1 n1 c1] w fun e w' => e = .returned (.bool true) ∧ Below w.heap.size w w' := by
  have hn0 : n0 ≤ 9223372036854775807 := by have := r0.2.1; have := r0.2.2.1; unfold maxLen at *; omega
  have hn1 : n1 ≤ 9223372036854775807 := by have := r1.2.1; have := r1.2.2.1; unfold maxLen at *; omega
  have HL0 : Hid (L0.length = n0) := r0.1
  have HL1 : Hid (L1.length = n1) := r1.1
  have R0 := Lib.hid r0
  have R1 := Lib.hid r1
  have HF0 := Lib.hid hf0
  have HF1 := Lib.hid hf1
  clear r0 r1 hf0 hf1
  obtain ⟨i4, hi4, hz4, hz41, hz42⟩ := info_parts info4
  go_enter Try.func3, Try.ntmps3
  go_wp2_with (go_at_call 5; refine (zz5 w.heap.size a0 a1 n0 c0 n1 c1 L0 L1 w R0.out R1.out HF0.out HF1.out).mono ?_; rintro e w1 ⟨r, rfl, rfl⟩; refine Hid.out ?_)
  refine Lib.hid ?_
  cases r with
  | false =>
    go_wp2_with fail
    go_ret
    exact ⟨rfl, Below.refl _ _⟩
  | true =>
  by_cases hb0 : 4096 < n0
  · have hd : decide ((4096 : Int) < (n0 : Int)) = true := decide_eq_true (by omega)
    go_wp2_with fail
    go_ret
    exact ⟨rfl, Below.refl _ _⟩
  have hd0 : decide ((4096 : Int) < (n0 : Int)) = false := decide_eq_false (by omega)
  by_cases hb1 : 4096 < n1
  · have hd : decide ((4096 : Int) < (n1 : Int)) = true := decide_eq_true (by omega)
    go_wp2_with fail
    go_ret
    exact ⟨rfl, Below.refl _ _⟩
  have hd1 : decide ((4096 : Int) < (n1 : Int)) = false := decide_eq_false (by omega)
  have k0 : n0 ≤ 4096 := by omega
  have k1 : n1 ≤ 4096 := by omega
  clear hb0 hb1
  go_wp2_with (go_at_call 6; refine (tooBig_any w.heap.size a0 a1 n0 c0 n1 c1 L0 L1 w R0.out R1.out HF0.out HF1.out).mono ?_; rintro e w1 ⟨r, rfl, rfl, hsh⟩; refine Hid.out ?_)
  refine Lib.hid ?_
  have HSH := Lib.hid hsh
  clear hsh
  cases r with
  | true =>
    go_wp2_with fail
    go_ret
    exact ⟨rfl, Below.refl _ _⟩
  | false =>
  have HS0 := Lib.hid (HSH.out rfl).1
  have HS1 := Lib.hid (HSH.out rfl).2
  clear HSH
  go_wp2_with (go_at_call 8; refine (all_any n0 w (by omega)).mono ?_; rintro e w1 ⟨aa, ca, rfl, hr, hb⟩; refine Hid.out ?_)
  refine Lib.hid ?_
  have RA := Lib.hid hr
  have HB1 := Lib.hid hb
  have hs1 : w.heap.size ≤ w1.heap.size := hb.size
  have R01 : Hid (RdP w1.heap.size w1 a0 n0 c0 L0) := (R0.out.below hb).mono hs1
  clear hr hb
  go_wp2_with (go_at_call 7; refine (build_all a0 n0 c0 L0 HF0.out HS0.out aa ca w1 R01.out RA.out).mono ?_; rintro e w2 ⟨bs, rfl, hb, hrep⟩; refine Hid.out ?_)
  refine Lib.hid ?_
  have HREP := Lib.hid hrep
  have HB2 : Hid (Below w.heap.size w w2) := HB1.out.trans (hb.mono hs1)
  have hs2 : w1.heap.size ≤ w2.heap.size := hb.size
  clear hrep hb RA R01 HB1
  go_wp2_with (go_at_call 8; refine (all_any n1 w2 (by omega)).mono ?_; rintro e w3 ⟨ab, cb, rfl, hr, hb⟩; refine Hid.out ?_)
  refine Lib.hid ?_
  have RA := Lib.hid hr
  have hs3 : w2.heap.size ≤ w3.heap.size := hb.size
  have HB3 : Hid (Below w.heap.size w w3) := HB2.out.trans (hb.mono (by omega))
  have HREP3 : Hid (Rep 65537 w3 bs w1.heap.size w2.heap.size (SetOf n0 L0)) := HREP.out.frame (fun i _ h2 => hb.block i h2)
  have R11 : Hid (RdP w3.heap.size w3 a1 n1 c1 L1) := (R1.out.below HB3.out).mono (by omega)
  clear hr hb HREP
  go_wp2_with (go_at_call 7; refine (build_all a1 n1 c1 L1 HF1.out HS1.out ab cb w3 R11.out RA.out).mono ?_; rintro e w4 ⟨bo, rfl, hb, hrep⟩; refine Hid.out ?_)
  refine Lib.hid ?_
  have HREPO := Lib.hid hrep
  have HREP4 : Hid (Rep 65537 w4 bs w1.heap.size w2.heap.size (SetOf n0 L0)) := HREP3.out.frame (fun i _ h2 => hb.block i (by omega))
  have hs4 : w3.heap.size ≤ w4.heap.size := hb.size
  have HB4 : Hid (Below w.heap.size w w4) := HB3.out.trans (hb.mono (by omega))
  clear hrep hb RA R11 HREP3 HB3 HB2
  go_wp2_with (at_make; refine wpList_make_full _ rfl _ _ 28 rfl w4.heap.size 4 i4 (.bool false) 1 Try.underlying28 hi4 hz4 hz41 _ _ _ _ n0 rfl rfl rfl rfl (by rw [hz42]; omega) (by unfold maxLen; omega) (Nat.le_refl _) ?_)
  intro w5 hown hgrow
  have HB5 : Hid (Below w4.heap.size w4 w5) := (Below.refl _ _).grown hgrow (Nat.le_refl _) (fun k hk => by cases hk)
  have HO := Lib.hid hown
  clear hown hgrow
  go_wp2_with fail
  go_loopw [8] (fun i wr => ∃ (k : Nat) (xs : List Value), k ≤ n0 ∧ i = .int .i64 k ∧ Hid (wr.ownsRow w4.heap.size 4 1 (.slice (some ⟨w4.heap.size, 0, none⟩) n0 n0) n0 xs) ∧ Hid (∀ t, t < k → xs[t]? = some (.bool ((keepOf L0 L1).getD t false))) ∧ Hid (Below w4.heap.size w4 wr)) (fun i _ => n0 - (intOf i).toNat)
  case atStart => exact ⟨0, _, Nat.zero_le _, rfl, HO, fun t ht => by omega, HB5⟩
  case round =>
    obtain ⟨k, xs, hk, rfl, HOk, HX, HBk⟩ := hrel
    by_cases hlt : k < n0
    · obtain ⟨b0, o0, rfl, hb0, hc0⟩ := R0.out.at (by omega)
      obtain ⟨ai, ni, ci, g0', hri⟩ := hc0 k hlt
      have HBw : Hid (Below w.heap.size w wr) := HB4.out.trans (HBk.out.mono (by omega))
      have g0 : wr.cell? ⟨b0, o0 + k, none⟩ = some (.slice ai ni ci) := by rw [HBw.out.cell (p := ⟨b0, o0 + k, none⟩) hb0]; exact g0'
      have RI : Hid (RdS w.heap.size wr ai ni ci (L0.getD k [])) := hri.below HBw.out
      have RP : Hid (RdP w.heap.size wr a1 n1 c1 L1) := R1.out.below HBw.out
      have hxl : xs.length = n0 := by have := HOk.out.1; omega
      have HXL := Lib.hid hxl
      have i0' : (k : Int) < (n0 : Int) := by omega
      have hsz : w4.heap.size ≤ wr.heap.size := HBk.out.size
      obtain ⟨r, hr⟩ : ∃ r : Bool, r = true ↔ L0.getD k [] ∈ L1 := ⟨!((keepOf L0 L1).getD k false), by
        rw [Bool.not_eq_true', Bool.eq_false_iff, ne_eq, keepOf_at L0 L1 k (by rw [HL0.out]; exact hlt), Classical.not_not]⟩
      have HKP : Hid ((keepOf L0 L1).getD k false = !r) := by
        show _ = _
        rw [Bool.eq_iff_iff, keepOf_at L0 L1 k (by rw [HL0.out]; exact hlt), ← hr]
        simp
      have HR := Lib.hid hr
      clear hr hc0 g0' hri hxl
      go_wp2_with (go_at_call 9; refine (hasPath_is r w.heap.size _ _ _ _ _ _ L1 (L0.getD k []) wr RP.out RI.out HR.out).mono ?_; rintro e w7 ⟨rfl, j7, rfl⟩; refine Hid.out ?_)
      refine Lib.hid ?_
      obtain ⟨w8, hw8⟩ : ∃ x, x = wr.drewN j7 := ⟨_, rfl⟩
      have HO8 : Hid (w8.ownsRow w4.heap.size 4 1 (.slice (some ⟨w4.heap.size, 0, none⟩) n0 n0) n0 xs) := by rw [hw8]; exact HOk.out
      have HB8 : Hid (Below w4.heap.size w4 w8) := by rw [hw8]; exact ⟨HBk.out.os, HBk.out.tape, HBk.out.output, HBk.out.size, HBk.out.block⟩
      rw [← hw8]
      clear hw8 HOk HBk g0 HBw
      obtain ⟨g, c, e, hg, hcell, hfr⟩ := own_cell0 HO8.out k hlt
      simp only [Value.slice.injEq, Option.some.injEq, Addr.mk.injEq] at e
      obtain ⟨⟨rfl, _, _⟩, _, rfl⟩ := e
      obtain ⟨hst, hgst⟩ := HO8.out.stored k (.bool (!r))
      have HST := Lib.hid hst
      have HGS := Lib.hid hgst
      have hsz8 : w4.heap.size ≤ w8.heap.size := HB8.out.size
      clear hst hgst
      go_wp2_with fail
      go_roundw
      case rel =>
        refine ⟨k + 1, xs.set k (.bool (!r)), by omega, by go_num, HST, fun t ht => ?_, HB8.out.grown HGS.out hsz8 (fun r hr => by cases hr; exact Nat.le_refl _)⟩
        rcases Nat.lt_or_ge t k with h1 | h1
        · rw [List.getElem?_set_ne (by omega)]; exact HX.out t h1
        · obtain rfl : t = k := by omega
          rw [List.getElem?_set_self (by have := HXL.out; omega), HKP.out]
      case measure => simp [intOf]; omega
    · have hkn : k = n0 := by omega
      subst hkn
      obtain ⟨w6, hw6⟩ : ∃ x, x = wr := ⟨_, rfl⟩
      subst hw6
      have HKL : Hid ((keepOf L0 L1).length = k) := by show _ = _; simp [keepOf, HL0.out]
      have HOW : Hid (w6.ownsRow w4.heap.size 4 1 (.slice (some ⟨w4.heap.size, 0, none⟩) k k) k ((keepOf L0 L1).map Value.bool)) :=
        own_ext HOk.out (by simp [HKL.out]) (fun t ht => by rw [HX.out t ht]; simp [show t < (keepOf L0 L1).length by rw [HKL.out]; exact ht])
      have hs6 : w4.heap.size ≤ w6.heap.size := HBk.out.size
      have HB6 : Hid (Below w.heap.size w w6) := HB4.out.trans (HBk.out.mono (by omega))
      have HREP6 : Hid (Rep 65537 w6 bs w1.heap.size w2.heap.size (SetOf k L0)) := HREP4.out.frame (fun i _ h2 => HBk.out.block i (by omega))
      have HREPO6 : Hid (Rep 65537 w6 bo w3.heap.size w4.heap.size (SetOf n1 L1)) := HREPO.out.frame (fun i _ h2 => HBk.out.block i (by omega))
      clear HOk HX HREP4 HREPO
      go_wp2_with (go_at_call 10; refine (remove_apart 65537 65537 bs w1.heap.size w2.heap.size bo w3.heap.size w4.heap.size _ _ w6 HREP6.out HREPO6.out (.inl hs3) (by omega) hs6).mono ?_; rintro e w7 ⟨rfl, hrep, hout⟩; refine Hid.out ?_)
      refine Lib.hid ?_
      have HREP7 := Lib.hid hrep
      have hs7 : w6.heap.size ≤ w7.heap.size := hout.size
      have HB7 : Hid (Below w.heap.size w w7) := HB6.out.trans (hout.below hs1 (by omega))
      have HOW7 : Hid (w7.ownsRow w4.heap.size 4 1 (.slice (some ⟨w4.heap.size, 0, none⟩) k k) k ((keepOf L0 L1).map Value.bool)) := own_out HOW.out hout (by omega)
      clear hrep hout HOW HREP6 HREPO6
      have R07 : Hid (RdP w7.heap.size w7 a0 k c0 L0) := (R0.out.below HB7.out).mono (by omega)
      have RB7 : Hid (RdB w7.heap.size w7 (some ⟨w4.heap.size, 0, none⟩) k k (keepOf L0 L1)) := by
        obtain ⟨a, c, e, hr⟩ := rdb_of_own HKL.out HOW7.out
        simp only [Value.slice.injEq] at e
        obtain ⟨rfl, _, rfl⟩ := e
        exact hr
      have HSS : Hid (∀ p, (SetOf k L0 p ∧ ¬ SetOf n1 L1 p) ↔ ∃ i, i < k ∧ (keepOf L0 L1).getD i false = true ∧ L0.getD i [] = p) := by
        intro p
        rw [setOf_mem HL1.out]
        constructor
        · rintro ⟨⟨i, hi, rfl⟩, hn⟩
          exact ⟨i, hi, (keepOf_at L0 L1 i (by rw [HL0.out]; exact hi)).2 hn, rfl⟩
        · rintro ⟨i, hi, hkp, rfl⟩
          exact ⟨⟨i, hi, rfl⟩, (keepOf_at L0 L1 i (by rw [HL0.out]; exact hi)).1 hkp⟩
      go_wp2_with (go_at_call 11; refine (holdsExactly_true 65537 bs w1.heap.size w2.heap.size _ a0 _ k c0 k L0 (keepOf L0 L1) w7 HREP7.out (by omega) R07.out RB7.out HS0.out HF0.out HSS.out).mono ?_; rintro e w8 ⟨rfl, hb⟩; refine Hid.out ?_)
      refine Lib.hid ?_
      have HB8 : Hid (Below w.heap.size w w8) := HB7.out.trans (hb.mono (by omega))
      clear hb
      go_wp2_with fail
      go_ret
      exact ⟨rfl, HB8.out⟩

end Go.Proofs.Qxb6628763a
