/-
  SEAT b6628736a. THE WALK OF FnAppendCountsSkipIsRemoval (4).
-/
import Derived.Test.Qxb6628736aPlain
import Derived.Deep.Cut
namespace Go.Proofs.Qxb6628736a
open Go.RowKit

theorem Rd.next {w w' : World} {a : Option Addr} {n c : Nat} {l : List UInt8} (h : Rd w.heap.size w a n c l) (hb : Below w.heap.size w w') : Rd w'.heap.size w' a n c l :=
  (h.below hb).mono hb.size
theorem Rq.next {w w' : World} {a : Option Addr} {n c : Nat} {l : List Nat} (h : Rq w.heap.size w a n c l) (hb : Below w.heap.size w w') : Rq w'.heap.size w' a n c l :=
  (h.below hb).mono hb.size
theorem same_is (r : Bool) (B : Nat) (a0 a1 : Option Addr) (n0 c0 n1 c1 : Nat) (s p : List UInt8) (w : World) (r0 : Rd B w a0 n0 c0 s) (r1 : Rd B w a1 n1 c1 p) (h : decide (s = p) = r) :
    Calls Try.prog 8 #[.slice a0 n0 c0, .slice a1 n1 c1] w fun e w' => e = .returned (.bool r) ∧ ∃ j, w' = w.drewN j := by
  subst h
  exact same_any B a0 a1 n0 c0 n1 c1 s p w r0 r1

theorem getD_app_left (p r : List UInt8) (j : Nat) (h : j < p.length) : (p ++ r).getD j 0 = p.getD j 0 := by
  simp [List.getD_eq_getElem?_getD, List.getElem?_append_left h]

theorem chain {w w1 w2 : World} (h : Below w.heap.size w w1) (k : Below w1.heap.size w1 w2) : Below w.heap.size w w2 := h.trans (k.mono h.size)

set_option maxRecDepth 100000 in
set_option maxHeartbeats 3200000 in
theorem walk4 (a0 : Option Addr) (n0 c0 : Nat) (l0 : List UInt8) (a1 : Option Addr) (m c1 : Nat) (zs : List Nat) (skip : Int) (w : World)
    (r0 : Rd w.heap.size w a0 n0 c0 l0) (r1 : Rq w.heap.size w a1 m c1 zs) (hz : ∀ z ∈ zs, z < 18446744073709551616) :
    Calls Try.prog 4 #[.slice a0 n0 c0, .slice a1 m c1, .int .i64 skip] w fun e w' => e = .returned (.bool true) ∧ Below w.heap.size w w' := by
  obtain ⟨i0, hi, hz0, hz1, hz2⟩ := info_parts info30
  have hn0 : n0 ≤ 9223372036854775807 := by have := r0.2.1; have := r0.2.2.1; unfold maxLen at *; omega
  have hn1 : m ≤ 9223372036854775807 := by have := r1.2.1; have := r1.2.2.1; unfold maxLen at *; omega
  have R0 : Hid (Rd w.heap.size w a0 n0 c0 l0) := r0
  have R1 : Hid (Rq w.heap.size w a1 m c1 zs) := r1
  have HL0 : Hid (l0.length = n0) := r0.1
  have HL1 : Hid (zs.length = m) := r1.1
  have HZ : Hid (∀ z ∈ zs, z < 18446744073709551616) := hz
  clear r0 r1 hz
  have q23 : ∀ (w : World) (a : Option Addr) (n c n' c' : Nat), (binOp .neq 23 (.slice a n c) (.slice none n' c')).run Try.prog w = .ok (.bool (!a.isNone)) w := fun w a n c n' c' => run_neq_slice_nil_any w 23 30 a n c n' c' Try.underlying23
  go_enter Try.func4, Try.ntmps4
  go_wp2_with (go_at_call 10; refine (zz10 _ _ _ _ _ _ _ _ (by unfold maxLen; omega) (by unfold maxLen; omega)).mono ?_; rintro e w' ⟨r, rfl, rfl⟩; refine Hid.out ?_)
  refine Lib.hid ?_
  cases r with
  | false =>
    go_wp2_with fail
    go_ret
    exact ⟨rfl, Below.refl _ _⟩
  | true =>
  by_cases h0 : 524288 < n0
  · go_wp2_with fail
    go_ret
    exact ⟨rfl, Below.refl _ _⟩
  by_cases h1 : 65536 < m
  · go_wp2_with fail
    go_ret
    exact ⟨rfl, Below.refl _ _⟩
  have k0 : n0 ≤ 524288 := by omega
  have k1 : m ≤ 65536 := by omega
  clear h0 h1
  go_upto_if 27 with fail
  go_cut [1] from 15 (fun s1 wx => ∃ b1 d1, s1 = .slice b1 m d1 ∧ Hid (Rq wx.heap.size wx b1 m d1 zs) ∧ Hid (Below w.heap.size w wx))
  case first =>
    cases a1 with
    | none =>
      go_wp2_with fail
      go_meet
      case rel => exact ⟨none, c1, rfl, R1, Below.refl _ _⟩
    | some x =>
      go_wp2_with (at_make; refine wpList_make_full _ rfl _ _ 23 rfl w.heap.size 30 i0 (.int .u64 0) 1 Try.underlying23 hi hz0 hz1 _ _ _ _ m rfl rfl rfl rfl (by rw [hz2]; omega) (by unfold maxLen; omega) (Nat.le_refl _) ?_)
      intro w1 hown hgrow
      have HB : Hid (Below w.heap.size w w1) := (Below.refl _ _).grown hgrow (Nat.le_refl _) (fun k hk => by cases hk)
      have HO := Lib.hid hown
      clear hown hgrow
      go_wp2_with (refine wpList_copy64 rfl (.tmp 31) (.tmp 32) rfl w.heap.size w1 w.heap.size m c1 x _ zs w.heap.size rfl rfl HO.out (R1.out.below HB.out) ?_)
      intro w2 hown2 hb2
      have HO2 := Lib.hid hown2
      have HB2 : Hid (Below w.heap.size w w2) := HB.out.trans hb2
      clear hown2 hb2
      go_wp2_with fail
      go_meet
      case rel =>
        obtain ⟨b, d, e, rq⟩ := rq_of_own HO2.out
        simp only [Value.slice.injEq] at e
        obtain ⟨rfl, _, rfl⟩ := e
        exact ⟨_, _, rfl, rq, HB2⟩
  case rest =>
    obtain ⟨b1, d1, rfl, RQ, HB⟩ := hcut
    replace R0 : Hid (Rd wc.heap.size wc a0 n0 c0 l0) := R0.out.next HB.out
    clear R1
    have HE := Lib.hid (encF_le skip zs 0 HZ.out)
    -- out
    go_wp2_with (go_at_call 7; refine (clone_any a0 n0 c0 l0 wc R0.out (by omega)).mono ?_; rintro e w1 ⟨e0, rfl, hown, hb⟩; refine Hid.out ?_)
    refine Lib.hid ?_
    have RQ0 : Hid (Rq wc.heap.size w1 b1 m d1 zs) := RQ.out.below hb
    have HO := Lib.hid hown
    have hs1 : wc.heap.size ≤ w1.heap.size := hb.size
    have HB1 := Lib.hid hb
    clear hown hb
    go_wp2_with (go_at_call 6; refine (counts_any wc.heap.size _ n0 l0 b1 m d1 zs skip w1 HO.out RQ0.out HZ.out hs1 (by omega) (by omega)).mono ?_; rintro e w2 ⟨v2, rfl, hown, hb⟩; refine Hid.out ?_)
    refine Lib.hid ?_
    replace HB1 : Hid (Below wc.heap.size wc w2) := HB1.out.trans hb
    clear hb RQ0 HO hs1
    replace R0 : Hid (Rd w2.heap.size w2 a0 n0 c0 l0) := R0.out.next HB1.out
    replace RQ : Hid (Rq w2.heap.size w2 b1 m d1 zs) := RQ.out.next HB1.out
    replace HB : Hid (Below w.heap.size w w2) := chain HB.out HB1.out
    clear HB1
    obtain ⟨ao, co, rfl, rd⟩ := rd_of_own hown
    have RO := Lib.hid rd
    clear rd hown
    obtain ⟨no, hno⟩ : ∃ no, no = n0 + (encF skip 0 zs).length := ⟨_, rfl⟩
    rw [← hno] at RO ⊢
    have HN := Lib.hid hno
    have hno1 : no ≤ n0 + 10 * m := by have := HE.out; have := HL1.out; omega
    have hno2 : n0 ≤ no := by omega
    clear hno
    go_upto_region 13 with fail
    go_cut [47] from 15 (fun s47 wx => ∃ r : Bool, s47 = .bool r ∧ Hid (r = true ↔ 0 ≤ skip ∧ skip < (m : Int)) ∧ wx = w2)
    case first =>
      by_cases hs0 : 0 ≤ skip
      · by_cases hs1 : skip < (m : Int)
        · go_wp2_with fail
          go_meet
          case rel => exact ⟨true, by simp, ⟨fun _ => ⟨hs0, hs1⟩, fun _ => rfl⟩, rfl⟩
        · go_wp2_with fail
          go_meet
          case rel => exact ⟨false, by simp, ⟨(fun h => by cases h), (fun h => by omega)⟩, rfl⟩
      · have hd0 : decide (0 ≤ skip) = false := decide_eq_false hs0
        go_wp2_with fail
        go_meet
        case rel => exact ⟨false, by simp, ⟨(fun h => by cases h), (fun h => by omega)⟩, rfl⟩
    case rest =>
      obtain ⟨r, rfl, HR, rfl⟩ := hcut
      go_upto_if 47 with fail
      go_cut [9] from 15 (fun s9 wx => ∃ ar cr, s9 = .slice ar no cr ∧ Hid (Rd wx.heap.size wx ar no cr (l0 ++ encF skip 0 zs)) ∧ Hid (Below wc.heap.size wc wx))
      case first =>
        cases r
        case true =>
          have hm1 : 1 ≤ m := by have := HR.out.1 rfl; omega
          go_wp2_with (at_make; refine wpList_make_own _ rfl _ _ 23 rfl wc.heap.size 30 i0 (.int .u64 0) 1 Try.underlying23 hi hz0 hz1 _ _ _ (m - 1) rfl rfl (by omega) (by rw [hz2]; omega) (by unfold maxLen; omega) (Nat.le_refl _) ?_)
          intro w3 hown hgrow
          have HB3 : Hid (Below wc.heap.size wc w3) := (Below.refl _ _).grown hgrow (Nat.le_refl _) (fun k hk => by cases hk)
          have HO := Lib.hid hown
          clear hown hgrow
          go_wp2_with fail
          go_loopw [10, 11] (fun v i wr => ∃ k : Nat, k ≤ m ∧ i = .int .i64 k ∧ Hid (wr.ownsRow wc.heap.size 30 1 v (remF skip 0 (zs.take k)).length (qCells (remF skip 0 (zs.take k)))) ∧ Hid (Below wc.heap.size wc wr)) (fun _ i _ => m - (intOf i).toNat)
          case atStart => exact ⟨0, Nat.zero_le _, rfl, by simpa [remF, qCells, Hid] using HO.out, HB3⟩
          case round =>
            obtain ⟨k, hk, rfl, HOk, HBk⟩ := hrel
            by_cases hlt : k < m
            · obtain ⟨b, off, rfl, hbB, hc⟩ := RQ.out.at (by omega)
              have g0 := hc k hlt
              have g1 : wr.cell? ⟨b, off + k, none⟩ = some (.int .u64 ((zs.getD k 0 : Nat) : Int)) := by rw [HBk.out.cell (p := ⟨b, off + k, none⟩) hbB]; exact g0
              clear g0 hc
              have HLL := HL1.out
              have hsn := remF_snoc skip (zs.take k) 0 (zs.getD k 0)
              rw [← take_snoc zs k (by omega), List.length_take, Nat.min_eq_left (by omega), Nat.zero_add] at hsn
              have hle := remF_le skip (zs.take k) 0
              rw [List.length_take, Nat.min_eq_left (by omega)] at hle
              clear HLL
              obtain ⟨x, hx⟩ : ∃ x : Nat, x = zs.getD k 0 := ⟨_, rfl⟩
              rw [← hx] at g1 hsn
              have HS := Lib.hid hsn
              clear hsn hx
              have hsz : wc.heap.size ≤ wr.heap.size := HBk.out.size
              have i1 : (k : Int) < (m : Int) := by omega
              by_cases hsk : (k : Int) = skip
              · have hne : ((k : Int) != skip) = false := by simp [hsk]
                have HK := Lib.hid hsk
                clear hsk
                go_wp2_with fail
                go_roundw
                case rel =>
                  have e := HS.out
                  rw [if_pos HK.out, List.append_nil] at e
                  exact ⟨k + 1, by omega, by go_num, by rw [e]; exact HOk, HBk⟩
                case measure => simp [intOf]; omega
              · have hne : ((k : Int) != skip) = true := by simp [hsk]
                have HK := Lib.hid hsk
                clear hsk
                go_wp2_with (at_builtin; refine wpList_append_own _ rfl _ _ 23 rfl wc.heap.size 30 i0 (.int .u64 0) 1 8 Try.underlying23 hi hz0 hz1 hz2 rfl (by decide) _ _ _ rfl (HOk.out.alloc _) ⟨wr.heap.size, 0, none⟩ 1 1 [Value.int .u64 (x : Int)] rfl rfl (cell_one_new _ _ _) (by intro u' hu'; simp at hu'; subst hu'; rfl) (by unfold maxLen; omega) (by omega) (by simp; omega) ?_)
                intro v1 w4 hown1 hg1 _
                have HO1 := Lib.hid hown1
                have HB1 : Hid (Below wc.heap.size wc w4) := (HBk.out.alloc hsz _).grown hg1 (by simp; omega) (fun k hk => (HOk.out.lt k hk).1)
                clear hown1 hg1
                go_wp2_with fail
                go_roundw
                case rel =>
                  have e := HS.out
                  rw [if_neg HK.out] at e
                  refine ⟨k + 1, by omega, by go_num, ?_, HB1⟩
                  rw [e, List.length_append, qc_app]
                  exact HO1
                case measure => simp [intOf]; omega
            · obtain ⟨bv, dv, rfl, rq⟩ := rq_of_own HOk.out
              have RV := Lib.hid rq
              clear rq
              have HLL := HL1.out
              have e1 : zs.take k = zs := List.take_of_length_le (by omega)
              rw [e1] at RV ⊢
              have hle := remF_le skip zs 0
              have HM : Hid (∀ z ∈ remF skip 0 zs, z < 18446744073709551616) := fun z hz => HZ.out z (remF_mem skip z zs 0 hz)
              obtain ⟨mr, hmr⟩ : ∃ mr, mr = (remF skip 0 zs).length := ⟨_, rfl⟩
              rw [← hmr] at RV ⊢ hle
              rw [HLL] at hle
              have R0w : Hid (Rd wr.heap.size wr a0 n0 c0 l0) := R0.out.next HBk.out
              clear HOk HLL e1 hmr
              go_wp2_with (go_at_call 7; refine (clone_any a0 n0 c0 l0 wr R0w.out (by omega)).mono ?_; rintro e w5 ⟨e0, rfl, hown, hb⟩; refine Hid.out ?_)
              refine Lib.hid ?_
              have HO5 := Lib.hid hown
              have HB5 := Lib.hid hb
              have hs5 : wr.heap.size ≤ w5.heap.size := hb.size
              clear hown hb
              go_wp2_with (go_at_call 6; refine (counts_any wr.heap.size _ n0 l0 bv mr dv (remF skip 0 zs) (-1) w5 HO5.out (RV.out.below HB5.out) HM.out hs5 (by omega) (by omega)).mono ?_; rintro e w6 ⟨v6, rfl, hown, hb⟩; refine Hid.out ?_)
              refine Lib.hid ?_
              have HB6 : Hid (Below wc.heap.size wc w6) := chain HBk.out (HB5.out.trans hb)
              have HO6 := Lib.hid hown
              clear hown hb
              go_wp2_with fail
              go_meet
              case rel =>
                have h := HO6.out
                rw [encF_neg, ← HN.out] at h
                obtain ⟨ar, cr, rfl, rd⟩ := rd_of_own h
                exact ⟨ar, cr, rfl, rd, HB6⟩
        case false =>
          go_wp2_with (go_at_call 7; refine (clone_any a0 n0 c0 l0 wc R0.out (by omega)).mono ?_; rintro e w5 ⟨e0, rfl, hown, hb⟩; refine Hid.out ?_)
          refine Lib.hid ?_
          have HO5 := Lib.hid hown
          have HB5 := Lib.hid hb
          have hs5 : wc.heap.size ≤ w5.heap.size := hb.size
          clear hown hb
          go_wp2_with (go_at_call 6; refine (counts_any wc.heap.size _ n0 l0 b1 m d1 zs (-1) w5 HO5.out (RQ.out.below HB5.out) HZ.out hs5 (by omega) (by omega)).mono ?_; rintro e w6 ⟨v6, rfl, hown, hb⟩; refine Hid.out ?_)
          refine Lib.hid ?_
          have HB6 : Hid (Below wc.heap.size wc w6) := HB5.out.trans hb
          have HO6 := Lib.hid hown
          clear hown hb
          go_wp2_with fail
          go_meet
          case rel =>
            have h := HO6.out
            have hout : ¬ (0 ≤ skip ∧ skip < (m : Int)) := fun h => by cases HR.out.2 h
            rw [encF_out skip zs 0 (fun j _ h2 e => by have := HL1.out; exact hout ⟨by omega, by omega⟩), ← HN.out] at h
            obtain ⟨ar, cr, rfl, rd⟩ := rd_of_own h
            exact ⟨ar, cr, rfl, rd, HB6⟩
      case rest =>
        obtain ⟨ar, cr, rfl, RR, HB2⟩ := hcut
        replace R0 := Lib.hid (R0.out.next HB2.out)
        replace RQ := Lib.hid (RQ.out.next HB2.out)
        replace RO := Lib.hid (RO.out.next HB2.out)
        replace HB := Lib.hid (chain HB.out HB2.out)
        clear HB2 HR HE
        go_wp2_with fail
        go_loopw [12, 13] (fun v i wr => ∃ k t : Nat, k ≤ m ∧ i = .int .i64 k ∧ v = .int .i64 t ∧ t ≤ n0 + 10 * k ∧ Hid (t = n0 + (encF skip 0 (zs.take k)).length) ∧ wr = wc) (fun _ i _ => m - (intOf i).toNat)
        case atStart => exact ⟨0, n0, Nat.zero_le _, rfl, rfl, by omega, rfl, rfl⟩
        case round =>
          obtain ⟨k, t, hk, rfl, rfl, ht, HT, rfl⟩ := hrel
          by_cases hlt : k < m
          · obtain ⟨b, off, rfl, hbB, hc⟩ := RQ.out.at (by omega)
            have g1 := hc k hlt
            clear hc
            have HLL := HL1.out
            have hsn := encF_snoc skip (zs.take k) 0 (zs.getD k 0)
            rw [← take_snoc zs k (by omega), List.length_take, Nat.min_eq_left (by omega), Nat.zero_add] at hsn
            have hxb : zs.getD k 0 < 18446744073709551616 := HZ.out _ (by
              have e : zs.getD k 0 = zs[k] := by simp [show k < zs.length by omega]
              rw [e]
              exact List.getElem_mem _)
            clear HLL
            obtain ⟨x, hx⟩ : ∃ x : Nat, x = zs.getD k 0 := ⟨_, rfl⟩
            rw [← hx] at g1 hsn hxb
            have HS := Lib.hid hsn
            clear hsn hx
            have hul := Lib.uvarint_length64 hxb
            have i1 : (k : Int) < (m : Int) := by omega
            by_cases hsk : (k : Int) = skip
            · have hne : ((k : Int) != skip) = false := by simp [hsk]
              have HK := Lib.hid hsk
              clear hsk
              go_wp2_with fail
              go_roundw
              case rel =>
                have e := HS.out
                rw [if_pos HK.out, List.append_nil] at e
                exact ⟨k + 1, t, by omega, by go_num, rfl, by omega, by rw [e]; exact HT, by trivial⟩
              case measure => simp [intOf]; omega
            · have hne : ((k : Int) != skip) = true := by simp [hsk]
              have HK := Lib.hid hsk
              clear hsk
              go_wp2_with (go_at_call 11; refine (size_any x hxb _).mono ?_; rintro e w7 ⟨rfl, rfl⟩; refine Hid.out ?_)
              refine Lib.hid ?_
              go_wp2_with fail
              go_roundw
              case rel =>
                have e := HS.out
                rw [if_neg HK.out] at e
                refine ⟨k + 1, t + (Lib.uvarint x).length, by omega, by go_num, by go_num, by omega, ?_, by trivial⟩
                show t + (Lib.uvarint x).length = _
                rw [e, List.length_append, HT.out]
                omega
              case measure => simp [intOf]; omega
          · have hkm : k = m := by omega
            have e1 : zs.take k = zs := List.take_of_length_le (by have := HL1.out; omega)
            have HTN : Hid (t = no) := by have h1 := HT.out; have h2 := HN.out; rw [e1] at h1; show t = no; omega
            clear e1 HT
            have htn := HTN.out
            subst htn
            subst hkm
            clear HTN
            go_wp2_with (go_at_call 8; refine (same_is true _ ao ar t co t cr _ _ _ RO.out RR.out (decide_eq_true rfl)).mono ?_; rintro e w7 ⟨rfl, j1, rfl⟩; refine Hid.out ?_)
            refine Lib.hid ?_
            clear RQ RR
            go_wp2_with fail
            have R0d := Lib.hid (R0.out.drewN j1)
            have ROd := Lib.hid (RO.out.drewN j1)
            have HBd := Lib.hid (below_drewN HB.out j1)
            clear R0 RO HB
            generalize wr.drewN j1 = wz at *
            go_loopw [14] (fun i wq => ∃ k2 j : Nat, k2 ≤ n0 ∧ i = .int .i64 k2 ∧ wq = wz.drewN j) (fun i _ => n0 - (intOf i).toNat)
            case atStart => exact ⟨0, 0, Nat.zero_le _, rfl, rfl⟩
            case round =>
              obtain ⟨k2, j, hk2, rfl, rfl⟩ := hrel
              by_cases hlt2 : k2 < n0
              · obtain ⟨b0, o0, rfl, hb0, hc0⟩ := R0d.out.at (by omega)
                obtain ⟨b2, o2, rfl, hb2, hc2⟩ := ROd.out.at (by omega)
                have g0 := hc0 k2 (by omega)
                have g1 := hc2 k2 (by omega)
                clear hc0 hc2
                rw [getD_app_left _ _ _ (by have := HL0.out; omega)] at g1
                obtain ⟨x, hx⟩ : ∃ x : Int, x = ((l0.getD k2 0).toNat : Int) := ⟨_, rfl⟩
                rw [← hx] at g0 g1
                clear hx
                have i2 : (k2 : Int) < (n0 : Int) := by omega
                have i3 : (k2 : Int) < (t : Int) := by omega
                go_wp2_with fail
                go_quiet (fail)
                go_wp2_with fail
                go_roundw
                case rel => exact ⟨k2 + 1, _, by omega, by go_num, rfl⟩
                case measure => simp [intOf]; omega
              · go_wp2_with fail
                go_ret
                exact ⟨rfl, below_drewN HBd.out _⟩

end Go.Proofs.Qxb6628736a
