/-
  SEAT b6628736a. THE WALK OF FnAppendCountsCutAndDecode (3).
-/
import Derived.Test.Qxb6628736aDec
import Derived.Deep.RegionWith
namespace Go.Proofs.Qxb6628736a
open Go.RowKit

theorem encF_shift (s t : Int) : ∀ (ys : List Nat) (i j : Nat), (∀ r : Nat, ((i + r : Nat) : Int) = s ↔ ((j + r : Nat) : Int) = t) → encF s i ys = encF t j ys
  | [], i, j, _ => by simp [encF]
  | y :: ys, i, j, h => by
    rw [encF, encF, encF_shift s t ys (i + 1) (j + 1) (fun r => by have := h (r + 1); rw [show i + 1 + r = i + (r + 1) by omega, show j + 1 + r = j + (r + 1) by omega]; exact this)]
    have h0 := h 0
    rw [Nat.add_zero, Nat.add_zero] at h0
    by_cases hi : (i : Int) = s
    · rw [if_pos hi, if_pos (h0.1 hi)]
    · rw [if_neg hi, if_neg (fun e => hi (h0.2 e))]

theorem encF_cut (skip : Int) (zs : List Nat) (k : Nat) (hk : k ≤ zs.length) (rs : Int) (hrs : rs = if (k : Int) ≤ skip then skip - k else -1) :
    encF skip 0 zs = encF skip 0 (zs.take k) ++ encF rs 0 (zs.drop k) := by
  have e := encF_split skip (zs.take k) (zs.drop k) 0
  rw [List.take_append_drop, List.length_take, Nat.min_eq_left hk, Nat.zero_add] at e
  rw [e, encF_shift skip rs (zs.drop k) k 0]
  intro r
  subst hrs
  split <;> omega

theorem Rq.take {B : Nat} {w : World} {a : Option Addr} {n c : Nat} {l : List Nat} (h : Rq B w a n c l) (k : Nat) (hk : k ≤ n) : Rq B w a k c (l.take k) := by
  obtain ⟨h1, h2, h3, h4, h5⟩ := h
  refine ⟨by simp; omega, by omega, h3, h4, fun i hi => ?_⟩
  obtain ⟨b, off, e, hb, hc⟩ := h5 i (by omega)
  refine ⟨b, off, e, hb, ?_⟩
  rw [hc]
  simp [hi]

theorem Rq.dropSome {B : Nat} {w : World} {a : Option Addr} {n c : Nat} {l : List Nat} (h : Rq B w a n c l) (k : Nat) (hk : k ≤ n) : Rq B w (a.map fun x => x.add k) (n - k) (c - k) (l.drop k) := by
  obtain ⟨h1, h2, h3, h4, h5⟩ := h
  refine ⟨by simp; omega, by omega, by omega, ?_, fun i hi => ?_⟩
  · intro e
    have : a = none := by cases a with | none => rfl | some _ => cases e
    have := h4 this
    omega
  · obtain ⟨b, off, e, hb, hc⟩ := h5 (k + i) (by omega)
    subst e
    refine ⟨b, off + k, ?_, hb, ?_⟩
    · simp [Addr.add_lit]
    · rw [Nat.add_assoc, hc]
      simp

theorem Rq.dropEnd {B : Nat} {w : World} {a : Option Addr} {n c : Nat} {l : List Nat} (h : Rq B w a n c l) (k : Nat) (hk : k ≤ n) (he : c = k) : Rq B w a (n - k) 0 (l.drop k) := by
  obtain ⟨h1, h2, h3, h4, h5⟩ := h
  refine ⟨by simp; omega, by omega, by omega, fun _ => rfl, fun i hi => absurd hi (by omega)⟩

set_option maxRecDepth 100000 in
set_option maxHeartbeats 3200000 in
theorem walk3 (a0 : Option Addr) (n0 c0 : Nat) (l0 : List UInt8) (a1 : Option Addr) (m c1 : Nat) (zs : List Nat) (skip kk : Int) (w : World)
    (r0 : Rd w.heap.size w a0 n0 c0 l0) (r1 : Rq w.heap.size w a1 m c1 zs) (hz : ∀ z ∈ zs, z < 18446744073709551616) (hs0 : -9223372036854775808 ≤ skip) (hs1 : skip ≤ 9223372036854775807) :
    Calls Try.prog 3 #[.slice a0 n0 c0, .slice a1 m c1, .int .i64 skip, .int .i64 kk] w fun e w' => e = .returned (.bool true) ∧ Below w.heap.size w w' := by
  obtain ⟨i0, hi, hz0, hz1, hz2⟩ := info_parts info30
  have hn0 : n0 ≤ 9223372036854775807 := by have := r0.2.1; have := r0.2.2.1; unfold maxLen at *; omega
  have hn1 : m ≤ 9223372036854775807 := by have := r1.2.1; have := r1.2.2.1; unfold maxLen at *; omega
  have R0 : Hid (Rd w.heap.size w a0 n0 c0 l0) := r0
  have R1 : Hid (Rq w.heap.size w a1 m c1 zs) := r1
  have HL0 : Hid (l0.length = n0) := r0.1
  have HL1 : Hid (zs.length = m) := r1.1
  have HZ : Hid (∀ z ∈ zs, z < 18446744073709551616) := hz
  clear r0 r1 hz
  have q23 : ∀ (w : World) (a : Option Addr) (n c n' c' : Nat), (binOp .neq 23 (.slice a n c) (.slice none n' c')).run Try.prog w = .ok (.bool (!a.isNone)) w := fun w a n c n' c' => run_neq_slice_nil_any w 23 30 a n c n' c' Try.underlying23
  go_enter Try.func3, Try.ntmps3
  go_wp2_with (go_at_call 5; refine (zz5 _ _ _ _ _ _ _ _ _ (by unfold maxLen; omega) (by unfold maxLen; omega)).mono ?_; rintro e w' ⟨r, rfl, rfl⟩; refine Hid.out ?_)
  refine Lib.hid ?_
  cases r with
  | false =>
    go_wp2_with fail
    go_ret
    exact ⟨rfl, Below.refl _ _⟩
  | true =>
  by_cases h0 : 524288 < n0
  · go_wp2_with fail
    go_ret
    exact ⟨rfl, Below.refl _ _⟩
  by_cases h1 : 65536 < m
  · go_wp2_with fail
    go_ret
    exact ⟨rfl, Below.refl _ _⟩
  have k0 : n0 ≤ 524288 := by omega
  have k1 : m ≤ 65536 := by omega
  clear h0 h1
  by_cases hk0 : kk < 0
  · go_wp2_with fail
    go_ret
    exact ⟨rfl, Below.refl _ _⟩
  have hkd : decide (kk < 0) = false := decide_eq_false hk0
  by_cases hk1 : (m : Int) < kk
  · go_wp2_with fail
    go_ret
    exact ⟨rfl, Below.refl _ _⟩
  obtain ⟨k, rfl⟩ : ∃ k : Nat, kk = (k : Int) := ⟨kk.toNat, by omega⟩
  have hkm : k ≤ m := by omega
  clear hk0 hk1 hkd
  go_upto_if 35 with fail
  go_cut [1] from 14 (fun s1 wx => ∃ b1 d1, s1 = .slice b1 m d1 ∧ Hid (Rq wx.heap.size wx b1 m d1 zs) ∧ Hid (Below w.heap.size w wx))
  case first =>
    cases a1 with
    | none =>
      go_wp2_with fail
      go_meet
      case rel => exact ⟨none, c1, rfl, R1, Below.refl _ _⟩
    | some x =>
      go_wp2_with (at_make; refine wpList_make_full _ rfl _ _ 23 rfl w.heap.size 30 i0 (.int .u64 0) 1 Try.underlying23 hi hz0 hz1 _ _ _ _ m rfl rfl rfl rfl (by rw [hz2]; omega) (by unfold maxLen; omega) (Nat.le_refl _) ?_)
      intro w1 hown hgrow
      have HB : Hid (Below w.heap.size w w1) := (Below.refl _ _).grown hgrow (Nat.le_refl _) (fun k hk => by cases hk)
      have HO := Lib.hid hown
      clear hown hgrow
      go_wp2_with (refine wpList_copy64 rfl (.tmp 39) (.tmp 40) rfl w.heap.size w1 w.heap.size m c1 x _ zs w.heap.size rfl rfl HO.out (R1.out.below HB.out) ?_)
      intro w2 hown2 hb2
      have HO2 := Lib.hid hown2
      have HB2 : Hid (Below w.heap.size w w2) := HB.out.trans hb2
      clear hown2 hb2
      go_wp2_with fail
      go_meet
      case rel =>
        obtain ⟨b, d, e, rq⟩ := rq_of_own HO2.out
        simp only [Value.slice.injEq] at e
        obtain ⟨rfl, _, rfl⟩ := e
        exact ⟨_, _, rfl, rq, HB2⟩
  case rest =>
    obtain ⟨b1, d1, rfl, RQ, HB⟩ := hcut
    replace R0 : Hid (Rd wc.heap.size wc a0 n0 c0 l0) := R0.out.next HB.out
    clear R1
    have HE := Lib.hid (encF_le skip zs 0 HZ.out)
    -- whole
    go_wp2_with (go_at_call 7; refine (clone_any a0 n0 c0 l0 wc R0.out (by omega)).mono ?_; rintro e w1 ⟨e0, rfl, hown, hb⟩; refine Hid.out ?_)
    refine Lib.hid ?_
    have RQ0 : Hid (Rq wc.heap.size w1 b1 m d1 zs) := RQ.out.below hb
    have HO := Lib.hid hown
    have hs1 : wc.heap.size ≤ w1.heap.size := hb.size
    have HB1 := Lib.hid hb
    clear hown hb
    go_wp2_with (go_at_call 6; refine (counts_any wc.heap.size _ n0 l0 b1 m d1 zs skip w1 HO.out RQ0.out HZ.out hs1 (by omega) (by omega)).mono ?_; rintro e w2 ⟨v2, rfl, hown, hb⟩; refine Hid.out ?_)
    refine Lib.hid ?_
    replace HB1 : Hid (Below wc.heap.size wc w2) := HB1.out.trans hb
    clear hb RQ0 HO hs1
    replace R0 : Hid (Rd w2.heap.size w2 a0 n0 c0 l0) := R0.out.next HB1.out
    replace RQ : Hid (Rq w2.heap.size w2 b1 m d1 zs) := RQ.out.next HB1.out
    replace HB : Hid (Below w.heap.size w w2) := chain HB.out HB1.out
    clear HB1
    obtain ⟨ao, co, rfl, rd⟩ := rd_of_own hown
    have RO := Lib.hid rd
    clear rd hown
    obtain ⟨no, hno⟩ : ∃ no, no = n0 + (encF skip 0 zs).length := ⟨_, rfl⟩
    rw [← hno] at RO ⊢
    have HN := Lib.hid hno
    have hno1 : no ≤ n0 + 10 * m := by have := HE.out; have := HL1.out; omega
    have hno2 : n0 ≤ no := by omega
    clear hno
    go_upto_if 50 with fail
    go_cut [11] from 14 (fun s11 wx => ∃ rs : Int, s11 = .int .i64 rs ∧ Hid (rs = if (k : Int) ≤ skip then skip - k else -1) ∧ wx = w2)
    case first =>
      by_cases hsk : (k : Int) ≤ skip
      · go_wp2_with fail
        go_meet
        case rel => exact ⟨skip - k, rfl, by show _ = _; rw [if_pos hsk], rfl⟩
      · go_wp2_with fail
        go_meet
        case rel => exact ⟨-1, rfl, by show _ = _; rw [if_neg (by omega)], rfl⟩
    case rest =>
      obtain ⟨rs, rfl, HRS, rfl⟩ := hcut
      have HD1 : Hid (m ≤ d1) := RQ.out.2.1
      have hd1 : m ≤ d1 := HD1.out
      have hd2 : d1 ≤ 9223372036854775807 := by have := RQ.out.2.2.1; unfold maxLen at this; exact this
      obtain ⟨wb, hwb⟩ : ∃ x, x = wc := ⟨_, rfl⟩
      subst hwb
      go_upto_region 17 with fail
      go_cut [12] from 14 (fun s12 wx => ∃ v, s12 = v ∧ Hid (wx.ownsRow wb.heap.size 5 1 v (n0 + (encF skip 0 (zs.take k)).length) (Lib.byteCells (l0 ++ encF skip 0 (zs.take k)))) ∧ Hid (Below wb.heap.size wb wx))
      case first =>
        have HZ2 : Hid (∀ z ∈ zs.take k, z < 18446744073709551616) := fun z hz => HZ.out z (List.mem_of_mem_take hz)
        have RT := Lib.hid (RQ.out.take k hkm)
        go_region_with (first
          | (go_at_call 7; refine (clone_any a0 n0 c0 l0 _ (by exact R0.out) (by omega)).mono ?_; rintro e w5 ⟨e0, rfl, hown, hb⟩)
          | (go_at_call 6; refine (counts_any wb.heap.size _ n0 l0 b1 k d1 (zs.take k) skip _ (by exact hown) (by exact RT.out.below ⟨hb.os, hb.tape, hb.output, hb.size, hb.block⟩) HZ2.out (by exact hb.size) (by omega) (by omega)).mono ?_; rintro e w6 ⟨v6, rfl, hown6, hb6⟩))
        all_goals
          go_wp2_with fail
          go_meet
          case rel =>
            refine ⟨_, rfl, hown6, ?_⟩
            exact Below.trans ⟨hb.os, hb.tape, hb.output, hb.size, hb.block⟩ hb6
      case rest =>
        obtain ⟨vl, rfl, HOL, HB2⟩ := hcut
        have hcsize : wb.heap.size ≤ wc.heap.size := HB2.out.size
        have RQc := Lib.hid (RQ.out.below HB2.out)
        have hle2 := encF_le skip (zs.take k) 0 (fun z hz => HZ.out z (List.mem_of_mem_take hz))
        rw [List.length_take] at hle2
        obtain ⟨nl, hnl⟩ : ∃ nl, nl = n0 + (encF skip 0 (zs.take k)).length := ⟨_, rfl⟩
        rw [← hnl] at HOL
        have hnl1 : nl ≤ 4194304 := by have := HL1.out; omega
        have HNL := Lib.hid hnl
        clear hle2 hnl
        have HJ : Hid (l0 ++ encF skip 0 (zs.take k) ++ encF rs 0 (zs.drop k) = l0 ++ encF skip 0 zs) := by
          have := encF_cut skip zs k (by have := HL1.out; omega) rs HRS.out
          show _ = _
          rw [this, List.append_assoc]
        have HJL : Hid (nl + (encF rs 0 (zs.drop k)).length = no) := by
          have h1 := congrArg List.length HJ.out
          have h2 := HNL.out
          have h3 := HN.out
          simp only [List.length_append] at h1
          show _ = _
          omega
        have HZ3 : Hid (∀ z ∈ zs.drop k, z < 18446744073709551616) := fun z hz => HZ.out z (List.mem_of_mem_drop hz)
        have RD0 : Hid (d1 = k → Rq wb.heap.size wc b1 (m - k) 0 (zs.drop k)) := fun h => RQc.out.dropEnd k hkm h
        have RD1 := Lib.hid (RQc.out.dropSome k hkm)
        by_cases hdk : d1 = k
        · obtain rfl : m = k := by omega
          have RD2 := Lib.hid (RD0.out hdk)
          rw [Nat.sub_self] at RD2
          clear RD0 RD1
          subst hdk
          go_wp2_with (go_at_call 6; refine (counts_any wb.heap.size _ nl _ b1 0 0 _ rs wc HOL.out RD2.out HZ3.out hcsize (by omega) (by omega)).mono ?_; rintro e w6 ⟨v6, rfl, hown6, hb6⟩; refine Hid.out ?_)
          refine Lib.hid ?_
          replace HB2 : Hid (Below wb.heap.size wb w6) := HB2.out.trans hb6
          replace R0 := Lib.hid (R0.out.next HB2.out)
          replace RQ := Lib.hid (RQ.out.next HB2.out)
          replace RO := Lib.hid (RO.out.next HB2.out)
          replace HB := Lib.hid (chain HB.out HB2.out)
          rw [HJL.out, HJ.out] at hown6
          obtain ⟨aj, cj, rfl, rd⟩ := rd_of_own hown6
          have RJ := Lib.hid rd
          clear rd hown6 hb6 HB2 RQc HOL
          go_wp2_with (go_at_call 8; refine (same_is true _ ao aj no co no cj _ _ _ RO.out RJ.out (decide_eq_true rfl)).mono ?_; rintro e w7 ⟨rfl, j1, rfl⟩; refine Hid.out ?_)
          refine Lib.hid ?_
          go_wp2_with (go_at_call 9; refine (decodes_any _ ao no co a0 n0 c0 l0 b1 _ d1 zs skip _ (RO.out.drewN j1) (R0.out.drewN j1) (RQ.out.drewN j1) HZ.out (by omega) (by omega)).mono ?_; rintro e w8 ⟨rfl, j2, rfl⟩; refine Hid.out ?_)
          refine Lib.hid ?_
          go_wp2_with fail
          go_ret
          exact ⟨rfl, below_drewN HB.out _⟩
        · clear RD0
          go_wp2_with (go_at_call 6; refine (counts_any wb.heap.size _ nl _ _ _ _ _ rs wc HOL.out RD1.out HZ3.out hcsize (by omega) (by omega)).mono ?_; rintro e w6 ⟨v6, rfl, hown6, hb6⟩; refine Hid.out ?_)
          refine Lib.hid ?_
          replace HB2 : Hid (Below wb.heap.size wb w6) := HB2.out.trans hb6
          replace R0 := Lib.hid (R0.out.next HB2.out)
          replace RQ := Lib.hid (RQ.out.next HB2.out)
          replace RO := Lib.hid (RO.out.next HB2.out)
          replace HB := Lib.hid (chain HB.out HB2.out)
          rw [HJL.out, HJ.out] at hown6
          obtain ⟨aj, cj, rfl, rd⟩ := rd_of_own hown6
          have RJ := Lib.hid rd
          clear rd hown6 hb6 HB2 RQc HOL
          go_wp2_with (go_at_call 8; refine (same_is true _ ao aj no co no cj _ _ _ RO.out RJ.out (decide_eq_true rfl)).mono ?_; rintro e w7 ⟨rfl, j1, rfl⟩; refine Hid.out ?_)
          refine Lib.hid ?_
          go_wp2_with (go_at_call 9; refine (decodes_any _ ao no co a0 n0 c0 l0 b1 _ d1 zs skip _ (RO.out.drewN j1) (R0.out.drewN j1) (RQ.out.drewN j1) HZ.out (by omega) (by omega)).mono ?_; rintro e w8 ⟨rfl, j2, rfl⟩; refine Hid.out ?_)
          refine Lib.hid ?_
          go_wp2_with fail
          go_ret
          exact ⟨rfl, below_drewN HB.out _⟩

end Go.Proofs.Qxb6628736a
