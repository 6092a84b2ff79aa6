/-
  SEAT b6628783a. THE WALK OF FnValidNameIsByteLocal (3).
-/
import Derived.Test.Qxb6628783aValid
import Derived.Lib.UnsafeStr
namespace Go.Proofs.Qxb6628783a
open Go.RowKit

theorem valid_is (r : Bool) (s : ByteArray) (w : World) (hs : s.size ≤ maxLen) (h : vn s.data.toList = r) :
    Calls Try.prog 6 #[.string s] w fun e w' => e = .returned (.bool r) ∧ w = w' := by
  subst h
  exact (valid_any s w hs).mono fun _ _ h => ⟨h.1, h.2.symm⟩

theorem info5 : (Try.prog.info? 5).map (fun i => (i.zero, i.size, i.bytes)) = some (some (.int .u8 0), 1, 1) := by kernel_rfl

theorem bc_app (a b : List UInt8) : Lib.byteCells (a ++ b) = Lib.byteCells a ++ Lib.byteCells b := by simp [Lib.byteCells]

/-- What is gathered behind a letter after k rounds. -/
def gath (l : List UInt8) (k : Nat) : List UInt8 := 110 :: (l.take k).filter inner

/-- The verdict byte by byte after k rounds. -/
def byB (l : List UInt8) (k : Nat) : Bool := !l.isEmpty && (match l.take k with | [] => true | c :: r => letter c && r.all inner)

theorem gath_step (l : List UInt8) (k : Nat) (h : k < l.length) : gath l (k + 1) = if inner (l.getD k 0) then gath l k ++ [l.getD k 0] else gath l k := by
  have e : l.getD k 0 = l[k] := by simp [h]
  rw [gath, List.take_succ_eq_append_getElem h, List.filter_append, e]
  by_cases hc : inner l[k]
  · simp [hc, gath]
  · simp [hc, gath]

theorem gath_len (l : List UInt8) (k : Nat) : (gath l k).length ≤ k + 1 := by
  have h1 := List.length_filter_le inner (l.take k)
  have h2 : (l.take k).length ≤ k := List.length_take_le _ _
  simp only [gath, List.length_cons]
  omega

theorem gath_vn (l : List UInt8) (k : Nat) : vn (gath l k) = true := by
  simp only [gath, vn, Bool.and_eq_true, List.all_eq_true]
  refine ⟨by decide, fun x hx => ?_⟩
  exact (List.mem_filter.1 hx).2

theorem byB_first (l : List UInt8) (h : 0 < l.length) : byB l 1 = letter (l.getD 0 0) ∧ byB l 0 = true := by
  cases l with
  | nil => simp at h
  | cons c r => simp [byB]

theorem byB_later (l : List UInt8) (k : Nat) (h : k < l.length) (h0 : k ≠ 0) : byB l (k + 1) = (byB l k && inner (l.getD k 0)) := by
  have e : l.getD k 0 = l[k] := by simp [h]
  unfold byB
  rw [List.take_succ_eq_append_getElem h, e]
  cases hl : l.take k with
  | nil => exfalso; have := congrArg List.length hl; rw [List.length_take, List.length_nil] at this; omega
  | cons c r => simp [List.all_append, Bool.and_assoc]

theorem byB_end (l : List UInt8) : byB l l.length = vn l := by
  unfold byB
  rw [List.take_length]
  cases l with
  | nil => simp [vn]
  | cons c r => simp [vn]

theorem pair_list (s : ByteArray) (k : Nat) (h : k < s.size) : ((⟨#[110]⟩ : ByteArray) ++ s.extract k (k + 1)).data.toList = [110, s[k]] := by
  have h' : k < s.data.toList.length := by simpa using h
  simp only [ByteArray.data_append, ByteArray.data_extract, Array.toList_append, Array.toList_extract, List.extract_eq_take_drop]
  rw [show k + 1 - k = 1 by omega, List.drop_eq_getElem_cons h']
  simp
  rfl

theorem one_list (s : ByteArray) (h : 0 < s.size) : (s.extract 0 1).data.toList = [s[0]] := by
  have h' : 0 < s.data.toList.length := by simpa using h
  simp only [ByteArray.data_extract, Array.toList_extract, List.extract_eq_take_drop, List.drop_zero]
  cases hl : s.data.toList with
  | nil => rw [hl] at h'; simp at h'
  | cons c r =>
    simp
    have : s.data.toList[0]'h' = c := by simp [hl]
    rw [← this]
    rfl

set_option maxRecDepth 100000 in
set_option maxHeartbeats 3200000 in
theorem walk3 (s : ByteArray) (w : World) (hs : s.size ≤ maxLen) :
    Calls Try.prog 3 #[.string s] w fun e w' => e = .returned (.bool true) ∧ Below w.heap.size w w' := by
  obtain ⟨i0, hi, hz0, hz1, hz2⟩ := info_parts info5
  have hs1 : s.size ≤ 9223372036854775807 := hs
  have HS := Lib.hid hs
  clear hs
  go_enter Try.func3, Try.ntmps3
  go_wp2_with (go_at_call 5; refine (zz5 _ _ HS.out).mono ?_; rintro e w' ⟨r, rfl, rfl⟩; refine Hid.out ?_)
  refine Lib.hid ?_
  cases r with
  | false =>
    go_wp2_with fail
    go_ret
    exact ⟨rfl, Below.refl _ _⟩
  | true =>
  by_cases h0 : 65536 < s.size
  · go_wp2_with fail
    go_ret
    exact ⟨rfl, Below.refl _ _⟩
  have k0 : s.size ≤ 65536 := by omega
  clear h0
  have hd0 : decide ((65536 : Int) < (s.size : Int)) = false := decide_eq_false (by omega)
  obtain ⟨wh, hwh⟩ : ∃ b, vn s.data.toList = b := ⟨_, rfl⟩
  have HW := Lib.hid hwh
  clear hwh
  go_wp2_with (first
    | (go_at_call 6; refine (valid_is wh s w HS.out HW.out).mono ?_; rintro e w' ⟨rfl, rfl⟩)
    | (at_make; refine wpList_make_own _ rfl _ _ 23 rfl w.heap.size 5 i0 (.int .u8 0) 1 Try.underlying23 hi hz0 hz1 _ _ _ (s.size + 1) rfl rfl (by omega) (by rw [hz2]; omega) (by unfold maxLen; omega) (Nat.le_refl _) ?_; intro w1 hown hgrow; refine Hid.out ?_))
  refine Lib.hid ?_
  have HB : Hid (Below w.heap.size w w1) := (Below.refl _ _).grown hgrow (Nat.le_refl _) (fun k hk => by cases hk)
  have HO := Lib.hid hown
  clear hown hgrow
  have hsz1 : w.heap.size ≤ w1.heap.size := HB.out.size
  go_wp2_with (at_builtin; refine wpList_append_own _ rfl _ _ 23 rfl w.heap.size 5 i0 (.int .u8 0) 1 1 Try.underlying23 hi hz0 hz1 hz2 rfl (by decide) _ _ _ rfl (HO.out.alloc _) ⟨w1.heap.size, 0, none⟩ 1 1 [Value.int .u8 110] rfl rfl (cell_one_new _ _ _) (by intro u' hu'; simp at hu'; subst hu'; rfl) (by unfold maxLen; omega) (by omega) (by simp; omega) ?_)
  intro v2 w2 hown2 hg2 _
  have HB2 : Hid (Below w.heap.size w w2) := (HB.out.alloc hsz1 _).grown hg2 (by simp; omega) (fun k hk => (HO.out.lt k hk).1)
  have HO2 : Hid (w2.ownsRow w.heap.size 5 1 v2 1 (Lib.byteCells [110])) := hown2
  clear hown2 hg2 HO HB hsz1
  go_wp2_with fail
  go_loopw [4, 5, 6] (fun bb v i wr => ∃ k : Nat, k ≤ s.size ∧ i = .int .i64 k ∧ bb = .bool (byB s.data.toList k) ∧ Hid (wr.ownsRow w.heap.size 5 1 v (gath s.data.toList k).length (Lib.byteCells (gath s.data.toList k))) ∧ Hid (Below w.heap.size w wr)) (fun _ _ i _ => s.size - (intOf i).toNat)
  case atStart =>
    refine ⟨0, Nat.zero_le _, rfl, ?_, HO2, HB2⟩
    rw [ByteArray.toList_eq]
    cases s.data.toList <;> simp [byB]
  case round =>
    obtain ⟨k, hk, rfl, rfl, HOk, HBk⟩ := hrel
    have hgl := gath_len s.data.toList k
    have hszr : w.heap.size ≤ wr.heap.size := HBk.out.size
    by_cases hlt : k < s.size
    · have hll : k < s.data.toList.length := by simpa using hlt
      have hgd := getD_get s k hlt
      have hst := gath_step s.data.toList k hll
      have hbl := byB_later s.data.toList k hll
      have hpl := pair_list s k hlt
      rw [hgd] at hst hbl
      have HGS := Lib.hid hst
      have HBL := Lib.hid hbl
      have HPL := Lib.hid hpl
      clear hst hbl hpl hgd hll
      have hsz2 : ((⟨#[110]⟩ : ByteArray) ++ s.extract k (k + 1)).size ≤ maxLen := by
        have e1 : (⟨#[110]⟩ : ByteArray).size = 1 := rfl
        rw [ByteArray.size_append, ByteArray.size_extract, e1]; unfold maxLen; omega
      have HSZ2 := Lib.hid hsz2
      clear hsz2
      have HVP : Hid (vn [110, s[k]] = inner s[k]) := by
        have e1 : letter 110 = true := by decide
        show _ = _
        simp only [vn, List.all_cons, List.all_nil, Bool.and_true, e1, Bool.true_and]
      cases hin : inner s[k] with
      | true =>
        have HIN := Lib.hid hin
        clear hin
        have HVQ : Hid (vn ((⟨#[110]⟩ : ByteArray) ++ s.extract k (k + 1)).data.toList = true) := by show _ = _; rw [HPL.out, HVP.out, HIN.out]
        go_wp2_with (first
          | (go_at_call 6; refine (valid_is true _ wr HSZ2.out HVQ.out).mono ?_; rintro e w' ⟨rfl, rfl⟩)
          | (at_builtin; refine wpList_append_own _ rfl _ _ 23 rfl w.heap.size 5 i0 (.int .u8 0) 1 1 Try.underlying23 hi hz0 hz1 hz2 rfl (by decide) _ _ _ rfl (HOk.out.alloc _) ⟨wr.heap.size, 0, none⟩ 1 1 [Value.int .u8 (s[k].toNat : Int)] rfl rfl (cell_one_new _ _ _) (by intro u' hu'; simp at hu'; subst hu'; rfl) (by unfold maxLen; omega) (by omega) (by simp; omega) ?_))
        intro v3 w3 hown3 hg3 _
        have HB3 : Hid (Below w.heap.size w w3) := (HBk.out.alloc hszr _).grown hg3 (by simp; omega) (fun k hk => (HOk.out.lt k hk).1)
        have HO3 : Hid (w3.ownsRow w.heap.size 5 1 v3 (gath s.data.toList (k + 1)).length (Lib.byteCells (gath s.data.toList (k + 1)))) := by
          have e := HGS.out
          rw [if_pos HIN.out] at e
          show World.ownsRow _ _ _ _ _ _ _
          rw [e, List.length_append, bc_app]
          exact hown3
        clear hown3 hg3 HOk
        by_cases hk0 : k = 0
        · subst hk0
          obtain ⟨f1, f2⟩ := byB_first s.data.toList (by simpa using hlt)
          rw [getD_get s 0 hlt] at f1
          have F1 := Lib.hid f1
          have hb0 : byB s.data.toList 0 = true := f2
          clear f1 f2
          have HO1L := Lib.hid (one_list s hlt)
          have HV1 : Hid (vn [s[0]] = letter s[0]) := by show _ = _; simp [vn]
          have HSZ3 : Hid ((s.extract 0 1).size ≤ maxLen) := by show _ ≤ _; rw [ByteArray.size_extract]; unfold maxLen; omega
          cases hle : letter s[0] with
          | true =>
            have HLE := Lib.hid hle
            clear hle
            have HV2 : Hid (vn (s.extract 0 1).data.toList = true) := by show _ = _; rw [HO1L.out, HV1.out, HLE.out]
            go_wp2_with (go_at_call 6; refine (valid_is true _ _ HSZ3.out HV2.out).mono ?_; rintro e w' ⟨rfl, rfl⟩)
            go_roundw
            case rel => exact ⟨1, by omega, rfl, by rw [F1.out, HLE.out], HO3, HB3⟩
            case measure => simp [intOf]; omega
          | false =>
            have HLE := Lib.hid hle
            clear hle
            have HV2 : Hid (vn (s.extract 0 1).data.toList = false) := by show _ = _; rw [HO1L.out, HV1.out, HLE.out]
            go_wp2_with (go_at_call 6; refine (valid_is false _ _ HSZ3.out HV2.out).mono ?_; rintro e w' ⟨rfl, rfl⟩)
            go_roundw
            case rel => exact ⟨1, by omega, rfl, by rw [F1.out, HLE.out], HO3, HB3⟩
            case measure => simp [intOf]; omega
        · have hkb : ((k : Int) == 0) = false := beq_eq_false_iff_ne.2 (by omega)
          have HK0 := Lib.hid hk0
          clear hk0
          go_wp2_with fail
          go_roundw
          case rel => exact ⟨k + 1, by omega, by go_num, by rw [HBL.out HK0.out, HIN.out, Bool.and_true], HO3, HB3⟩
          case measure => simp [intOf]; omega
      | false =>
        have HIN := Lib.hid hin
        clear hin
        have HVQ : Hid (vn ((⟨#[110]⟩ : ByteArray) ++ s.extract k (k + 1)).data.toList = false) := by show _ = _; rw [HPL.out, HVP.out, HIN.out]
        have HGE : Hid (gath s.data.toList (k + 1) = gath s.data.toList k) := by
          have e := HGS.out
          rw [if_neg (by rw [HIN.out]; decide)] at e
          exact e
        by_cases hk0 : k = 0
        · subst hk0
          obtain ⟨f1, f2⟩ := byB_first s.data.toList (by simpa using hlt)
          rw [getD_get s 0 hlt] at f1
          have F1 := Lib.hid f1
          have hb0 : byB s.data.toList 0 = true := f2
          clear f1 f2
          have HO1L := Lib.hid (one_list s hlt)
          have HV1 : Hid (vn [s[0]] = letter s[0]) := by show _ = _; simp [vn]
          have HSZ3 : Hid ((s.extract 0 1).size ≤ maxLen) := by show _ ≤ _; rw [ByteArray.size_extract]; unfold maxLen; omega
          have HLE : Hid (letter s[0] = false) := by
            have h := HIN.out
            unfold inner at h
            rw [Bool.or_eq_false_iff] at h
            exact h.1
          have HV2 : Hid (vn (s.extract 0 1).data.toList = false) := by show _ = _; rw [HO1L.out, HV1.out, HLE.out]
          have HVQ1 : Hid (vn ((⟨#[110]⟩ : ByteArray) ++ s.extract 0 1).data.toList = false) := HVQ
          have HSZ5 : Hid (((⟨#[110]⟩ : ByteArray) ++ s.extract 0 1).size ≤ maxLen) := HSZ2
          clear HVQ HSZ2 HPL
          go_wp2_with (go_at_call 6; refine (valid_is false _ wr HSZ5.out HVQ1.out).mono ?_; rintro e w' ⟨rfl, rfl⟩; refine Hid.out ?_)
          refine Lib.hid ?_
          go_wp2_with (go_at_call 6; refine (valid_is false _ _ HSZ3.out HV2.out).mono ?_; rintro e w' ⟨rfl, rfl⟩)
          go_roundw
          case rel => exact ⟨1, by omega, rfl, by rw [F1.out, HLE.out], by have := HGE.out; rw [Nat.zero_add] at this; rw [this]; exact HOk, HBk⟩
          case measure => simp [intOf]; omega
        · have hkb : ((k : Int) == 0) = false := beq_eq_false_iff_ne.2 (by omega)
          have HK0 := Lib.hid hk0
          clear hk0
          go_wp2_with (go_at_call 6; refine (valid_is false _ wr HSZ2.out HVQ.out).mono ?_; rintro e w' ⟨rfl, rfl⟩)
          go_roundw
          case rel => exact ⟨k + 1, by omega, by go_num, by rw [HBL.out HK0.out, HIN.out, Bool.and_false], by rw [HGE.out]; exact HOk, HBk⟩
          case measure => simp [intOf]; omega
    · have hke : k = s.size := by omega
      have HE : Hid (byB s.data.toList k = wh) := by
        show _ = _
        have e : k = s.data.toList.length := by simp; omega
        rw [e, byB_end, HW.out]
      have hbw := HE.out
      clear hke
      have HGV := Lib.hid (gath_vn s.data.toList k)
      rcases HOk.out.2 with ⟨_, h0⟩ | ⟨g, cap, cur, rfl, -, -, -, -, -, -⟩
      · simp [gath] at h0
      have HLG := hgl
      obtain ⟨l, hl⟩ : ∃ l, l = gath s.data.toList k := ⟨_, rfl⟩
      rw [← hl] at HOk HGV HLG hgl ⊢
      clear hl
      have hcv := run_convert_bytes_back (P := Try.prog) wr 23 9 5 ⟨g, 0, none⟩ cap l Try.underlying23 Try.underlying5 Try.underlying9 (fun j hj => HOk.out.cells (g := g) rfl j _ (by simp [Lib.byteCells, hj]))
      have HSZ4 : Hid ((⟨l.toArray⟩ : ByteArray).size ≤ maxLen) := by
        have e : (⟨l.toArray⟩ : ByteArray).size = l.length := by show l.toArray.size = _; simp
        show _ ≤ _
        rw [e]; unfold maxLen; omega
      cases wh with
      | true =>
        go_wp2_with (go_at_call 6; refine (valid_is true _ wr HSZ4.out HGV.out).mono ?_; rintro e w' ⟨rfl, rfl⟩)
        go_ret
        exact ⟨rfl, HBk.out⟩
      | false =>
        go_wp2_with (go_at_call 6; refine (valid_is true _ wr HSZ4.out HGV.out).mono ?_; rintro e w' ⟨rfl, rfl⟩)
        go_ret
        exact ⟨rfl, HBk.out⟩

end Go.Proofs.Qxb6628783a
