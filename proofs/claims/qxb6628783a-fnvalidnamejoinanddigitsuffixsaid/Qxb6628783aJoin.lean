/-
  SEAT b6628783a. THE WALK OF FnValidNameJoinAndDigitSuffix (4).
-/
import Derived.Test.Qxb6628783aItoa
namespace Go.Proofs.Qxb6628783a
open Go.RowKit

theorem app_list (a b : ByteArray) : (a ++ b).data.toList = a.data.toList ++ b.data.toList := by
  simp only [ByteArray.data_append, Array.toList_append]

theorem digs_inner {n : ByteArray} (h : Digs n) : n.data.toList.all inner = true := by
  rw [List.all_eq_true]
  intro c hc
  rw [inner_iff]
  exact .inr (h.2.2 c hc)

theorem digs_not {n : ByteArray} (h : Digs n) : vn n.data.toList = false := by
  have hl : n.data.toList.length = n.size := by simp
  cases hc : n.data.toList with
  | nil => rw [hc] at hl; have := h.1; simp at hl; omega
  | cons c r =>
    have := h.2.2 c (by rw [hc]; exact List.mem_cons_self)
    have hlet : letter c = false := by
      rw [Bool.eq_false_iff]
      intro h2
      rw [letter_iff] at h2
      unfold letterN at h2
      omega
    simp [vn, hlet]

theorem vn_app (l r : List UInt8) (h : l ≠ []) : vn (l ++ r) = (vn l && r.all inner) := by
  cases l with
  | nil => exact absurd rfl h
  | cons c l => simp [vn, List.all_append, Bool.and_assoc]

theorem vn_n (r : List UInt8) : vn (110 :: r) = r.all inner := by
  have e : letter 110 = true := by decide
  simp [vn, e]

theorem vn_join (a b : ByteArray) (h : 0 < a.size) : vn (a ++ b).data.toList = (vn a.data.toList && vn ((⟨#[110]⟩ : ByteArray) ++ b).data.toList) := by
  have hl : a.data.toList.length = a.size := by simp
  rw [app_list, app_list, vn_app _ _ (by intro e; rw [e] at hl; simp at hl; omega)]
  show _ = (_ && vn (110 :: b.data.toList))
  rw [vn_n]

theorem vn_num (a n : ByteArray) (hd : Digs n) : vn (a ++ n).data.toList = vn a.data.toList := by
  rw [app_list]
  cases hc : a.data.toList with
  | nil => rw [List.nil_append, digs_not hd]; rfl
  | cons c r => rw [vn_app _ _ (by simp), digs_inner hd, Bool.and_true]

theorem vn_num1 (n : ByteArray) (hd : Digs n) : vn ((⟨#[110]⟩ : ByteArray) ++ n).data.toList = true := by
  rw [app_list]
  show vn (110 :: n.data.toList) = true
  rw [vn_n, digs_inner hd]

theorem empty_of (a : ByteArray) (h : a.size = 0) : a.toList.isEmpty = true := by
  cases he : a.toList.isEmpty with
  | true => rfl
  | false =>
    have := (toList_isEmpty a).1 (by rw [he]; rfl)
    omega

theorem not_empty_of (a : ByteArray) (h : 0 < a.size) : a.toList.isEmpty = false := by
  have := (toList_isEmpty a).2 h
  simpa using this

set_option maxRecDepth 100000 in
set_option maxHeartbeats 3200000 in
theorem walk4 (a b : ByteArray) (w : World) (ha : a.size ≤ maxLen) (hb : b.size ≤ maxLen) :
    Calls Try.prog 4 #[.string a, .string b] w fun e w' => e = .returned (.bool true) ∧ Below w.heap.size w w' := by
  have ha1 : a.size ≤ 9223372036854775807 := ha
  have hb1 : b.size ≤ 9223372036854775807 := hb
  have HA := Lib.hid ha
  have HB := Lib.hid hb
  clear ha hb
  go_enter Try.func4, Try.ntmps4
  go_wp2_with (go_at_call 7; refine (zz7 _ _ _ HA.out HB.out).mono ?_; rintro e w' ⟨r, rfl, rfl⟩; refine Hid.out ?_)
  refine Lib.hid ?_
  cases r with
  | false =>
    go_wp2_with fail
    go_ret
    exact ⟨rfl, Below.refl _ _⟩
  | true =>
  by_cases h0 : 65536 < a.size
  · go_wp2_with fail
    go_ret
    exact ⟨rfl, Below.refl _ _⟩
  by_cases h1 : 65536 < b.size
  · go_wp2_with fail
    go_ret
    exact ⟨rfl, Below.refl _ _⟩
  have k0 : a.size ≤ 65536 := by omega
  have k1 : b.size ≤ 65536 := by omega
  clear h0 h1
  go_wp2_with (go_at_call 8; refine (itoa_any b.size k1 w).mono ?_; rintro e w1 ⟨n, rfl, hd, hb⟩; refine Hid.out ?_)
  refine Lib.hid ?_
  have HD := Lib.hid hd
  have HBW := Lib.hid hb
  have hns : n.size ≤ 24 := hd.2.1
  clear hd hb
  have HSN : Hid (n.size ≤ maxLen) := by show _ ≤ _; unfold maxLen; omega
  have e110 : (⟨#[110]⟩ : ByteArray).size = 1 := rfl
  have HS1 : Hid ((a ++ b).size ≤ maxLen) := by show _ ≤ _; rw [ByteArray.size_append]; unfold maxLen; omega
  have HS2 : Hid (((⟨#[110]⟩ : ByteArray) ++ b).size ≤ maxLen) := by show _ ≤ _; rw [ByteArray.size_append, e110]; unfold maxLen; omega
  have HS3 : Hid ((a ++ n).size ≤ maxLen) := by show _ ≤ _; rw [ByteArray.size_append]; unfold maxLen; omega
  have HS4 : Hid (((⟨#[110]⟩ : ByteArray) ++ n).size ≤ maxLen) := by show _ ≤ _; rw [ByteArray.size_append, e110]; unfold maxLen; omega
  clear e110
  obtain ⟨va, hva⟩ : ∃ x, vn a.data.toList = x := ⟨_, rfl⟩
  obtain ⟨vb, hvb⟩ : ∃ x, vn ((⟨#[110]⟩ : ByteArray) ++ b).data.toList = x := ⟨_, rfl⟩
  have V3 : Hid (vn (a ++ n).data.toList = va) := by show _ = _; rw [vn_num a n HD.out, hva]
  have V4 := Lib.hid (vn_num1 n HD.out)
  have V5 := Lib.hid (digs_not HD.out)
  have V1 : Hid (0 < a.size → vn (a ++ b).data.toList = (va && vb)) := fun h => by rw [vn_join a b h, hva, hvb]
  have VA := Lib.hid hva
  have VB := Lib.hid hvb
  clear hva hvb
  by_cases hae : a.size = 0
  · have hem : a.toList.isEmpty = true := empty_of a hae
    clear hae
    go_wp2_with (go_at_call 6; refine (valid_is va _ _ HS3.out V3.out).mono ?_; rintro e w' ⟨rfl, rfl⟩; refine Hid.out ?_)
    refine Lib.hid ?_
    go_wp2_with (go_at_call 6; refine (valid_is va _ _ HA.out VA.out).mono ?_; rintro e w' ⟨rfl, rfl⟩; refine Hid.out ?_)
    refine Lib.hid ?_
    go_wp2_with (go_at_call 6; refine (valid_is true _ _ HS4.out V4.out).mono ?_; rintro e w' ⟨rfl, rfl⟩; refine Hid.out ?_)
    refine Lib.hid ?_
    go_wp2_with (go_at_call 6; refine (valid_is false _ _ HSN.out V5.out).mono ?_; rintro e w' ⟨rfl, rfl⟩; refine Hid.out ?_)
    refine Lib.hid ?_
    go_wp2_with fail
    go_ret
    exact ⟨rfl, HBW.out⟩
  · have hem : a.toList.isEmpty = false := not_empty_of a (by omega)
    have V2 := Lib.hid (V1.out (by omega))
    clear hae
    go_wp2_with (go_at_call 6; refine (valid_is (va && vb) _ _ HS1.out V2.out).mono ?_; rintro e w' ⟨rfl, rfl⟩; refine Hid.out ?_)
    refine Lib.hid ?_
    go_wp2_with (go_at_call 6; refine (valid_is va _ _ HA.out VA.out).mono ?_; rintro e w' ⟨rfl, rfl⟩; refine Hid.out ?_)
    refine Lib.hid ?_
    cases va
    case false =>
      go_wp2_with (go_at_call 6; refine (valid_is false _ _ HS3.out V3.out).mono ?_; rintro e w' ⟨rfl, rfl⟩; refine Hid.out ?_)
      refine Lib.hid ?_
      go_wp2_with (go_at_call 6; refine (valid_is false _ _ HA.out VA.out).mono ?_; rintro e w' ⟨rfl, rfl⟩; refine Hid.out ?_)
      refine Lib.hid ?_
      go_wp2_with (go_at_call 6; refine (valid_is true _ _ HS4.out V4.out).mono ?_; rintro e w' ⟨rfl, rfl⟩; refine Hid.out ?_)
      refine Lib.hid ?_
      go_wp2_with (go_at_call 6; refine (valid_is false _ _ HSN.out V5.out).mono ?_; rintro e w' ⟨rfl, rfl⟩; refine Hid.out ?_)
      refine Lib.hid ?_
      go_wp2_with fail
      go_ret
      exact ⟨rfl, HBW.out⟩
    case true =>
      go_wp2_with (go_at_call 6; refine (valid_is vb _ _ HS2.out VB.out).mono ?_; rintro e w' ⟨rfl, rfl⟩; refine Hid.out ?_)
      refine Lib.hid ?_
      go_wp2_with (go_at_call 6; refine (valid_is true _ _ HS3.out V3.out).mono ?_; rintro e w' ⟨rfl, rfl⟩; refine Hid.out ?_)
      refine Lib.hid ?_
      go_wp2_with (go_at_call 6; refine (valid_is true _ _ HA.out VA.out).mono ?_; rintro e w' ⟨rfl, rfl⟩; refine Hid.out ?_)
      refine Lib.hid ?_
      go_wp2_with (go_at_call 6; refine (valid_is true _ _ HS4.out V4.out).mono ?_; rintro e w' ⟨rfl, rfl⟩; refine Hid.out ?_)
      refine Lib.hid ?_
      go_wp2_with (go_at_call 6; refine (valid_is false _ _ HSN.out V5.out).mono ?_; rintro e w' ⟨rfl, rfl⟩; refine Hid.out ?_)
      refine Lib.hid ?_
      go_wp2_with fail
      go_ret
      exact ⟨rfl, HBW.out⟩

end Go.Proofs.Qxb6628783a
