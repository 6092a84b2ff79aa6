/-
  SEAT b6628783a. proto.ValidName (6), and the two bounds (5, 7).
-/
import Derived.Test.Qxb6628783aProg
import Derived.WalkKit
import Derived.WalkSpells
import Derived.WalkSmall
import Derived.WalkLawsBesides
import Derived.Lib.Hide
namespace Go.Proofs.Qxb6628783a
open Go.RowKit

def letterN (c : Nat) : Prop := (97 ≤ c ∧ c ≤ 122) ∨ (65 ≤ c ∧ c ≤ 90)
def innerN (c : Nat) : Prop := letterN c ∨ (48 ≤ c ∧ c ≤ 57)

def letter (c : UInt8) : Bool := (97 ≤ c.toNat && c.toNat ≤ 122) || (65 ≤ c.toNat && c.toNat ≤ 90)
def inner (c : UInt8) : Bool := letter c || (48 ≤ c.toNat && c.toNat ≤ 57)

theorem letter_iff (c : UInt8) : letter c = true ↔ letterN c.toNat := by simp [letter, letterN]
theorem inner_iff (c : UInt8) : inner c = true ↔ innerN c.toNat := by simp [inner, innerN, letter, letterN]

/-- A letter followed by letters and digits. -/
def vn : List UInt8 → Bool
  | [] => false
  | c :: r => letter c && r.all inner

/-- What ValidName asks of the byte at index t. -/
def okAt (t : Nat) (c : Nat) : Prop := if t = 0 then letterN c else innerN c

theorem vn_iff (l : List UInt8) : vn l = true ↔ 0 < l.length ∧ ∀ t, t < l.length → okAt t (l.getD t 0).toNat := by
  cases l with
  | nil => simp [vn]
  | cons c r =>
    simp only [vn, Bool.and_eq_true, List.all_eq_true, letter_iff]
    constructor
    · rintro ⟨h1, h2⟩
      refine ⟨by simp, fun t ht => ?_⟩
      cases t with
      | zero => simpa [okAt] using h1
      | succ t =>
        have ht' : t < r.length := by simpa using ht
        simp only [okAt, List.getD_cons_succ]
        rw [if_neg (by omega), ← inner_iff]
        have e : r.getD t 0 = r[t] := by simp [ht']
        rw [e]
        exact h2 _ (List.getElem_mem _)
    · rintro ⟨_, h2⟩
      refine ⟨by simpa [okAt] using h2 0 (by simp), fun x hx => ?_⟩
      obtain ⟨t, ht, rfl⟩ := List.getElem_of_mem hx
      have := h2 (t + 1) (by simpa using ht)
      simp only [okAt, List.getD_cons_succ] at this
      rw [if_neg (by omega)] at this
      rw [inner_iff]
      simpa [ht] using this

theorem ret_bool {a b : Bool} (h : a = b) : Ending.returned (.bool a) = .returned (.bool b) := by rw [h]

set_option maxHeartbeats 400000 in
theorem zz5 (s : ByteArray) (w : World) (hs : s.size ≤ maxLen) :
    Calls Try.prog 5 #[.string s] w fun e w' => ∃ r : Bool, e = .returned (.bool r) ∧ w = w' := by
  unfold maxLen at hs
  go_enter Try.func5, Try.ntmps5
  go_wp2
  all_goals (go_ret; exact ⟨_, rfl, rfl⟩)

set_option maxHeartbeats 400000 in
theorem zz7 (s t : ByteArray) (w : World) (hs : s.size ≤ maxLen) (ht : t.size ≤ maxLen) :
    Calls Try.prog 7 #[.string s, .string t] w fun e w' => ∃ r : Bool, e = .returned (.bool r) ∧ w = w' := by
  unfold maxLen at hs ht
  go_enter Try.func7, Try.ntmps7
  go_wp2
  all_goals (go_ret; exact ⟨_, rfl, rfl⟩)

theorem getD_get (s : ByteArray) (k : Nat) (h : k < s.size) : s.data.toList.getD k 0 = s[k] := by
  have h' : k < s.data.toList.length := by simpa using h
  simp only [List.getD_eq_getElem?_getD, List.getElem?_eq_getElem h', Option.getD_some]
  rfl

theorem toList_isEmpty (s : ByteArray) : (!s.toList.isEmpty) = true ↔ 0 < s.size := by
  have e : s.size = s.toList.length := by rw [ByteArray.toList_eq]; simp
  rw [e]
  cases s.toList <;> simp

set_option maxRecDepth 100000 in
set_option maxHeartbeats 1600000 in
theorem valid_any (s : ByteArray) (w : World) (hs : s.size ≤ maxLen) :
    Calls Try.prog 6 #[.string s] w fun e w' => e = .returned (.bool (vn s.data.toList)) ∧ w' = w := by
  have hs1 : s.size ≤ 9223372036854775807 := hs
  clear hs
  have HV := Lib.hid (vn_iff s.data.toList)
  have HSZ : Hid (s.data.toList.length = s.size) := by show _ = _; simp
  go_enter Try.func6, Try.ntmps6
  go_wp2
  go_loop [3] (fun i => ∃ k : Nat, k ≤ s.size ∧ i = .int .i64 k ∧ Hid (∀ t, t < k → okAt t (s.data.toList.getD t 0).toNat)) (fun i => s.size - (intOf i).toNat)
  case atStart => exact ⟨0, Nat.zero_le _, rfl, fun t ht => by omega⟩
  case round =>
    obtain ⟨k, hk, rfl, HA⟩ := hrel
    by_cases hlt : k < s.size
    · have HG := Lib.hid (getD_get s k hlt)
      have step : Hid (okAt k (s[k]).toNat → ∀ t, t < k + 1 → okAt t (s.data.toList.getD t 0).toNat) := by
        intro h t ht
        rcases Nat.lt_or_ge t k with h1 | h1
        · exact HA.out t h1
        · obtain rfl : t = k := by omega
          rw [HG.out]; exact h
      have stop : Hid (¬ okAt k (s[k]).toNat → vn s.data.toList = false) := by
        intro h
        rw [Bool.eq_false_iff]
        intro h2
        have h3 := (HV.out.1 h2).2 k (by rw [HSZ.out]; exact hlt)
        rw [HG.out] at h3
        exact h h3
      have hc : (s[k].toNat : Int) < 256 := by have := s[k].toNat_lt; omega
      have hc0 : (0 : Int) ≤ (s[k].toNat : Int) := by omega
      clear HG
      by_cases hcase : okAt k (s[k]).toNat
      · have st := Lib.hid (step.out hcase)
        have hcl : (((97 : Int) ≤ (s[k].toNat : Int) ∧ (s[k].toNat : Int) ≤ 122) ∨ ((65 : Int) ≤ (s[k].toNat : Int) ∧ (s[k].toNat : Int) ≤ 90)) ∨ (¬ k = 0 ∧ (48 : Int) ≤ (s[k].toNat : Int) ∧ (s[k].toNat : Int) ≤ 57) := by
          unfold okAt letterN innerN letterN at hcase
          split at hcase <;> omega
        clear hcase step stop
        rcases hcl with (⟨h1, h2⟩ | ⟨h1, h2⟩) | ⟨h0, h1, h2⟩
        · go_wp2
          go_round
          case rel => exact ⟨k + 1, by omega, by go_num, st⟩
          case measure => simp [intOf]; omega
        · go_wp2
          go_round
          case rel => exact ⟨k + 1, by omega, by go_num, st⟩
          case measure => simp [intOf]; omega
        · have hk0 : ((k : Int) == 0) = false := beq_eq_false_iff_ne.2 (by omega)
          go_wp2
          go_round
          case rel => exact ⟨k + 1, by omega, by go_num, st⟩
          case measure => simp [intOf]; omega
      · have st := Lib.hid (stop.out hcase)
        have hcl : (((s[k].toNat : Int) < 48) ∨ ((57 : Int) < (s[k].toNat : Int) ∧ (s[k].toNat : Int) < 65) ∨ ((90 : Int) < (s[k].toNat : Int) ∧ (s[k].toNat : Int) < 97) ∨ ((122 : Int) < (s[k].toNat : Int))) ∨ (k = 0 ∧ (48 : Int) ≤ (s[k].toNat : Int) ∧ (s[k].toNat : Int) ≤ 57) := by
          unfold okAt letterN innerN letterN at hcase
          split at hcase <;> omega
        clear hcase step stop
        rcases hcl with (h1 | ⟨h1, h2⟩ | ⟨h1, h2⟩ | h1) | ⟨h0, h1, h2⟩
        · by_cases hk0 : k = 0
          · subst hk0
            go_wp2
            go_ret
            exact ⟨ret_bool st.out.symm, rfl⟩
          · have hkb : ((k : Int) == 0) = false := beq_eq_false_iff_ne.2 (by omega)
            go_wp2
            go_ret
            exact ⟨ret_bool st.out.symm, rfl⟩
        · by_cases hk0 : k = 0
          · subst hk0
            go_wp2
            go_ret
            exact ⟨ret_bool st.out.symm, rfl⟩
          · have hkb : ((k : Int) == 0) = false := beq_eq_false_iff_ne.2 (by omega)
            go_wp2
            go_ret
            exact ⟨ret_bool st.out.symm, rfl⟩
        · have hb1 : decide ((s[k].toNat : Int) ≤ 90) = false := decide_eq_false (by omega)
          by_cases hk0 : k = 0
          · subst hk0
            go_wp2
            go_ret
            exact ⟨ret_bool st.out.symm, rfl⟩
          · have hkb : ((k : Int) == 0) = false := beq_eq_false_iff_ne.2 (by omega)
            go_wp2
            go_ret
            exact ⟨ret_bool st.out.symm, rfl⟩
        · have hb1 : decide ((s[k].toNat : Int) ≤ 90) = false := decide_eq_false (by omega)
          have hb2 : decide ((s[k].toNat : Int) ≤ 122) = false := decide_eq_false (by omega)
          by_cases hk0 : k = 0
          · subst hk0
            go_wp2
            go_ret
            exact ⟨ret_bool st.out.symm, rfl⟩
          · have hkb : ((k : Int) == 0) = false := beq_eq_false_iff_ne.2 (by omega)
            go_wp2
            go_ret
            exact ⟨ret_bool st.out.symm, rfl⟩
        · subst h0
          go_wp2
          go_ret
          exact ⟨ret_bool st.out.symm, rfl⟩
    · go_wp2
      go_ret
      refine ⟨ret_bool ?_, rfl⟩
      rw [Bool.eq_iff_iff, HV.out, HSZ.out]
      have hke : k = s.size := by omega
      subst hke
      rw [toList_isEmpty]
      exact ⟨fun h => ⟨h, HA.out⟩, fun h => h.1⟩

end Go.Proofs.Qxb6628783a
