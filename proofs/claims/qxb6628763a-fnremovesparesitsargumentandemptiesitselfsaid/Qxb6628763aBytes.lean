/-
  SEAT b6628763a. THE BOUNDS: zzBytes (5, 12), zzAddBytes (15), zzTooBig (6): they answer something and leave the world alone. zzAll (8).
-/
import Derived.Test.Qxb6628763aRead
namespace Go.Proofs.Qxb6628763a
open Go.RowKit

/-- Of every string that is read the size is a length. -/
def Fits (L : List Path) : Prop := ∀ p ∈ L, ∀ s ∈ p, s.size ≤ maxLen

/-- Not too many paths, none too long. -/
def Short (n : Nat) (L : List Path) : Prop := n ≤ 43690 ∧ ∀ i, i < n → (L.getD i []).length ≤ 65536

theorem Fits.at {L : List Path} (h : Fits L) (k t : Nat) (hk : k < L.length) (ht : t < (L.getD k []).length) : ((L.getD k []).getD t ByteArray.empty).size ≤ 9223372036854775807 := by
  have e : L.getD k [] = L[k] := by simp [hk]
  rw [e] at ht ⊢
  have e2 : L[k].getD t ByteArray.empty = L[k][t] := by simp [ht]
  rw [e2]
  have := h L[k] (List.getElem_mem _) L[k][t] (List.getElem_mem _)
  unfold maxLen at this
  exact this

set_option maxRecDepth 100000 in
set_option maxHeartbeats 3200000 in
theorem addBytes_any (B : Nat) (a0 : Option Addr) (n0 c0 : Nat) (L : List Path) (x0 : Int) (w : World) (r0 : RdP B w a0 n0 c0 L) (hf : Fits L) (hx0 : 0 ≤ x0) (hx1 : x0 ≤ 1048576) :
    Calls Try.prog 15 #[.slice a0 n0 c0, .int .i64 x0] w fun e w' => ∃ x : Int, -1 ≤ x ∧ x ≤ 1048576 ∧ e = .returned (.int .i64 x) ∧ w = w' ∧ (0 ≤ x → Short n0 L) := by
  have hn0 : n0 ≤ 9223372036854775807 := by have := r0.2.1; have := r0.2.2.1; unfold maxLen at *; omega
  have HL0 : Hid (L.length = n0) := r0.1
  have R0 : Hid (RdP B w a0 n0 c0 L) := r0
  have HF := Lib.hid hf
  clear r0 hf
  go_enter Try.func15, Try.ntmps15
  go_wp2
  go_loop [1, 5] (fun z i => ∃ (x : Int) (k : Nat), 0 ≤ x ∧ x ≤ 1048576 ∧ k ≤ n0 ∧ 24 * (k : Int) ≤ x ∧ z = .int .i64 x ∧ i = .int .i64 k ∧ Hid (∀ i, i < k → (L.getD i []).length ≤ 65536)) (fun _ i => n0 - (intOf i).toNat)
  case atStart => exact ⟨x0, 0, hx0, hx1, Nat.zero_le _, by omega, rfl, rfl, fun i hi => by omega⟩
  case round =>
    obtain ⟨x, k, hxa, hxb, hk, h24k, rfl, rfl, HSH⟩ := hrel
    by_cases hlt : k < n0
    · obtain ⟨b0, o0, rfl, hb0, hc0⟩ := R0.out.at (by omega)
      obtain ⟨ai, ni, ci, g0, hr0⟩ := hc0 k (by omega)
      have RI := Lib.hid hr0
      have hni : ni ≤ 9223372036854775807 := by have := hr0.2.1; have := hr0.2.2.1; unfold maxLen at *; omega
      clear hc0 hr0
      have i0 : (k : Int) < (n0 : Int) := by omega
      by_cases h24 : 1048576 < x + 24
      · go_wp2
        go_ret
        exact ⟨-1, by omega, by omega, rfl, rfl, fun h => by omega⟩
      · go_wp2
        go_loop [1, 7] (fun z i => ∃ (y : Int) (t : Nat), 0 ≤ y ∧ y ≤ 1048576 ∧ t ≤ ni ∧ 24 * ((k : Int) + 1) ≤ y ∧ 16 * (t : Int) ≤ y ∧ z = .int .i64 y ∧ i = .int .i64 t) (fun _ i => ni - (intOf i).toNat)
        case atStart => exact ⟨x + 24, 0, by omega, by omega, Nat.zero_le _, by omega, by omega, rfl, rfl⟩
        case round =>
          obtain ⟨y, t, hya, hyb, ht, h24y, h16, rfl, rfl⟩ := hrel
          by_cases hlt2 : t < ni
          · obtain ⟨b1, o1, rfl, hb1, hc1⟩ := RI.out.at (by omega)
            have g1 := hc1 t hlt2
            have hsz := HF.out.at k t (by rw [HL0.out]; exact hlt) (by rw [RI.out.1]; exact hlt2)
            clear hc1
            generalize (L.getD k []).getD t ByteArray.empty = s at *
            have i1 : (t : Int) < (ni : Int) := by omega
            by_cases hbig : 1048576 < s.size
            · go_wp2
              go_ret
              exact ⟨-1, by omega, by omega, rfl, rfl, fun h => by omega⟩
            · by_cases hbig2 : 1048576 < y + (16 + (s.size : Int))
              · go_wp2
                go_ret
                exact ⟨-1, by omega, by omega, rfl, rfl, fun h => by omega⟩
              · go_wp2
                go_round
                case rel => exact ⟨y + (16 + (s.size : Int)), t + 1, by omega, by omega, by omega, by omega, by omega, rfl, by go_num⟩
                case measure => simp [intOf]; omega
          · go_wp2
            go_round
            case rel => 
              refine ⟨y, k + 1, by omega, by omega, by omega, by omega, rfl, by go_num, fun i hi => ?_⟩
              rcases Nat.lt_or_ge i k with h | h
              · exact HSH.out i h
              · obtain rfl : i = k := by omega
                rw [RI.out.1]; omega
            case measure => simp [intOf]; omega
    · go_wp2
      go_ret
      have hkn : k = n0 := by omega
      exact ⟨x, by omega, by omega, rfl, rfl, fun _ => ⟨by omega, fun i hi => HSH.out i (by omega)⟩⟩

set_option maxHeartbeats 800000 in
theorem tooBig_any (B : Nat) (a0 a1 : Option Addr) (n0 c0 n1 c1 : Nat) (L0 L1 : List Path) (w : World) (r0 : RdP B w a0 n0 c0 L0) (r1 : RdP B w a1 n1 c1 L1) (hf0 : Fits L0) (hf1 : Fits L1) :
    Calls Try.prog 6 #[.slice a0 n0 c0, .slice a1 n1 c1] w fun e w' => ∃ r : Bool, e = .returned (.bool r) ∧ w = w' ∧ (r = false → Short n0 L0 ∧ Short n1 L1) := by
  have R0 := Lib.hid r0
  have R1 := Lib.hid r1
  have HF0 := Lib.hid hf0
  have HF1 := Lib.hid hf1
  clear r0 r1 hf0 hf1
  go_enter Try.func6, Try.ntmps6
  go_wp2_with (go_at_call 15; refine (addBytes_any B a0 n0 c0 L0 0 w R0.out HF0.out (by omega) (by omega)).mono ?_; rintro e w1 ⟨x, hx0, hx1, rfl, rfl, hs0⟩; have HS0 := Lib.hid hs0; clear hs0; refine Hid.out ?_)
  refine Lib.hid ?_
  by_cases hneg : x < 0
  · go_wp2_with fail
    go_ret
    exact ⟨_, rfl, rfl, fun h => by cases h⟩
  · go_wp2_with (go_at_call 15; refine (addBytes_any B a1 n1 c1 L1 x w R1.out HF1.out (by omega) (by omega)).mono ?_; rintro e w1 ⟨y, hy0, hy1, rfl, rfl, hs1⟩; have HS1 := Lib.hid hs1; clear hs1; refine Hid.out ?_)
    refine Lib.hid ?_
    go_wp2_with fail
    go_ret
    refine ⟨_, rfl, rfl, fun h => ⟨HS0.out (by omega), HS1.out ?_⟩⟩
    have := of_decide_eq_false h
    omega

end Go.Proofs.Qxb6628763a
