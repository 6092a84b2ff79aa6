/-
  SEAT b6628763a. zzBytes (5): it answers something and leaves the world alone.
-/
import Derived.Test.Qxb6628763aBytes
namespace Go.Proofs.Qxb6628763a
open Go.RowKit

set_option maxRecDepth 100000 in
set_option maxHeartbeats 6400000 in
theorem zz5 (B : Nat) (a0 a1 : Option Addr) (n0 c0 n1 c1 : Nat) (L0 L1 : List Path) (w : World) (r0 : RdP B w a0 n0 c0 L0) (r1 : RdP B w a1 n1 c1 L1) (hf0 : Fits L0) (hf1 : Fits L1) :
    Calls Try.prog 5 #[.slice a0 n0 c0, .slice a1 n1 c1] w fun e w' => ∃ r : Bool, e = .returned (.bool r) ∧ w = w' := by
  have hn0 : n0 ≤ 9223372036854775807 := by have := r0.2.1; have := r0.2.2.1; unfold maxLen at *; omega
  have hn1 : n1 ≤ 9223372036854775807 := by have := r1.2.1; have := r1.2.2.1; unfold maxLen at *; omega
  have HL0 : Hid (L0.length = n0) := r0.1
  have HL1 : Hid (L1.length = n1) := r1.1
  have R0 : Hid (RdP B w a0 n0 c0 L0) := r0
  have R1 : Hid (RdP B w a1 n1 c1 L1) := r1
  have HF0 := Lib.hid hf0
  have HF1 := Lib.hid hf1
  clear r0 r1 hf0 hf1
  by_cases hbig0 : 1048576 < n0
  · go_enter Try.func5, Try.ntmps5
    go_wp2
    go_ret
    first | exact ⟨_, rfl, rfl⟩ | (simp; done) | exact ⟨_, rfl⟩
  have hd0 : decide ((1048576 : Int) < (n0 : Int)) = false := decide_eq_false (by omega)
  go_enter Try.func5, Try.ntmps5
  go_wp2
  go_loop [5, 6] (fun z i => ∃ (x : Int) (k : Nat), 0 ≤ x ∧ x ≤ 1048576 ∧ k ≤ n0 ∧ z = .int .i64 x ∧ i = .int .i64 k) (fun _ i => n0 - (intOf i).toNat)
  case atStart => exact ⟨n0, 0, by omega, by omega, Nat.zero_le _, rfl, rfl⟩
  case round =>
    obtain ⟨x, k, hxa, hxb, hk, rfl, rfl⟩ := hrel
    by_cases hlt : k < n0
    · obtain ⟨b0, o0, rfl, hb0, hc0⟩ := R0.out.at (by omega)
      obtain ⟨ai, ni, ci, g0, hr0⟩ := hc0 k (by omega)
      have RI := Lib.hid hr0
      have hni : ni ≤ 9223372036854775807 := by have := hr0.2.1; have := hr0.2.2.1; unfold maxLen at *; omega
      clear hc0 hr0
      have i0 : (k : Int) < (n0 : Int) := by omega
      by_cases h24 : 1048576 < ni
      · go_wp2
        go_ret
        first | exact ⟨_, rfl, rfl⟩ | (simp; done) | exact ⟨_, rfl⟩
      by_cases h25 : 1048576 < x + (ni : Int)
      · go_wp2
        go_ret
        first | exact ⟨_, rfl, rfl⟩ | (simp; done) | exact ⟨_, rfl⟩
      · have hd1 : decide ((1048576 : Int) < (ni : Int)) = false := decide_eq_false (by omega)
        have hd2 : decide ((1048576 : Int) < x + (ni : Int)) = false := decide_eq_false (by omega)
        go_wp2
        go_loop [5, 7] (fun z i => ∃ (y : Int) (t : Nat), 0 ≤ y ∧ y ≤ 1048576 ∧ t ≤ ni ∧ z = .int .i64 y ∧ i = .int .i64 t) (fun _ i => ni - (intOf i).toNat)
        case atStart => exact ⟨x + ni, 0, by omega, by omega, Nat.zero_le _, rfl, rfl⟩
        case round =>
          obtain ⟨y, t, hya, hyb, ht, rfl, rfl⟩ := hrel
          by_cases hlt2 : t < ni
          · obtain ⟨b1, o1, rfl, hb1, hc1⟩ := RI.out.at (by omega)
            have g1 := hc1 t hlt2
            have hsz := HF0.out.at k t (by rw [HL0.out]; exact hlt) (by rw [RI.out.1]; exact hlt2)
            clear hc1
            generalize (L0.getD k []).getD t ByteArray.empty = s at *
            have i1 : (t : Int) < (ni : Int) := by omega
            by_cases hbig : 1048576 < s.size
            · go_wp2
              go_ret
              first | exact ⟨_, rfl, rfl⟩ | (simp; done) | exact ⟨_, rfl⟩
            · by_cases hbig2 : 1048576 < y + (s.size : Int)
              · go_wp2
                go_ret
                first | exact ⟨_, rfl, rfl⟩ | (simp; done) | exact ⟨_, rfl⟩
              · go_wp2
                go_round
                case rel => exact ⟨y + (s.size : Int), t + 1, by omega, by omega, by omega, rfl, by go_num⟩
                case measure => simp [intOf]; omega
          · go_wp2
            go_round
            case rel => exact ⟨y, k + 1, by omega, by omega, by omega, rfl, by go_num⟩
            case measure => simp [intOf]; omega
    · clear R0 HL0 HF0
      by_cases hbig1 : 1048576 < n1
      · go_wp2
        go_ret
        first | exact ⟨_, rfl, rfl⟩ | (simp; done) | exact ⟨_, rfl⟩
      by_cases hbig2 : 1048576 < x + (n1 : Int)
      · go_wp2
        go_ret
        first | exact ⟨_, rfl, rfl⟩ | (simp; done) | exact ⟨_, rfl⟩
      have hd1 : decide ((1048576 : Int) < (n1 : Int)) = false := decide_eq_false (by omega)
      have hd2 : decide ((1048576 : Int) < x + (n1 : Int)) = false := decide_eq_false (by omega)
      go_wp2
      go_loop [5, 8] (fun z i => ∃ (x : Int) (k : Nat), 0 ≤ x ∧ x ≤ 1048576 ∧ k ≤ n1 ∧ z = .int .i64 x ∧ i = .int .i64 k) (fun _ i => n1 - (intOf i).toNat)
      case atStart => exact ⟨x + n1, 0, by omega, by omega, Nat.zero_le _, rfl, rfl⟩
      case round =>
        clear hd2 hbig2 hxa hxb
        obtain ⟨x2, k2, hxa, hxb, hk2, rfl, rfl⟩ := hrel
        by_cases hlt1 : k2 < n1
        · obtain ⟨b0, o0, rfl, hb0, hc0⟩ := R1.out.at (by omega)
          obtain ⟨ai, ni, ci, g0, hr0⟩ := hc0 k2 (by omega)
          have RI := Lib.hid hr0
          have hni : ni ≤ 9223372036854775807 := by have := hr0.2.1; have := hr0.2.2.1; unfold maxLen at *; omega
          clear hc0 hr0
          have i0 : (k2 : Int) < (n1 : Int) := by omega
          by_cases h24 : 1048576 < ni
          · go_wp2
            go_ret
            first | exact ⟨_, rfl, rfl⟩ | (simp; done) | exact ⟨_, rfl⟩
          by_cases h25 : 1048576 < x2 + (ni : Int)
          · go_wp2
            go_ret
            first | exact ⟨_, rfl, rfl⟩ | (simp; done) | exact ⟨_, rfl⟩
          · have hd3 : decide ((1048576 : Int) < (ni : Int)) = false := decide_eq_false (by omega)
            have hd4 : decide ((1048576 : Int) < x2 + (ni : Int)) = false := decide_eq_false (by omega)
            go_wp2
            go_loop [5, 9] (fun z i => ∃ (y : Int) (t : Nat), 0 ≤ y ∧ y ≤ 1048576 ∧ t ≤ ni ∧ z = .int .i64 y ∧ i = .int .i64 t) (fun _ i => ni - (intOf i).toNat)
            case atStart => exact ⟨x2 + ni, 0, by omega, by omega, Nat.zero_le _, rfl, rfl⟩
            case round =>
              obtain ⟨y, t, hya, hyb, ht, rfl, rfl⟩ := hrel
              by_cases hlt2 : t < ni
              · obtain ⟨b1, o1, rfl, hb1, hc1⟩ := RI.out.at (by omega)
                have g1 := hc1 t hlt2
                have hsz := HF1.out.at k2 t (by rw [HL1.out]; exact hlt1) (by rw [RI.out.1]; exact hlt2)
                clear hc1
                generalize (L1.getD k2 []).getD t ByteArray.empty = s at *
                have i1 : (t : Int) < (ni : Int) := by omega
                by_cases hbig : 1048576 < s.size
                · go_wp2
                  go_ret
                  first | exact ⟨_, rfl, rfl⟩ | (simp; done) | exact ⟨_, rfl⟩
                · by_cases hbig2 : 1048576 < y + (s.size : Int)
                  · go_wp2
                    go_ret
                    first | exact ⟨_, rfl, rfl⟩ | (simp; done) | exact ⟨_, rfl⟩
                  · go_wp2
                    go_round
                    case rel => exact ⟨y + (s.size : Int), t + 1, by omega, by omega, by omega, rfl, by go_num⟩
                    case measure => simp [intOf]; omega
              · go_wp2
                go_round
                case rel => exact ⟨y, k2 + 1, by omega, by omega, by omega, rfl, by go_num⟩
                case measure => simp [intOf]; omega
        · go_wp2
          go_ret
          first | exact ⟨_, rfl, rfl⟩ | (simp; done) | exact ⟨_, rfl⟩


end Go.Proofs.Qxb6628763a
