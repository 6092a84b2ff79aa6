/-
  SEAT b6628736a. uvarintSize (11): as many as the varint has bytes.
-/
import Derived.Test.Qxb6628736aCounts
import Derived.Lib.BitFns
namespace Go.Proofs.Qxb6628736a
open Go.RowKit

theorem bitLen_zero : Lib.bitLen 0 = 0 := by decide

theorem bitLen_pos (x : Nat) (h : x ≠ 0) (hx : x < 18446744073709551616) : 1 ≤ Lib.bitLen x := by
  rw [Lib.bitLen_half x h hx]; omega

theorem uvarint_size (x : Nat) (hx : x < 18446744073709551616) : (Lib.uvarint x).length = if Lib.bitLen x = 0 then 1 else (Lib.bitLen x + 6) / 7 := by
  induction x using Nat.strongRecOn with
  | _ x ih =>
    by_cases h : x < 128
    · rw [Lib.uvarint_small h]
      have h1 := Lib.bitLen_le x 7 (by omega) h
      split
      · rfl
      · simp only [List.length_singleton]; omega
    · rw [Lib.uvarint_big (by omega), List.length_cons, ih (x / 128) (by omega) (by omega)]
      have h1 := Lib.bitLen_shift 7 x (by omega) hx
      have h2 := bitLen_pos (x / 128) (by omega) (by omega)
      rw [show (2 : Nat) ^ 7 = 128 from rfl] at h1
      rw [if_neg (by omega), if_neg (by omega), h1]
      omega

theorem ret_int {k : IntKind} {a b : Int} (h : a = b) : Ending.returned (.int k a) = .returned (.int k b) := by rw [h]

set_option maxHeartbeats 800000 in
theorem size_any (x : Nat) (hx : x < 18446744073709551616) (w : World) :
    Calls Try.prog 11 #[.int .u64 x] w fun e w' => e = .returned (.int .i64 ((Lib.uvarint x).length : Nat)) ∧ w' = w := by
  have HX := Lib.hid hx
  have h64 := Lib.bitLen_le x 64 (by omega) hx
  have H64 := Lib.hid h64
  have HU := Lib.hid (uvarint_size x hx)
  go_enter Try.func11, Try.ntmps11
  go_wp2
  go_loop [3, 4] (fun b m => ∃ k y : Nat, b = .int .i64 k ∧ m = .int .u64 y ∧ y ≤ 18446744073709551615 ∧ k ≤ 64 ∧ Hid (Lib.bitLen x = k + Lib.bitLen y)) (fun _ m => (intOf m).toNat)
  case atStart => exact ⟨0, x, rfl, rfl, by omega, by omega, by show _ = _; omega⟩
  case round =>
    obtain ⟨k, y, rfl, rfl, hy, hk, HB⟩ := hrel
    by_cases h0 : y = 0
    · subst h0
      have hb := HB.out
      rw [bitLen_zero, Nat.add_zero] at hb
      have HBL := Lib.hid hb
      clear hb
      by_cases hk0 : k = 0
      · subst hk0
        go_wp2
        go_ret
        refine ⟨ret_int ?_, rfl⟩
        have h1 := HU.out
        rw [if_pos HBL.out] at h1
        omega
      · have hz : ((k : Int) == 0) = false := beq_eq_false_iff_ne.2 (by omega)
        go_wp2
        go_ret
        refine ⟨ret_int ?_, rfl⟩
        have h1 := HU.out
        rw [HBL.out, if_neg hk0] at h1
        omega
    · have hne : ((y : Int) != 0) = true := by rw [bne_iff_ne]; omega
      go_wp2
      go_round
      case rel =>
        have h1 := Lib.bitLen_half y h0 (by omega)
        have h2 := HB.out
        have h3 := H64.out
        exact ⟨k + 1, y / 2, by go_num, by go_num, by omega, by omega, by show _ = _; omega⟩
      case measure => simp [intOf]; omega

end Go.Proofs.Qxb6628736a
