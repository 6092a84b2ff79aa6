/-
  SEAT b6628687aD. bulkFrame (9), where a frame stands.
-/
import Derived.Test.Qxb6628687aDoorCtx
namespace Go.Proofs.Qxb6628687aDoor
open Go.RowKit

/-- What the walk asks of the bytes: a frame of dl digits and m bytes of payload stands at i. -/
structure At (b off n : Nat) (w : World) (i dl m : Nat) (D : Nat → Int) (V : Nat → Int) : Prop where
  room : i + 5 + dl + m ≤ n
  pos : 1 ≤ dl
  dollar : w.cell? ⟨b, off + i, none⟩ = some (.int .u8 36)
  digit : ∀ k, k < dl → w.cell? ⟨b, off + (i + 1 + k), none⟩ = some (.int .u8 (D k)) ∧ 48 ≤ D k ∧ D k ≤ 57 ∧ V (k + 1) = V k * 10 + (D k - 48)
  small : ∀ k, k ≤ dl → 0 ≤ V k ∧ V k ≤ 1048576
  start : V 0 = 0
  stop : V dl = m
  lead : 1 < dl → (D 0 == 48) = false
  cr : w.cell? ⟨b, off + (i + 1 + dl), none⟩ = some (.int .u8 13)
  lf : w.cell? ⟨b, off + (i + 2 + dl), none⟩ = some (.int .u8 10)
  cr2 : w.cell? ⟨b, off + (i + 3 + dl + m), none⟩ = some (.int .u8 13)
  lf2 : w.cell? ⟨b, off + (i + 4 + dl + m), none⟩ = some (.int .u8 10)

set_option maxHeartbeats 3200000 in
theorem frame_at (b off n c : Nat) (w : World) (i dl m : Nat) (D V : Nat → Int) (h : At b off n w i dl m D V) (hn : n ≤ 16777216) :
    Calls Tryd.prog 9 #[.slice (some ⟨b, off, none⟩) n c, .int .i64 i] w fun e w' => e = .returned (.tuple #[.int .i64 ((i + 3 + dl : Nat) : Int), .int .i64 ((i + 3 + dl + m : Nat) : Int), .int .i64 ((i + 5 + dl + m : Nat) : Int), .bool true]) ∧ w' = w := by
  have H : Hid (At b off n w i dl m D V) := h
  have hr := h.room
  have hp := h.pos
  have g0 := h.dollar
  clear h
  have hd1 : decide ((i : Int) < 0) = false := decide_eq_false (by omega)
  have hd2 : decide (n ≤ i) = false := decide_eq_false (by omega)
  go_enter Tryd.func9, Tryd.ntmps9
  go_wp2
  clear g0
  go_loop [1, 9] (fun iv nv => ∃ k : Nat, k ≤ dl ∧ iv = .int .i64 ((i : Int) + 1 + k) ∧ nv = .int .i64 (V k)) (fun iv _ => i + 1 + dl - (intOf iv).toNat)
  case atStart => exact ⟨0, Nat.zero_le _, by simp, by rw [H.out.start]⟩
  case round =>
    obtain ⟨k, hk, rfl, rfl⟩ := hrel
    by_cases hlt : k < dl
    · obtain ⟨g1, hl, hu, hv⟩ := H.out.digit k hlt
      obtain ⟨s1, s2⟩ := H.out.small k hk
      have HV : Hid (V (k + 1) = V k * 10 + (D k - 48)) := hv
      clear hv
      generalize D k = x at *
      generalize hvk : V k = y at *
      have HK : Hid (V k = y) := hvk
      clear hvk
      go_wp2
      go_round
      case rel =>
        refine ⟨k + 1, by omega, by go_num, ?_⟩
        rw [HV.out]
      case measure => simp [intOf]; omega
    · obtain rfl : k = dl := by omega
      have g1 := H.out.cr
      have g2 : w.cell? ⟨b, off + (i + 1 + k + 1), none⟩ = some (.int .u8 10) := by
        rw [show i + 1 + k + 1 = i + 2 + k by omega]; exact H.out.lf
      have g3 : w.cell? ⟨b, off + (i + 1 + k + 2 + m), none⟩ = some (.int .u8 13) := by
        rw [show i + 1 + k + 2 + m = i + 3 + k + m by omega]; exact H.out.cr2
      have g4 : w.cell? ⟨b, off + (i + 1 + k + 2 + m + 1), none⟩ = some (.int .u8 10) := by
        rw [show i + 1 + k + 2 + m + 1 = i + 4 + k + m by omega]; exact H.out.lf2
      have g5 : w.cell? ⟨b, off + (i + 1), none⟩ = some (.int .u8 (D 0)) := (H.out.digit 0 (by omega)).1
      rw [H.out.stop]
      have hlead := H.out.lead
      generalize D 0 = x at *
      have hz : ((k : Int) == 0) = false := beq_eq_false_iff_ne.2 (by omega)
      have e1 : ((i + 3 + k : Nat) : Int) = (i : Int) + 1 + k + 2 := by omega
      have e2 : ((i + 3 + k + m : Nat) : Int) = (i : Int) + 1 + k + 2 + m := by omega
      have e3 : ((i + 5 + k + m : Nat) : Int) = (i : Int) + 1 + k + 2 + m + 2 := by omega
      have E : Hid (Ending.returned (.tuple #[.int .i64 ((i : Int) + 1 + k + 2), .int .i64 ((i : Int) + 1 + k + 2 + m), .int .i64 ((i : Int) + 1 + k + 2 + m + 2), .bool true]) = Ending.returned (.tuple #[.int .i64 ((i + 3 + k : Nat) : Int), .int .i64 ((i + 3 + k + m : Nat) : Int), .int .i64 ((i + 5 + k + m : Nat) : Int), .bool true])) := by
        rw [e1, e2, e3]; exact rfl
      clear e1 e2 e3
      by_cases h1 : 1 < k
      · have hx := hlead h1
        clear hlead
        go_wp2
        exact bodyPost_ret (v := .tuple #[.int .i64 ((i : Int) + 1 + k + 2), .int .i64 ((i : Int) + 1 + k + 2 + m), .int .i64 ((i : Int) + 1 + k + 2 + m + 2), .bool true]) (by simp [results, Tryd.results9, go_sem]) rfl ⟨E.out, rfl⟩
      · have hx : decide ((1 : Int) < (k : Int)) = false := decide_eq_false (by omega)
        clear hlead
        go_wp2
        exact bodyPost_ret (v := .tuple #[.int .i64 ((i : Int) + 1 + k + 2), .int .i64 ((i : Int) + 1 + k + 2 + m), .int .i64 ((i : Int) + 1 + k + 2 + m + 2), .bool true]) (by simp [results, Tryd.results9, go_sem]) rfl ⟨E.out, rfl⟩

end Go.Proofs.Qxb6628687aDoor
