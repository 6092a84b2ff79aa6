/-
  SEAT b6628736a. wire.AppendCounts (6): what comes back owns the old bytes and, behind them, one varint for each number but the one at 'skip'.
-/
import Derived.Test.Qxb6628736aClone
import Derived.Test.Qxb6628736aShelf
import Derived.Lib.Varint
import Derived.Lib.Hide
namespace Go.Proofs.Qxb6628736a
open Go.RowKit

/-- The varints of the numbers, the one at index 'skip' left out; the first stands at index i. -/
def encF (skip : Int) : Nat → List Nat → List UInt8
  | _, [] => []
  | i, z :: zs => (if (i : Int) = skip then [] else Lib.uvarint z) ++ encF skip (i + 1) zs

theorem encF_snoc (skip : Int) : ∀ (zs : List Nat) (i z : Nat), encF skip i (zs ++ [z]) = encF skip i zs ++ (if ((i + zs.length : Nat) : Int) = skip then [] else Lib.uvarint z)
  | [], i, z => by simp [encF]
  | y :: zs, i, z => by
    rw [List.cons_append, encF, encF_snoc skip zs (i + 1) z, encF, List.append_assoc]
    rw [List.length_cons, show i + 1 + zs.length = i + (zs.length + 1) by omega]

theorem encF_le (skip : Int) : ∀ (zs : List Nat) (i : Nat), (∀ z ∈ zs, z < 18446744073709551616) → (encF skip i zs).length ≤ 10 * zs.length
  | [], i, _ => by simp [encF]
  | y :: zs, i, h => by
    have h1 := encF_le skip zs (i + 1) (fun z hz => h z (List.mem_cons_of_mem _ hz))
    have h2 := Lib.uvarint_length64 (h y List.mem_cons_self)
    rw [encF, List.length_append, List.length_cons]
    split
    · simp; omega
    · omega

theorem take_snoc (zs : List Nat) (k : Nat) (h : k < zs.length) : zs.take (k + 1) = zs.take k ++ [zs.getD k 0] := by
  rw [List.take_succ_eq_append_getElem h]
  simp [h]

theorem bc_app (a b : List UInt8) : Lib.byteCells (a ++ b) = Lib.byteCells a ++ Lib.byteCells b := by simp [Lib.byteCells]

set_option maxHeartbeats 800000 in
theorem counts_any (B : Nat) (sv : Value) (n : Nat) (l : List UInt8) (a : Option Addr) (m c : Nat) (zs : List Nat) (skip : Int) (w : World)
    (hown : w.ownsRow B 5 1 sv n (Lib.byteCells l)) (hr : Rq B w a m c zs) (hz : ∀ z ∈ zs, z < 18446744073709551616) (hBw : B ≤ w.heap.size) (hn : n ≤ 8388608) (hm : m ≤ 1048576) :
    Calls Try.prog 6 #[sv, .slice a m c, .int .i64 skip] w fun e w' => ∃ v', e = .returned v' ∧ w'.ownsRow B 5 1 v' (n + (encF skip 0 zs).length) (Lib.byteCells (l ++ encF skip 0 zs)) ∧ Below B w w' := by
  have R : Hid (Rq B w a m c zs) := hr
  have HL : Hid (zs.length = m) := hr.1
  have HZ : Hid (∀ z ∈ zs, z < 18446744073709551616) := hz
  have HO : Hid (w.ownsRow B 5 1 sv n (Lib.byteCells l)) := hown
  clear hr hz hown
  go_enter Try.func6, Try.ntmps6
  go_wp2
  go_loopw [0, 11] (fun v i wr => ∃ k : Nat, k ≤ m ∧ i = .int .i64 k ∧ Hid (wr.ownsRow B 5 1 v (n + (encF skip 0 (zs.take k)).length) (Lib.byteCells (l ++ encF skip 0 (zs.take k)))) ∧ Hid (Below B w wr)) (fun _ i _ => m - (intOf i).toNat)
  case atStart => exact ⟨0, Nat.zero_le _, rfl, by simpa [encF, Hid] using HO.out, Below.refl _ _⟩
  case round =>
    rename_i v0
    obtain ⟨k, hk, rfl, HOk, HBk⟩ := hrel
    by_cases hlt : k < m
    · obtain ⟨b, off, rfl, hbB, hc⟩ := R.out.at (by omega)
      have g0 := hc k hlt
      have g1 : wr.cell? ⟨b, off + k, none⟩ = some (.int .u64 ((zs.getD k 0 : Nat) : Int)) := by rw [HBk.out.cell (p := ⟨b, off + k, none⟩) hbB]; exact g0
      clear g0 hc
      have HLL := HL.out
      have hsn := encF_snoc skip (zs.take k) 0 (zs.getD k 0)
      rw [← take_snoc zs k (by omega), List.length_take, Nat.min_eq_left (by omega), Nat.zero_add] at hsn
      have hle := encF_le skip (zs.take k) 0 (fun z hz => HZ.out z (List.mem_of_mem_take hz))
      rw [List.length_take, Nat.min_eq_left (by omega)] at hle
      have hxb : zs.getD k 0 < 18446744073709551616 := HZ.out _ (by
        have e : zs.getD k 0 = zs[k] := by simp [show k < zs.length by omega]
        rw [e]
        exact List.getElem_mem _)
      clear HLL
      obtain ⟨x, hx⟩ : ∃ x : Nat, x = zs.getD k 0 := ⟨_, rfl⟩
      rw [← hx] at g1 hsn hxb
      have HS := Lib.hid hsn
      clear hsn hx
      have hsz : B ≤ wr.heap.size := by have := HBk.out.size; omega
      have i1 : (k : Int) < (m : Int) := by omega
      by_cases hsk : (k : Int) = skip
      · have hne : ((k : Int) != skip) = false := by simp [hsk]
        have HK := Lib.hid hsk
        clear hsk
        go_wp2_with fail
        go_roundw
        case rel =>
          have e := HS.out
          rw [if_pos HK.out, List.append_nil] at e
          exact ⟨k + 1, by omega, by go_num, by rw [e]; exact HOk, HBk⟩
        case measure => simp [intOf]; omega
      · have hne : ((k : Int) != skip) = true := by simp [hsk]
        have HK := Lib.hid hsk
        clear hsk
        go_wp2_with (go_at_call 12; refine (Try.binary_AppendUvarint B _ x hxb _ _ wr HOk.out hsz (by omega)).mono ?_; rintro e w1 ⟨v1, rfl, hown1, hb1⟩; refine Hid.out ?_)
        refine Lib.hid ?_
        have HO1 := Lib.hid hown1
        have HB1 := Lib.hid hb1
        clear hown1 hb1
        go_wp2
        go_roundw
        case rel =>
          have e := HS.out
          rw [if_neg HK.out] at e
          refine ⟨k + 1, by omega, by go_num, ?_, HBk.out.trans HB1.out⟩
          have := HO1.out
          rw [← bc_app, List.append_assoc, ← e, Nat.add_assoc, ← List.length_append, ← e] at this
          exact this
        case measure => simp [intOf]; omega
    · go_wp2
      go_ret
      have := HOk.out
      rw [List.take_of_length_le (by rw [HL.out]; omega)] at this
      exact ⟨_, rfl, this, HBk.out⟩

end Go.Proofs.Qxb6628736a
