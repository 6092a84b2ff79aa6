/-
  SEAT b6628783a. zzItoaNonNeg (8): digits, at least one.
-/
import Derived.Test.Qxb6628783aLocal
namespace Go.Proofs.Qxb6628783a
open Go.RowKit

theorem bc_set (L : List UInt8) (i : Nat) (c : UInt8) : Lib.byteCells (L.set i c) = (Lib.byteCells L).set i (.int .u8 (c.toNat : Int)) := by
  simp [Lib.byteCells, List.map_set]

theorem digit_u8 (d : Nat) (h : d < 10) : (UInt8.ofNat (48 + d)).toNat = 48 + d := by
  rw [UInt8.toNat_ofNat']
  omega

def Digs (s : ByteArray) : Prop := 1 ≤ s.size ∧ s.size ≤ 24 ∧ ∀ c ∈ s.data.toList, 48 ≤ c.toNat ∧ c.toNat ≤ 57

set_option maxRecDepth 100000 in
set_option maxHeartbeats 3200000 in
theorem itoa_any (n : Nat) (hn : n ≤ 65536) (w : World) :
    Calls Try.prog 8 #[.int .i64 n] w fun e w' => ∃ s : ByteArray, e = .returned (.string s) ∧ Digs s ∧ Below w.heap.size w w' := by
  by_cases h0 : n = 0
  · subst h0
    go_enter Try.func8, Try.ntmps8
    go_wp2
    go_ret
    exact ⟨_, rfl, ⟨by decide, by decide, by decide⟩, Below.refl _ _⟩
  · go_enter Try.func8, Try.ntmps8
    go_wp2
    have HO0 := Lib.hid (World.ownsRow_lit (base := w.heap.size) (e := 26) (size := 1) w (Lib.byteCells (List.replicate 24 0)).toArray 24 (Nat.le_refl _) (by unfold maxLen; omega) (by decide))
    go_loopw [0, 4] (fun nv iv wr => ∃ m i : Nat, nv = .int .i64 m ∧ iv = .int .i64 i ∧ ((i = 24 ∧ m ≤ 65536 ∧ 1 ≤ m) ∨ (i = 23 ∧ m ≤ 6553) ∨ (i = 22 ∧ m ≤ 655) ∨ (i = 21 ∧ m ≤ 65) ∨ (i = 20 ∧ m ≤ 6) ∨ (i = 19 ∧ m = 0)) ∧
        (∃ L : List UInt8, L.length = 24 ∧ Hid (wr.ownsRow w.heap.size 26 1 (.slice (some ⟨w.heap.size, 0, none⟩) 24 24) 24 (Lib.byteCells L)) ∧ Hid (∀ j, i ≤ j → j < 24 → 48 ≤ (L.getD j 0).toNat ∧ (L.getD j 0).toNat ≤ 57)) ∧ Hid (Below w.heap.size w wr))
      (fun nv _ _ => (intOf nv).toNat)
    case atStart => exact ⟨n, 24, rfl, rfl, .inl ⟨rfl, hn, by omega⟩, ⟨List.replicate 24 0, by simp, HO0, fun j h1 h2 => by omega⟩, (Below.refl _ _).alloc (Nat.le_refl _) _⟩
    case round =>
      obtain ⟨m, i, rfl, rfl, htab, ⟨L, hL, HO, HD⟩, HB⟩ := hrel
      by_cases hm : m = 0
      · subst hm
        have hi1 : 19 ≤ i ∧ i ≤ 23 := by omega
        have hcell : ∀ j (hj : j < (L.drop i).length), wr.cell? ((⟨w.heap.size, i, none⟩ : Addr).add j) = some (.int .u8 (((L.drop i)[j]).toNat : Int)) := by
          intro j hj
          have hj2 : i + j < L.length := by simp at hj; omega
          rw [Addr.add_lit, HO.out.cellAt (i + j) (by omega)]
          simp [Lib.byteCells, hj2]
        have hcv := run_convert_bytes_back (P := Try.prog) wr 23 9 5 ⟨w.heap.size, i, none⟩ (24 - i) (L.drop i) Try.underlying23 Try.underlying5 Try.underlying9 hcell
        have hll : (L.drop i).length = 24 - i := by simp; omega
        rw [hll] at hcv
        clear hcell
        have HLL := Lib.hid hll
        have HLN := Lib.hid hL
        clear hll hL htab
        obtain ⟨h1, h2⟩ := hi1
        obtain ⟨L2, hL2⟩ : ∃ L2, L2 = L.drop i := ⟨_, rfl⟩
        rw [← hL2] at hcv
        have HL2 := Lib.hid hL2
        clear hL2
        have hsl : ∀ W : World, (Instr.sliceAt 26 (.pointer (some ⟨w.heap.size, 0, none⟩)) (some (.int .i64 (i : Int))) none none).run Try.prog W = .ok (.slice (some ⟨w.heap.size, i, none⟩) (24 - i) (24 - i)) W := by
          intro W
          have hal : Try.prog.arrayLen 26 = 24 := by kernel_rfl
          rw [run_sliceAt_array_l W 26 ⟨w.heap.size, 0, none⟩ (by simp [Program.arrayLen, Program.elem, Try.underlying26]) .i64 (i : Int) (by omega) (by rw [hal]; omega)]
          have hne : ¬ 24 = i := by omega
          have hsz : (sizeOf (Try.prog.elem 26)).run Try.prog W = .ok 1 W := by kernel_rfl
          rw [hsz, hal]
          simp [slicedAt, Result.andThen, hne, Addr.add_lit]
        go_wp2
        go_ret
        refine ⟨_, rfl, ?_, HB.out⟩
        have e : (⟨L2.toArray⟩ : ByteArray).size = L2.length := by show L2.toArray.size = _; simp
        have e2 : L2.length = 24 - i := by rw [HL2.out]; exact HLL.out
        refine ⟨by rw [e, e2]; omega, by rw [e, e2]; omega, fun c hc => ?_⟩
        have hc2 : c ∈ L.drop i := by rw [← HL2.out]; simpa using hc
        obtain ⟨j, hj, rfl⟩ := List.getElem_of_mem hc2
        have hj2 : i + j < L.length := by simp at hj; omega
        have := HD.out (i + j) (by omega) (by rw [← HLN.out]; exact hj2)
        simpa [hj2] using this
      · obtain ⟨i, rfl⟩ : ∃ i', i = i' + 1 := ⟨i - 1, by omega⟩
        have hi24 : i < 24 := by omega
        have hi24' : (i : Int) < 24 := by omega
        have g2 : ∃ u : Int, wr.cell? ⟨w.heap.size, i, none⟩ = some (.int .u8 u) := by
          refine ⟨((L.getD i 0).toNat : Int), ?_⟩
          rw [HO.out.cellAt i (by omega)]
          simp [Lib.byteCells, show i < L.length by omega]
        obtain ⟨u, g2⟩ := g2
        have g3 : wr.frozen? ⟨w.heap.size, i, none⟩ = false := HO.out.frozenAt i
        have HM : Hid (¬ m = 0) := hm
        have hmp : 0 < m := by omega
        clear hm
        have HLN := Lib.hid hL
        clear hL
        go_wp2
        go_roundw
        case rel =>
          refine ⟨m / 10, i, by go_num, rfl, by omega, ⟨L.set i (UInt8.ofNat (48 + m % 10)), by simp [HLN.out], ?_, ?_⟩, HB.out.setCell (Nat.le_refl _) _⟩
          · have := (HO.out.stored i (.int .u8 (48 + (m : Int) % 10))).1
            show World.ownsRow _ _ _ _ _ _ _
            rw [bc_set, digit_u8 _ (by omega)]
            have e : (((48 + m % 10 : Nat)) : Int) = 48 + (m : Int) % 10 := by omega
            rw [e]
            exact this
          · intro j h1 h2
            have hlen := HLN.out
            rcases Nat.lt_or_ge i j with h3 | h3
            · have := HD.out j (by omega) h2
              have e : (L.set i (UInt8.ofNat (48 + m % 10))).getD j 0 = L.getD j 0 := by
                simp only [List.getD_eq_getElem?_getD]
                rw [List.getElem?_set_ne (by omega)]
              rw [e]
              exact this
            · obtain rfl : j = i := by omega
              have e : (L.set j (UInt8.ofNat (48 + m % 10))).getD j 0 = UInt8.ofNat (48 + m % 10) := by
                simp only [List.getD_eq_getElem?_getD]
                rw [List.getElem?_set_self (by omega)]
                rfl
              rw [e, digit_u8 _ (by omega)]
              omega
        case measure => simp [intOf]; omega

end Go.Proofs.Qxb6628783a
