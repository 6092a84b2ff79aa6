/-
  SEAT b6628763a. WHAT A [][]string THAT CAME IN IS TO THE WALKS: 'RdP' and 'Fits'.
-/
import Derived.Test.Qxb6628763aRows
import Derived.WalkKit
import Derived.ProofKit
import Derived.OpenShut
import Derived.Below
import Derived.Carry
import Derived.Deep.Slices
import Derived.Deep.Strs
import Derived.Test.Qxb6628763aBytes
namespace Go.Proofs.Qxb6628763a
open Go.RowKit Go.Deep

theorem cells9 : Try.prog.cellsOf 9 = 1 := by kernel_rfl
theorem cells30 : Try.prog.cellsOf 30 = 1 := by kernel_rfl

section
variable {H : Type} {enc : TypeId × Value → H} {w : World} {base : Nat} {spare : Nat → Bool} {held : Bool}

theorem cell_at {a : Addr} {n : Nat} {V : Nat → Value} (h0 : 0 < n) (h : ∀ i, i < n → w.cell? (a.add i) = some (V i)) : ∃ b off, a = ⟨b, off, none⟩ ∧ b < w.heap.size ∧ ∀ i, i < n → w.cell? ⟨b, off + i, none⟩ = some (V i) := by
  obtain ⟨b, off, spot⟩ := a
  have hspot : spot = none := by simpa [Addr.add] using World.cell?_spot (h 0 h0)
  subst hspot
  have h' : ∀ i, i < n → w.cell? ⟨b, off + i, none⟩ = some (V i) := fun i hi => by
    have := h i hi
    rw [Addr.add_lit] at this
    exact this
  exact ⟨b, off, rfl, World.block_lt_of_cell? _ _ (h' 0 h0), h'⟩

theorem rds_of_trod {fuel : Nat} {v : Value} {x : DataW H × List MemPlace} (h : DataW.trod enc Try.prog w base spare held fuel 30 [v] = some x) : ∃ a n c l, v = .slice a n c ∧ RdS w.heap.size w a n c l ∧ ∀ s ∈ l, s.size ≤ maxLen := by
  rcases open_strs Try.underlying30 Try.underlying9 cells9 h with ⟨hcs, _⟩ | ⟨a, len, cap, m, Sx, hcs, _, hl, hm, hmm, _, hx⟩
  · simp at hcs
    subst hcs
    exact ⟨none, 0, 0, [], rfl, rdS_nil _ _, fun s hs => by cases hs⟩
  · simp at hcs
    subst hcs
    have hlm : len ≤ m := by rw [hmm]; split <;> omega
    refine ⟨some a, len, cap, (List.range len).map Sx, rfl, ⟨by simp, hl, hm, (fun e => by cases e), fun i hi => ?_⟩, fun s hs => ?_⟩
    · obtain ⟨b, off, rfl, hb, hc⟩ := cell_at (V := fun i => .string (Sx i)) (n := len) (by omega) (fun i hi => (hx i (by omega)).1)
      exact ⟨b, off, rfl, hb, by rw [hc i hi]; simp [hi]⟩
    · obtain ⟨i, hi, rfl⟩ := List.mem_map.1 hs
      exact (hx i (by have := List.mem_range.1 hi; omega)).2

theorem rdp_of_trod {fuel : Nat} {v : Value} {x : DataW H × List MemPlace} (h : DataW.trod enc Try.prog w base spare held fuel 22 [v] = some x) : ∃ a n c L, v = .slice a n c ∧ RdP w.heap.size w a n c L ∧ Fits L := by
  rcases open_slice1 Try.underlying22 cells30 h with ⟨hcs, _⟩ | ⟨a, len, cap, m, n, V, D, Pl, hcs, _, hl, hm, hmm, _, hx⟩
  · simp at hcs
    subst hcs
    exact ⟨none, 0, 0, [], rfl, ⟨rfl, Nat.le_refl _, by unfold maxLen; omega, fun _ => rfl, fun i hi => absurd hi (by omega)⟩, fun p hp => by cases hp⟩
  · simp at hcs
    subst hcs
    have hlm : len ≤ m := by rw [hmm]; split <;> omega
    obtain ⟨Lx, hLx⟩ := choose_lt (α := Path) (n := len) (p := fun i l => ∃ a n c, V i = .slice a n c ∧ RdS w.heap.size w a n c l ∧ ∀ s ∈ l, s.size ≤ maxLen) (fun i hi => by
      obtain ⟨a, n, c, l, h1, h2, h3⟩ := rds_of_trod (hx i (by omega)).2
      exact ⟨l, a, n, c, h1, h2, h3⟩)
    refine ⟨some a, len, cap, (List.range len).map Lx, rfl, ⟨by simp, hl, hm, (fun e => by cases e), fun i hi => ?_⟩, fun p hp => ?_⟩
    · obtain ⟨b, off, rfl, hb, hc⟩ := cell_at (V := V) (n := len) (by omega) (fun i hi => (hx i (by omega)).1)
      obtain ⟨ai, ni, ci, h1, h2, _⟩ := hLx i hi
      refine ⟨b, off, ai, ni, ci, rfl, hb, by rw [hc i hi, h1], ?_⟩
      have e : ((List.range len).map Lx).getD i [] = Lx i := by simp [hi]
      rw [e]
      exact h2
    · obtain ⟨i, hi, rfl⟩ := List.mem_map.1 hp
      obtain ⟨_, _, _, _, _, h3⟩ := hLx i (List.mem_range.1 hi)
      exact h3

end

end Go.Proofs.Qxb6628763a
