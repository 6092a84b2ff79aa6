/-
  SEAT b6628763a. ONE NODE: ZZself (13), ZZbelow (14), ZZnewSet (16), Empty (18).
-/
import Derived.Test.Qxb6628763aRep
namespace Go.Proofs.Qxb6628763a
open Go.RowKit Go.Maps Go.WideMaps

/-- A node's block. -/
def Node (w : World) (b : Nat) (self : Bool) (mo : Option Nat) : Prop := w.heap[b]? = some (.cells #[.bool self, .map mo] 42 (0, 0))

theorem Node.c0 {w : World} {b : Nat} {self : Bool} {mo : Option Nat} (h : Node w b self mo) : w.cell? ⟨b, 0, none⟩ = some (.bool self) := by
  rw [cell_of_row w b 0 _ 42 (0, 0) h]; rfl
theorem Node.c1 {w : World} {b : Nat} {self : Bool} {mo : Option Nat} (h : Node w b self mo) : w.cell? ⟨b, 1, none⟩ = some (.map mo) := by
  rw [cell_of_row w b 1 _ 42 (0, 0) h]; rfl
theorem Node.f0 {w : World} {b : Nat} {self : Bool} {mo : Option Nat} (h : Node w b self mo) : w.frozen? ⟨b, 0, none⟩ = false := frozen_of_row w b 0 _ 42 h

theorem size_zero_iff {D : DataW Unit} {w : World} {bm N : Nat} {f : Key → Option Nat} (h : w.ownsMap Try.prog 9 ptrElem bm N D) (hf : ∀ s, Maps.has D (kl s) = (f s).isSome) : Maps.size D = 0 ↔ ∀ k, f k = none := by
  constructor
  · intro h0 k
    obtain ⟨es, rfl, _, _⟩ := entries_string h
    rw [Maps.size_eq] at h0
    obtain rfl := List.eq_nil_of_length_eq_zero h0
    have := hf k
    simp [Maps.has] at this
    simpa using this
  · intro h0
    exact size_eq_of h hf [] List.nodup_nil (fun k => by simp [h0 k])

set_option maxHeartbeats 800000 in
theorem self_any (b : Nat) (self : Bool) (mo : Option Nat) (w : World) (h : Node w b self mo) :
    Calls Try.prog 13 #[.pointer (some ⟨b, 0, none⟩)] w fun e w' => e = .returned (.bool self) ∧ w = w' := by
  have c0 := h.c0
  go_enter Try.func13, Try.ntmps13
  go_wp2
  go_ret
  exact ⟨rfl, rfl⟩

set_option maxHeartbeats 800000 in
theorem below_any (b : Nat) (self : Bool) (mo : Option Nat) (w : World) (h : Node w b self mo) :
    Calls Try.prog 14 #[.pointer (some ⟨b, 0, none⟩)] w fun e w' => e = .returned (.map mo) ∧ w' = w := by
  have c1 := h.c1
  go_enter Try.func14, Try.ntmps14
  go_wp2
  go_ret
  exact ⟨rfl, rfl⟩

set_option maxHeartbeats 800000 in
theorem newSet_any (self : Bool) (mo : Option Nat) (w : World) :
    Calls Try.prog 16 #[.bool self, .map mo] w fun e w' => e = .returned (.pointer (some ⟨w.heap.size, 0, none⟩)) ∧ w' = w.alloc (.cells #[.bool self, .map mo] 42) := by
  go_enter Try.func16, Try.ntmps16
  go_wp2
  go_ret
  exact ⟨rfl, rfl⟩

set_option maxHeartbeats 800000 in
theorem empty_is (r : Bool) (b : Nat) (self : Bool) (mo : Option Nat) (f : Key → Option Nat) (w : World) (h : Node w b self mo) (hm : MapO w mo f) (hr : r = true ↔ (self = false ∧ ∀ k, f k = none)) :
    Calls Try.prog 18 #[.pointer (some ⟨b, 0, none⟩)] w fun e w' => e = .returned (.bool r) ∧ w = w' := by
  have c0 := h.c0
  have c1 := h.c1
  have HR := Lib.hid hr
  clear hr h
  cases self with
  | true =>
    have HF : Hid (r = false) := Bool.eq_false_iff.2 (fun h => by cases (HR.out.1 h).1)
    go_enter Try.func18, Try.ntmps18
    go_wp2
    go_ret
    exact ⟨ret_bool HF.out.symm, rfl⟩
  | false =>
    cases mo with
    | none =>
      have hl := fun ty => Maps.len_nil (P := Try.prog) (w := w) (t := 34) Try.underlying34 ty
      have HF : Hid (r = true) := HR.out.2 ⟨rfl, hm⟩
      clear hm
      go_enter Try.func18, Try.ntmps18
      go_wp2
      go_ret
      exact ⟨ret_bool HF.out.symm, rfl⟩
    | some bm =>
      obtain ⟨N, D, hN, hown, hf⟩ := hm
      have hl := fun ty => hown.len (t := 34) Try.underlying34 ty
      have hz := size_zero_iff hown (fun s => (hf s).1)
      have hsz : Maps.size D ≤ N := hown.size_le
      clear hown hf
      generalize Maps.size D = sz at *
      have HZ := Lib.hid hz
      clear hz
      by_cases h0 : sz = 0
      · have HF : Hid (r = true) := HR.out.2 ⟨rfl, HZ.out.1 h0⟩
        subst h0
        go_enter Try.func18, Try.ntmps18
        go_wp2
        go_ret
        exact ⟨ret_bool HF.out.symm, rfl⟩
      · have HF : Hid (r = false) := Bool.eq_false_iff.2 (fun h => h0 (HZ.out.2 (HR.out.1 h).2))
        have hzb : ((sz : Int) == 0) = false := beq_eq_false_iff_ne.2 (by omega)
        clear h0
        go_enter Try.func18, Try.ntmps18
        go_wp2
        go_ret
        exact ⟨ret_bool HF.out.symm, rfl⟩

/-- A pointer to a node, or nil. -/
def ptrOf : Option Nat → Value
  | some c => .pointer (some ⟨c, 0, none⟩)
  | none => .pointer none

theorem zero24 (w : World) : (zeroValue 24).run Try.prog w = .ok (.pointer none) w := by kernel_rfl

theorem atKey_none {D : DataW Unit} {s : Key} (h : Maps.has D (kl s) = false) (z : DataW Unit) : D.atKey (kl s) z = z := Maps.atKey_of_not_has h z

/-- 'm[k]'. -/
theorem look_run {w : World} {mo : Option Nat} {f : Key → Option Nat} (h : MapO w mo f) (s : Key) (hs : s.size ≤ maxLen) : (Instr.lookup 34 (.map mo) (.string s) false).run Try.prog w = .ok (ptrOf (f s)) w := by
  have hkey := keyOf_string_mk (k := 9) Try.underlying9 hs
  cases mo with
  | none =>
    have h0 : f s = none := h s
    rw [h0]
    exact Maps.look_nil false law9 Try.underlying34 (zero24 w) hkey
  | some bm =>
    obtain ⟨N, D, hN, hown, hf⟩ := h
    obtain ⟨v, ps, hrun, hv⟩ := hown.lookup law9 Try.underlying34 (zero24 w) ptrElem_none hkey
    rw [hrun]
    congr 1
    cases hfs : f s with
    | none =>
      have hh := (hf s).1
      rw [hfs] at hh
      have := atKey_none hh (.nil : DataW Unit)
      rw [show D.atKey (.string s.data.toList) .nil = D.atKey (kl s) .nil from rfl, this] at hv
      rcases ptrElem_inv hv with ⟨e, _⟩ | ⟨c, _, e⟩
      · exact e
      · simp at e
    | some c =>
      have := (hf s).2 c hfs .nil
      rw [show D.atKey (.string s.data.toList) .nil = D.atKey (kl s) .nil from rfl, this] at hv
      rcases ptrElem_inv hv with ⟨_, e⟩ | ⟨c', e, e2⟩
      · simp at e
      · simp at e2
        have hc : c' = c := by omega
        subst hc
        rw [e]
        rfl

end Go.Proofs.Qxb6628763a
