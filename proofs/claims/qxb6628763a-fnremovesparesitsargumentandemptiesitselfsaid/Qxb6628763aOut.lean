/-
  SEAT b6628763a. WHAT Remove DOES TO A NODE, IN PLAIN WORDS: a world that turned only inside an interval ('Out'); a node opened ('Op'); its child turned, its child dropped, its own cell turned.
-/
import Derived.Test.Qxb6628763aNode
import Derived.Maps.RangeWalk
import Derived.Maps.Views
import Derived.Laws.IdiomRangeMap
namespace Go.Proofs.Qxb6628763a
open Go.RowKit Go.Maps Go.WideMaps

/-- Of the blocks that were there, none outside [lo, hi) has turned. -/
structure Out (lo hi : Nat) (w w' : World) : Prop where
  os : w'.os = w.os
  tape : w'.tape = w.tape
  output : w'.output = w.output
  size : w.heap.size ≤ w'.heap.size
  block : ∀ k, k < w.heap.size → (k < lo ∨ hi ≤ k) → w'.heap[k]? = w.heap[k]?

theorem Out.refl (lo hi : Nat) (w : World) : Out lo hi w w := ⟨rfl, rfl, rfl, Nat.le_refl _, fun _ _ _ => rfl⟩

theorem Out.thenOut {lo hi lo1 hi1 : Nat} {w0 w w' : World} (h : Out lo hi w0 w) (h' : Out lo1 hi1 w w') (h1 : lo ≤ lo1) (h2 : hi1 ≤ hi) : Out lo hi w0 w' :=
  ⟨h'.os.trans h.os, h'.tape.trans h.tape, h'.output.trans h.output, Nat.le_trans h.size h'.size, fun k hk ho => (h'.block k (Nat.lt_of_lt_of_le hk h.size) (by omega)).trans (h.block k hk ho)⟩

theorem Out.next {lo hi r : Nat} {w0 w w' : World} (h : Out lo hi w0 w) (h' : w.grownBy w' (some r)) (hr : w0.heap.size ≤ r ∨ (lo ≤ r ∧ r < hi)) : Out lo hi w0 w' :=
  ⟨h'.os.trans h.os, h'.tape.trans h.tape, h'.output.trans h.output, Nat.le_trans h.size h'.size, fun k hk ho => (h'.block k (Nat.lt_of_lt_of_le hk h.size) (by simp; omega)).trans (h.block k hk ho)⟩

theorem Out.grow {lo hi : Nat} {w0 w w' : World} (h : Out lo hi w0 w) (h' : w.grownBy w' none) : Out lo hi w0 w' :=
  ⟨h'.os.trans h.os, h'.tape.trans h.tape, h'.output.trans h.output, Nat.le_trans h.size h'.size, fun k hk ho => (h'.block k (Nat.lt_of_lt_of_le hk h.size) (by simp)).trans (h.block k hk ho)⟩

theorem Rep.out {w w' : World} {n b lo hi lo1 hi1 : Nat} {S : Path → Prop} (h : Rep n w b lo hi S) (ho : Out lo1 hi1 w w') (hhi : hi ≤ w.heap.size) (hd : hi ≤ lo1 ∨ hi1 ≤ lo) : Rep n w' b lo hi S :=
  h.frame (fun i h1 h2 => ho.block i (by omega) (by omega))

theorem Rep.grow {w w' : World} {n b lo hi : Nat} {S : Path → Prop} {row : Option Nat} (h : Rep n w b lo hi S) (ho : w.grownBy w' row) (hhi : hi ≤ w.heap.size) (hd : ∀ r, row = some r → r < lo ∨ hi ≤ r) : Rep n w' b lo hi S :=
  h.frame (fun i h1 h2 => ho.block i (by omega) (fun e => by have := hd i e.symm; omega))

theorem ranges_frame {w w' : World} {b r n : Nat} {D : DataW Unit} {left : Lit → Bool} {cnt : Nat} (h : w.ranges Try.prog 9 ptrElem b r n D left cnt) (hb : w'.heap[b]? = w.heap[b]?) (hr : w'.heap[r]? = w.heap[r]?) : w'.ranges Try.prog 9 ptrElem b r n D left cnt := by
  obtain ⟨es, clock, since, seen, c0, h1, F, hs, hD, h2, rest⟩ := h
  exact ⟨es, clock, since, seen, c0, hb.trans h1, F, hs, hD, hr.trans h2, rest⟩

/-- A node opened. -/
def Op (n : Nat) (w : World) (b lo hi : Nat) (S : Path → Prop) (self : Bool) (mo : Option Nat) (f : Key → Option Nat) (LO HI : Key → Nat) : Prop :=
  w.heap[b]? = some (.cells #[.bool self, .map mo] 42 (0, 0)) ∧ lo ≤ b ∧ b < hi ∧ (∀ m, mo = some m → lo ≤ m ∧ m < hi) ∧ MapO w mo f ∧ (self = true ↔ S []) ∧
      (∀ k, f k = none → ∀ p, ¬ S (k :: p)) ∧
      (∀ k c, f k = some c → Rep n w c (LO k) (HI k) (fun p => S (k :: p)) ∧ (∃ p, S (k :: p)) ∧ lo ≤ LO k ∧ HI k ≤ hi ∧ (b < LO k ∨ HI k ≤ b) ∧ ∀ m, mo = some m → (m < LO k ∨ HI k ≤ m)) ∧
      (∀ k k' c c', k ≠ k' → f k = some c → f k' = some c' → HI k ≤ LO k' ∨ HI k' ≤ LO k)

theorem Rep.op {n : Nat} {w : World} {b lo hi : Nat} {S : Path → Prop} (h : Rep n w b lo hi S) : ∃ m self mo f LO HI, n = m + 1 ∧ Op m w b lo hi S self mo f LO HI := by
  cases n with
  | zero => exact absurd h (by simp [Rep])
  | succ m =>
    obtain ⟨self, mo, f, LO, HI, h⟩ := h
    exact ⟨m, self, mo, f, LO, HI, rfl, h⟩

theorem Op.rep {n : Nat} {w : World} {b lo hi : Nat} {S : Path → Prop} {self : Bool} {mo : Option Nat} {f : Key → Option Nat} {LO HI : Key → Nat} (h : Op n w b lo hi S self mo f LO HI) : Rep (n + 1) w b lo hi S := ⟨self, mo, f, LO, HI, h⟩

section
variable {n : Nat} {w : World} {b lo hi : Nat} {S : Path → Prop} {self : Bool} {mo : Option Nat} {f : Key → Option Nat} {LO HI : Key → Nat}

theorem Op.node (h : Op n w b lo hi S self mo f LO HI) : Node w b self mo := h.1
theorem Op.mapo (h : Op n w b lo hi S self mo f LO HI) : MapO w mo f := h.2.2.2.2.1
theorem Op.lt (h : Op n w b lo hi S self mo f LO HI) : b < w.heap.size := (Array.getElem?_eq_some_iff.1 h.1).1
theorem Op.ne (h : Op n w b lo hi S self mo f LO HI) (m : Nat) (hm : mo = some m) : m ≠ b := by
  rintro rfl
  subst hm
  obtain ⟨N, D, _, ⟨es, clock, h1, _⟩, _⟩ := h.mapo
  rw [h.1] at h1
  cases h1

/-- Nothing in it. -/
theorem Op.empty_iff (h : Op n w b lo hi S self mo f LO HI) : (self = false ∧ ∀ k, f k = none) ↔ ∀ p, ¬ S p := by
  obtain ⟨h1, h2, h3, h4, h5, h6, h7, h8, h9⟩ := h
  constructor
  · rintro ⟨rfl, hf⟩ p hp
    cases p with
    | nil => exact absurd (h6.2 hp) (by simp)
    | cons k p => exact h7 k (hf k) p hp
  · intro hS
    refine ⟨Bool.eq_false_iff.2 (fun e => hS [] (h6.1 e)), fun k => ?_⟩
    cases hk : f k with
    | none => rfl
    | some c =>
      obtain ⟨_, ⟨p, hp⟩, _⟩ := h8 k c hk
      exact absurd hp (hS _)

/-- A child has turned, and is not empty. -/
theorem Op.turn {w' : World} {S' : Path → Prop} {x : Key} {c : Nat} (h : Op n w b lo hi S self mo f LO HI) (hx : f x = some c) (ho : Out (LO x) (HI x) w w') (hhi : hi ≤ w.heap.size)
    (hc : Rep n w' c (LO x) (HI x) (fun p => S' (x :: p))) (hne : ∃ p, S' (x :: p)) (h0 : S' [] ↔ S []) (hk : ∀ k, k ≠ x → ∀ p, S' (k :: p) ↔ S (k :: p)) : Rep (n + 1) w' b lo hi S' := by
  obtain ⟨h1, h2, h3, h4, h5, h6, h7, h8, h9⟩ := h
  obtain ⟨_, _, hl, hh, hb, hm⟩ := h8 x c hx
  refine ⟨self, mo, f, LO, HI, by rw [ho.block b (by omega) (by omega)]; exact h1, h2, h3, h4, h5.frame (fun m e => ho.block m (by have := h4 m e; omega) (by have := hm m e; omega)), by rw [h6, h0], fun k hn p hp => ?_, fun k c' hkc => ?_, h9⟩
  · have : k ≠ x := by rintro rfl; rw [hx] at hn; cases hn
    exact h7 k hn p ((hk k this p).1 hp)
  · by_cases e : k = x
    · subst e
      rw [hx] at hkc
      cases hkc
      exact ⟨hc, hne, hl, hh, hb, hm⟩
    · obtain ⟨r, ⟨p, hp⟩, r2, r3, r4⟩ := h8 k c' hkc
      exact ⟨(r.out ho (by omega) (by have := h9 k x c' c e hkc hx; omega)).congr (fun p => (hk k e p).symm), ⟨p, (hk k e p).2 hp⟩, r2, r3, r4⟩

/-- The key x dropped. -/
theorem Op.drop {w2 w3 : World} {S' : Path → Prop} {x : Key} {c bm : Nat} (h : Op n w b lo hi S self (some bm) f LO HI) (hx : f x = some c) (ho : Out (LO x) (HI x) w w2) (hhi : hi ≤ w.heap.size) (hg : w2.grownBy w3 (some bm))
    (hM : MapIs w3 bm (fun k => if k = x then none else f k)) (h0 : S' [] ↔ S []) (hk : ∀ k, k ≠ x → ∀ p, S' (k :: p) ↔ S (k :: p)) (hx' : ∀ p, ¬ S' (x :: p)) : Rep (n + 1) w3 b lo hi S' := by
  have hbm := h.ne bm rfl
  obtain ⟨h1, h2, h3, h4, h5, h6, h7, h8, h9⟩ := h
  obtain ⟨_, _, hl, hh, hb, hm⟩ := h8 x c hx
  have hsz := ho.size
  refine ⟨self, some bm, fun k => if k = x then none else f k, LO, HI, ?_, h2, h3, h4, hM, by rw [h6, h0], fun k hn p hp => ?_, fun k c' hkc => ?_, fun k k' c1 c2 hne e1 e2 => ?_⟩
  · rw [hg.block b (by omega) (by simp; omega), ho.block b (by omega) (by omega)]; exact h1
  · by_cases e : k = x
    · subst e; exact hx' p hp
    · simp only [if_neg e] at hn
      exact h7 k hn p ((hk k e p).1 hp)
  · by_cases e : k = x
    · simp [e] at hkc
    · simp only [if_neg e] at hkc
      obtain ⟨r, ⟨p, hp⟩, r2, r3, r4⟩ := h8 k c' hkc
      refine ⟨((r.out ho (by omega) (by have := h9 k x c' c e hkc hx; omega)).grow hg (by omega) (fun r hr => ?_)).congr (fun p => (hk k e p).symm), ⟨p, (hk k e p).2 hp⟩, r2, r3, r4⟩
      exact r4.2 r hr
  · by_cases e : k = x
    · simp [e] at e1
    · by_cases e' : k' = x
      · simp [e'] at e2
      · simp only [if_neg e] at e1
        simp only [if_neg e'] at e2
        exact h9 k k' c1 c2 hne e1 e2

theorem node_set {s' : Bool} (h : Node w b self mo) : Node (w.setCell ⟨b, 0, none⟩ (.bool s')) b s' mo := by
  unfold Node at *
  simp only [World.setCell, Array.getElem?_modify]
  rw [if_pos trivial, h]
  rfl

theorem out_set (hb : lo ≤ b) (hb' : b < hi) (v : Value) : Out lo hi w (w.setCell ⟨b, 0, none⟩ v) :=
  ⟨rfl, rfl, rfl, by simp [World.setCell], fun k _ hk => Below.heap_setCell _ _ _ _ (by show k ≠ b; omega)⟩

/-- Its own cell turned. -/
theorem Op.set {S' : Path → Prop} {s' : Bool} (h : Op n w b lo hi S self mo f LO HI) (hs : s' = true ↔ S' []) (hk : ∀ k p, S' (k :: p) ↔ S (k :: p)) : Op n (w.setCell ⟨b, 0, none⟩ (.bool s')) b lo hi S' s' mo f LO HI := by
  have hne := h.ne
  have hset := node_set (s' := s') h.node
  obtain ⟨h1, h2, h3, h4, h5, h6, h7, h8, h9⟩ := h
  refine ⟨hset, h2, h3, h4, h5.frame (fun m e => Below.heap_setCell _ _ _ _ (hne m e)), hs, fun k hn p hp => h7 k hn p ((hk k p).1 hp), fun k c hkc => ?_, h9⟩
  obtain ⟨r, ⟨p, hp⟩, r2, r3, r4, r5⟩ := h8 k c hkc
  exact ⟨(r.frame (fun i _ _ => Below.heap_setCell _ _ _ _ (by show i ≠ b; omega))).congr (fun p => (hk k p).symm), ⟨p, (hk k p).2 hp⟩, r2, r3, r4, r5⟩

end

theorem key_inv {key : Value} {l : Lit} (h : keyOf Try.prog 9 key = some l) : ∃ s : Key, key = .string s := by
  cases key <;> simp [keyOf, Try.underlying9, mapKey] at h
  exact ⟨_, rfl⟩

theorem key_inv2 {s : Key} {l : Lit} (h : keyOf Try.prog 9 (.string s) = some l) : l = kl s ∧ s.size ≤ maxLen := by
  simp [keyOf, Try.underlying9, mapKey] at h
  exact ⟨h.2.symm, h.1⟩

theorem ptr_inv {v : Value} {y : DataW Unit × List MemPlace} (h : ptrElem v = some y) : ∃ c : Option Nat, v = ptrOf c := by
  rcases ptrElem_inv h with ⟨rfl, _⟩ | ⟨c, rfl, _⟩
  · exact ⟨none, rfl⟩
  · exact ⟨some c, rfl⟩

theorem ptr_of {o : Option Nat} {c : Nat} {y : DataW Unit × List MemPlace} (h : ptrElem (ptrOf o) = some y) (hy : y.1 = .lit (.int .i64 (c : Int))) : o = some c := by
  cases o with
  | none =>
    rw [show ptrOf none = .pointer none from rfl, ptrElem_none] at h
    cases h
    cases hy
  | some c' =>
    rw [show ptrOf (some c') = .pointer (some ⟨c', 0, none⟩) from rfl, ptrElem_some] at h
    cases h
    simp at hy
    rw [show c' = c by omega]

theorem del_is {D : DataW Unit} {f : Key → Option Nat} (x : Key) (hf : ∀ s, Maps.has D (kl s) = (f s).isSome ∧ ∀ c, f s = some c → ∀ z, D.atKey (kl s) z = .lit (.int .i64 (c : Int))) :
    ∀ s, Maps.has (D.del (kl x)) (kl s) = (if s = x then none else f s).isSome ∧ ∀ c, (if s = x then none else f s) = some c → ∀ z, (D.del (kl x)).atKey (kl s) z = .lit (.int .i64 (c : Int)) := by
  intro s
  by_cases e : s = x
  · subst e
    refine ⟨by simp [has_del_same], fun c hc => by simp at hc⟩
  · have hne : kl s ≠ kl x := fun h => e (kl_inj h)
    simp only [if_neg e]
    refine ⟨by rw [has_del_other hne]; exact (hf s).1, fun c hc z => ?_⟩
    rw [atKey_del_other hne]
    exact (hf s).2 c hc z

end Go.Proofs.Qxb6628763a
