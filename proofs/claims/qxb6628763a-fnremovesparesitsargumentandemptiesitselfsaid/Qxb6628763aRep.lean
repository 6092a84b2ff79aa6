/-
  SEAT b6628763a. A Set IN MEMORY: a node is a block of two cells (self, below); 'below' is nil or a map from keys to pointers to nodes. 'Rep n w b lo hi S': the node in block b, all of whose blocks lie in [lo, hi), holds just the paths of S, and none of the nodes below it is empty.
-/
import Derived.Test.Qxb6628763aRead
import Derived.Maps.OwnSet
import Derived.Maps.OwnOps
import Derived.Maps.RangeWalk
import Derived.Maps.Ext
namespace Go.Proofs.Qxb6628763a
open Go.RowKit Go.Maps

/-- How an element reads: a pointer to a whole block as that block's number; nil as nil. -/
def ptrElem (v : Value) : Option (DataW Unit × List MemPlace) :=
  match v with
  | .pointer (some ⟨c, 0, none⟩) => some (.lit (.int .i64 (c : Int)), [])
  | .pointer none => some (.nil, [])
  | _ => none

theorem ptrElem_some (c : Nat) : ptrElem (.pointer (some ⟨c, 0, none⟩)) = some (.lit (.int .i64 (c : Int)), []) := rfl
theorem ptrElem_none : ptrElem (.pointer none) = some (.nil, []) := rfl

theorem ptrElem_inv {v : Value} {y : DataW Unit × List MemPlace} (h : ptrElem v = some y) : (v = .pointer none ∧ y = (.nil, [])) ∨ ∃ c : Nat, v = .pointer (some ⟨c, 0, none⟩) ∧ y = (.lit (.int .i64 (c : Int)), []) := by
  unfold ptrElem at h
  split at h
  · cases h; exact .inr ⟨_, rfl, rfl⟩
  · cases h; exact .inl ⟨rfl, rfl⟩
  · cases h

theorem law9 : Keyed Try.prog 9 := string_keyed Try.underlying9

abbrev kl (s : Key) : Lit := .string s.data.toList

theorem kl_inj {s t : Key} (h : kl s = kl t) : s = t := by
  simp only [Lit.string.injEq] at h
  exact ByteArray.ext (Array.ext' h)

/-- The map in block bm is the function f, of at most N entries. -/
def MapIs (w : World) (bm : Nat) (f : Key → Option Nat) : Prop :=
  ∃ N D, N ≤ 1048576 ∧ w.ownsMap Try.prog 9 ptrElem bm N D ∧ ∀ s, Maps.has D (kl s) = (f s).isSome ∧ ∀ c, f s = some c → ∀ z, D.atKey (kl s) z = .lit (.int .i64 (c : Int))

def MapO (w : World) (mo : Option Nat) (f : Key → Option Nat) : Prop :=
  match mo with
  | none => ∀ s, f s = none
  | some bm => MapIs w bm f

theorem MapIs.frame {w w' : World} {bm : Nat} {f : Key → Option Nat} (h : MapIs w bm f) (hb : w'.heap[bm]? = w.heap[bm]?) : MapIs w' bm f := by
  obtain ⟨N, D, hN, ⟨es, clock, h1, h2⟩, hf⟩ := h
  exact ⟨N, D, hN, ⟨es, clock, by rw [hb]; exact h1, h2⟩, hf⟩

theorem MapO.frame {w w' : World} {mo : Option Nat} {f : Key → Option Nat} (h : MapO w mo f) (hb : ∀ m, mo = some m → w'.heap[m]? = w.heap[m]?) : MapO w' mo f := by
  cases mo with
  | none => exact h
  | some m => exact MapIs.frame h (hb m rfl)

/-- The node in block b, all of whose blocks lie in [lo, hi), holds just the paths of S; no node below it is empty. -/
def Rep : Nat → World → Nat → Nat → Nat → (Path → Prop) → Prop
  | 0, _, _, _, _, _ => False
  | n + 1, w, b, lo, hi, S => ∃ (self : Bool) (mo : Option Nat) (f : Key → Option Nat) (LO HI : Key → Nat),
      w.heap[b]? = some (.cells #[.bool self, .map mo] 42 (0, 0)) ∧ lo ≤ b ∧ b < hi ∧ (∀ m, mo = some m → lo ≤ m ∧ m < hi) ∧ MapO w mo f ∧ (self = true ↔ S []) ∧
      (∀ k, f k = none → ∀ p, ¬ S (k :: p)) ∧
      (∀ k c, f k = some c → Rep n w c (LO k) (HI k) (fun p => S (k :: p)) ∧ (∃ p, S (k :: p)) ∧ lo ≤ LO k ∧ HI k ≤ hi ∧ (b < LO k ∨ HI k ≤ b) ∧ ∀ m, mo = some m → (m < LO k ∨ HI k ≤ m)) ∧
      (∀ k k' c c', k ≠ k' → f k = some c → f k' = some c' → HI k ≤ LO k' ∨ HI k' ≤ LO k)

theorem Rep.frame {w w' : World} : ∀ {n b lo hi : Nat} {S : Path → Prop}, Rep n w b lo hi S → (∀ i, lo ≤ i → i < hi → w'.heap[i]? = w.heap[i]?) → Rep n w' b lo hi S
  | 0, _, _, _, _, h, _ => h
  | n + 1, b, lo, hi, S, h, hf => by
    obtain ⟨self, mo, f, LO, HI, h1, h2, h3, h4, h5, h6, h7, h8, h9⟩ := h
    refine ⟨self, mo, f, LO, HI, by rw [hf b h2 h3]; exact h1, h2, h3, h4, h5.frame (fun m hm => hf m (h4 m hm).1 (h4 m hm).2), h6, h7, fun k c hk => ?_, h9⟩
    obtain ⟨r, rest⟩ := h8 k c hk
    refine ⟨r.frame (fun i h1 h2 => hf i (by omega) (by omega)), rest⟩

theorem Rep.congr {w : World} : ∀ {n b lo hi : Nat} {S S' : Path → Prop}, Rep n w b lo hi S → (∀ p, S p ↔ S' p) → Rep n w b lo hi S'
  | 0, _, _, _, _, _, h, _ => h
  | n + 1, b, lo, hi, S, S', h, hs => by
    obtain ⟨self, mo, f, LO, HI, h1, h2, h3, h4, h5, h6, h7, h8, h9⟩ := h
    refine ⟨self, mo, f, LO, HI, h1, h2, h3, h4, h5, by rw [h6, hs], fun k hk p hp => h7 k hk p ((hs _).2 hp), fun k c hk => ?_, h9⟩
    obtain ⟨r, ⟨p, hp⟩, rest⟩ := h8 k c hk
    exact ⟨r.congr (fun p => hs _), ⟨p, (hs _).1 hp⟩, rest⟩

theorem Rep.mono {w : World} : ∀ {n b lo hi : Nat} {S : Path → Prop}, Rep n w b lo hi S → ∀ m, n ≤ m → Rep m w b lo hi S
  | 0, _, _, _, _, h, _, _ => absurd h (by simp [Rep])
  | n + 1, b, lo, hi, S, h, m, hm => by
    obtain ⟨m, rfl⟩ : ∃ m', m = m' + 1 := ⟨m - 1, by omega⟩
    obtain ⟨self, mo, f, LO, HI, h1, h2, h3, h4, h5, h6, h7, h8, h9⟩ := h
    refine ⟨self, mo, f, LO, HI, h1, h2, h3, h4, h5, h6, h7, fun k c hk => ?_, h9⟩
    obtain ⟨r, rest⟩ := h8 k c hk
    exact ⟨r.mono m (by omega), rest⟩

theorem Rep.lt {w : World} {n b lo hi : Nat} {S : Path → Prop} (h : Rep n w b lo hi S) : b < w.heap.size ∧ lo ≤ b ∧ b < hi := by
  cases n with
  | zero => exact absurd h (by simp [Rep])
  | succ n =>
    obtain ⟨self, mo, f, LO, HI, h1, h2, h3, _⟩ := h
    exact ⟨(Array.getElem?_eq_some_iff.1 h1).1, h2, h3⟩

open Classical in
theorem length_le_of_subset {α : Type} : ∀ (l1 l2 : List α), l1.Nodup → (∀ x ∈ l1, x ∈ l2) → l1.length ≤ l2.length
  | [], _, _, _ => Nat.zero_le _
  | a :: t, l2, hn, hs => by
    have hna : a ∉ t := (List.nodup_cons.1 hn).1
    have h1 := length_le_of_subset t (l2.filter (fun x => decide (x ≠ a))) (List.nodup_cons.1 hn).2 (fun x hx => by
      refine List.mem_filter.2 ⟨hs x (List.mem_cons_of_mem _ hx), ?_⟩
      refine decide_eq_true ?_
      rintro rfl
      exact hna hx)
    have h2 : (l2.filter (fun x => decide (x ≠ a))).length < l2.length := by
      rw [List.length_filter_lt_length_iff_exists]
      exact ⟨a, hs a List.mem_cons_self, by simp⟩
    exact Nat.succ_le_of_lt (Nat.lt_of_le_of_lt h1 h2)

theorem key_string {l : Lit} {v : Value} (h : keyOf Try.prog 9 v = some l) : ∃ s : Key, l = kl s := by
  obtain ⟨bs, rfl⟩ := (Go.WideMaps.string_law Try.underlying9).str h
  exact ⟨⟨bs.toArray⟩, by simp [kl]⟩

theorem entries_string {w : World} {bm N : Nat} {D : DataW Unit} (h : w.ownsMap Try.prog 9 ptrElem bm N D) : ∃ es, D = .map es ∧ es.Pairwise (fun p q => p.1 ≠ q.1) ∧ ∀ p ∈ es, ∃ s : Key, p.1 = kl s := by
  have h0 := h
  obtain ⟨es, clock, _, F, _, rfl⟩ := h
  obtain ⟨es', e, hp, _⟩ := h0.entries law9
  cases e
  refine ⟨_, rfl, hp, fun p hp => ?_⟩
  obtain ⟨x, hx, rfl⟩ := List.mem_map.1 (mem_sorted.1 hp)
  obtain ⟨y, hy⟩ := F.reads x hx
  rw [Go.WideElems.rg_of hy]
  exact key_string (Go.WideElems.rd_key hy)

theorem has_mem {es : List (Lit × DataW Unit)} (s : Key) : Maps.has (.map es) (kl s) = true ↔ kl s ∈ es.map (·.1) := by
  rw [Maps.has_eq, List.any_eq_true, List.mem_map]
  constructor
  · rintro ⟨p, hp, hk⟩
    exact ⟨p, hp, (WideAt.sameKey_iff (b := kl s) trivial).1 hk⟩
  · rintro ⟨p, hp, hk⟩
    exact ⟨p, hp, (WideAt.sameKey_iff (b := kl s) trivial).2 hk⟩

/-- How many entries a map has: as many as any list of its keys, each once. -/
theorem size_eq_of {D : DataW Unit} {w : World} {bm N : Nat} {f : Key → Option Nat} (h : w.ownsMap Try.prog 9 ptrElem bm N D) (hf : ∀ s, Maps.has D (kl s) = (f s).isSome)
    (l : List Key) (hn : l.Nodup) (hl : ∀ k, k ∈ l ↔ (f k).isSome = true) : Maps.size D = l.length := by
  obtain ⟨es, rfl, hp, hs⟩ := entries_string h
  rw [Maps.size_eq]
  have hnd : (es.map (·.1)).Nodup := by
    rw [List.nodup_iff_pairwise_ne, List.pairwise_map]
    exact hp
  have hnl : (l.map kl).Nodup := by
    rw [List.nodup_iff_pairwise_ne, List.pairwise_map]
    refine List.pairwise_iff_getElem.2 (fun i j hi hj hij e => ?_)
    exact List.pairwise_iff_getElem.1 (List.nodup_iff_pairwise_ne.1 hn) i j hi hj hij (kl_inj e)
  have h1 := length_le_of_subset (es.map (·.1)) (l.map kl) hnd (fun x hx => by
    obtain ⟨p, hpm, rfl⟩ := List.mem_map.1 hx
    obtain ⟨s, e⟩ := hs p hpm
    have hh : Maps.has (.map es) (kl s) = true := (has_mem s).2 (by rw [← e]; exact hx)
    rw [hf] at hh
    show p.1 ∈ _
    rw [e]
    exact List.mem_map_of_mem ((hl s).2 hh))
  have h2 := length_le_of_subset (l.map kl) (es.map (·.1)) hnl (fun x hx => by
    obtain ⟨s, hsm, rfl⟩ := List.mem_map.1 hx
    have hh := (hl s).1 hsm
    rw [← hf] at hh
    exact (has_mem s).1 hh)
  simp only [List.length_map] at h1 h2
  omega

end Go.Proofs.Qxb6628763a
