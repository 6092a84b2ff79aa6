/-
  SEAT b6628763a. zzBuild's CHILDREN: the map that is being filled, a child an entry, each child in an interval of its own behind the map.
-/
import Derived.Test.Qxb6628763aGroup
import Derived.Test.Qxb6628763aOut
import Derived.Test.Qxb6628763aBytes
namespace Go.Proofs.Qxb6628763a
open Go.RowKit Go.Maps Go.WideMaps

structure Kids (h : Nat) (w : World) (bm : Nat) (L : List Path) (gs : List (List Nat)) (ks : Path) (d j : Nat) (D : DataW Unit) (f : Key → Option Nat) (LO HI : Key → Nat) : Prop where
  own : w.ownsMap Try.prog 9 ptrElem bm j D
  is : ∀ s, Maps.has D (kl s) = (f s).isSome ∧ ∀ c, f s = some c → ∀ z, D.atKey (kl s) z = .lit (.int .i64 (c : Int))
  yes : ∀ t, t < j → ∃ c, f (ks.getD t ByteArray.empty) = some c ∧ Rep h w c (LO (ks.getD t ByteArray.empty)) (HI (ks.getD t ByteArray.empty)) (fun p => ∃ i ∈ gs.getD t [], (L.getD i []).drop (d + 1) = p) ∧ bm < LO (ks.getD t ByteArray.empty) ∧ HI (ks.getD t ByteArray.empty) ≤ w.heap.size
  no : ∀ k, (∀ t, t < j → ks.getD t ByteArray.empty ≠ k) → f k = none
  apart : ∀ k k' c c', k ≠ k' → f k = some c → f k' = some c' → HI k ≤ LO k' ∨ HI k' ≤ LO k

theorem kids_zero (h : Nat) (w : World) (L : List Path) (gs : List (List Nat)) (ks : Path) (d : Nat) : Kids h (w.alloc (.map #[] 0)) w.heap.size L gs ks d 0 (.map []) (fun _ => none) (fun _ => 0) (fun _ => 0) :=
  ⟨World.ownsMap_made _ _ _ _, fun s => ⟨rfl, fun c h => by cases h⟩, fun t ht => absurd ht (by omega), fun _ _ => rfl, fun k k' c c' _ h => by cases h⟩

section
variable {h : Nat} {w : World} {bm : Nat} {L : List Path} {gs : List (List Nat)} {ks : Path} {d j : Nat} {D : DataW Unit} {f : Key → Option Nat} {LO HI : Key → Nat}

/-- Who has an entry is a key before j. -/
theorem Kids.who (H : Kids h w bm L gs ks d j D f LO HI) {k : Key} {c : Nat} (hk : f k = some c) : ∃ t, t < j ∧ ks.getD t ByteArray.empty = k := by
  refine Classical.byContradiction (fun hn => ?_)
  have := H.no k (fun t ht e => hn ⟨t, ht, e⟩)
  rw [hk] at this
  cases this

theorem Kids.step (H : Kids h w bm L gs ks d j D f LO HI) (hnd : ks.Nodup) (hj : j < ks.length) {w5 w6 : World} (hb : Below w.heap.size w w5) {c : Nat} {x : Key} (hx : ks.getD j ByteArray.empty = x)
    (hrep : Rep h w5 c w.heap.size w5.heap.size (fun p => ∃ i ∈ gs.getD j [], (L.getD i []).drop (d + 1) = p)) (hown : w6.ownsMap Try.prog 9 ptrElem bm (j + 1) (D.put (kl x) (.lit (.int .i64 (c : Int))))) (hg : w5.grownBy w6 (some bm)) :
    Kids h w6 bm L gs ks d (j + 1) (D.put (kl x) (.lit (.int .i64 (c : Int)))) (fun k => if k = x then some c else f k) (fun k => if k = x then w.heap.size else LO k) (fun k => if k = x then w5.heap.size else HI k) := by
  have hbm := H.own.lt
  have hisD := H.own.isMap
  have hfx : ∀ t, t < j → ks.getD t ByteArray.empty ≠ x := fun t ht e => by
    have := getD_inj hnd (show t < ks.length by omega) hj (e.trans hx.symm)
    omega
  refine ⟨hown, fun s => ?_, fun t ht => ?_, fun k hk => ?_, fun k k' c1 c2 hne h1 h2 => ?_⟩
  · by_cases e : s = x
    · subst e
      simp only [if_pos]
      refine ⟨has_put_same (k := kl s) hisD trivial _, fun c' hc z => ?_⟩
      cases hc
      exact atKey_put_same (k := kl s) hisD trivial _ _
    · have hne : kl s ≠ kl x := fun h => e (kl_inj h)
      simp only [if_neg e]
      refine ⟨by rw [has_put_other hne]; exact (H.is s).1, fun c' hc z => ?_⟩
      rw [atKey_put_other hne]
      exact (H.is s).2 c' hc z
  · rcases Nat.lt_or_ge t j with h1 | h1
    · obtain ⟨c1, e1, e2, e3, e4⟩ := H.yes t h1
      have hne := hfx t h1
      simp only [if_neg hne]
      refine ⟨c1, e1, ?_, e3, Nat.le_trans e4 (Nat.le_trans hb.size hg.size)⟩
      exact (e2.frame (fun i h1 h2 => hb.block i (by omega))).grow hg (Nat.le_trans e4 hb.size) (fun r hr => by cases hr; exact .inl e3)
    · obtain rfl : t = j := by omega
      simp only [if_pos hx]
      exact ⟨c, rfl, hrep.grow hg (Nat.le_refl _) (fun r hr => by cases hr; exact .inl hbm), hbm, hg.size⟩
  · have hkx : k ≠ x := fun e => hk j (by omega) (hx.trans e.symm)
    simp only [if_neg hkx]
    exact H.no k (fun t ht => hk t (by omega))
  · by_cases e1 : k = x
    · have e2 : k' ≠ x := fun e => hne (e1.trans e.symm)
      simp only [if_pos e1, if_neg e2] at h1 h2 ⊢
      obtain ⟨t, ht, rfl⟩ := H.who h2
      obtain ⟨_, _, _, _, e4⟩ := H.yes t ht
      exact .inr e4
    · by_cases e2 : k' = x
      · simp only [if_neg e1, if_pos e2] at h1 h2 ⊢
        obtain ⟨t, ht, rfl⟩ := H.who h1
        obtain ⟨_, _, _, _, e4⟩ := H.yes t ht
        exact .inl e4
      · simp only [if_neg e1, if_neg e2] at h1 h2 ⊢
        exact H.apart k k' c1 c2 hne h1 h2

end

theorem drop_cons {l : Path} {d : Nat} {k : Key} {p : Path} (h : l.drop d = k :: p) : l.drop (d + 1) = p := by
  rw [← List.drop_drop, h]
  rfl

/-- The node over its children. -/
theorem rep_of_kids {h bm : Nat} {w0 w w' : World} {L : List Path} {idx : List Nat} {gs : List (List Nat)} {ks : Path} {d : Nat} {D : DataW Unit} {f : Key → Option Nat} {LO HI : Key → Nat} {sf : Bool} (G : GInv L idx d idx.length sf ks gs) (hks : ks.length ≤ 1048576)
    (H : Kids h w bm L gs ks d ks.length D f LO HI) (hlo : w0.heap.size ≤ bm) (hw : w' = w.alloc (.cells #[.bool sf, .map (some bm)] 42)) : Rep (h + 1) w' w.heap.size w0.heap.size w'.heap.size (fun p => ∃ i ∈ idx, (L.getD i []).drop d = p) := by
  have hbm := H.own.lt
  have hgr : w.grownBy w' none := by rw [hw]; exact World.grownBy_alloc _ _ _
  have hsz : w'.heap.size = w.heap.size + 1 := by rw [hw]; simp
  have htk : idx.take idx.length = idx := List.take_length
  refine ⟨sf, some bm, f, LO, HI, by rw [hw]; exact heap_alloc_new w _, by omega, by omega, fun m e => by cases e; exact ⟨hlo, by omega⟩, ⟨ks.length, D, hks, H.own.kept hgr (by simp), H.is⟩, by rw [G.self, htk], fun k hk p hp => ?_, fun k c hk => ?_, H.apart⟩
  · obtain ⟨i, hi, e⟩ := hp
    have hmem := G.all i (by rw [htk]; exact hi) k p e
    obtain ⟨t, ht, e2⟩ := List.getElem_of_mem hmem
    obtain ⟨c, e3, _⟩ := H.yes t ht
    have e4 : ks.getD t ByteArray.empty = k := by simp [ht, e2]
    rw [e4, hk] at e3
    cases e3
  · obtain ⟨t, ht, rfl⟩ := H.who hk
    obtain ⟨c', e1, e2, e3, e4⟩ := H.yes t ht
    rw [hk] at e1
    cases e1
    have hset : ∀ p, (∃ i ∈ gs.getD t [], (L.getD i []).drop (d + 1) = p) ↔ ∃ i ∈ idx, (L.getD i []).drop d = ks.getD t ByteArray.empty :: p := by
      intro p
      constructor
      · rintro ⟨i, hi, e⟩
        obtain ⟨h1, p', h2⟩ := (G.mem t ht i).1 hi
        rw [htk] at h1
        rw [drop_cons h2] at e
        subst e
        exact ⟨i, h1, h2⟩
      · rintro ⟨i, hi, e⟩
        exact ⟨i, (G.mem t ht i).2 ⟨by rw [htk]; exact hi, p, e⟩, drop_cons e⟩
    refine ⟨(e2.grow hgr e4 (fun r hr => by cases hr)).congr hset, ?_, by omega, by omega, .inr (by omega), fun m e => by cases e; exact .inl e3⟩
    obtain ⟨i, hi⟩ := List.exists_mem_of_ne_nil _ (G.ne t ht)
    obtain ⟨h1, p', h2⟩ := (G.mem t ht i).1 hi
    rw [htk] at h1
    exact ⟨p', i, h1, h2⟩

/-- The node with no child. -/
theorem rep_leaf {h : Nat} {w0 w w' : World} {L : List Path} {idx : List Nat} {gs : List (List Nat)} {d : Nat} {sf : Bool} (G : GInv L idx d idx.length sf [] gs) (hlo : w0.heap.size ≤ w.heap.size) (hw : w' = w.alloc (.cells #[.bool sf, .map none] 42)) :
    Rep (h + 1) w' w.heap.size w0.heap.size w'.heap.size (fun p => ∃ i ∈ idx, (L.getD i []).drop d = p) := by
  have hsz : w'.heap.size = w.heap.size + 1 := by rw [hw]; simp
  have htk : idx.take idx.length = idx := List.take_length
  refine ⟨sf, none, fun _ => none, fun _ => 0, fun _ => 0, by rw [hw]; exact heap_alloc_new w _, by omega, by omega, (fun m e => by cases e), fun _ => rfl, by rw [G.self, htk], fun k _ p hp => ?_, (fun k c e => by cases e), fun k k' c c' _ e => by cases e⟩
  obtain ⟨i, hi, e⟩ := hp
  have := G.all i (by rw [htk]; exact hi) k p e
  cases this

end Go.Proofs.Qxb6628763a
