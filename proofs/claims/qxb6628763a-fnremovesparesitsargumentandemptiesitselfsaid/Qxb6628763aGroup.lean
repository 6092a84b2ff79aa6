/-
  SEAT b6628763a. zzBuild's HEAPS OF INDICES: slices of ints, a slice of such slices that grow; what the first loop gathers.
-/
import Derived.Test.Qxb6628763aRight
import Derived.Laws.OwnMore
namespace Go.Proofs.Qxb6628763a
open Go.RowKit Go.Maps Go.WideMaps

abbrev ival (n : Nat) : Value := .int .i64 (n : Int)

theorem info3 : (Try.prog.info? 3).map (fun i => (i.zero, i.size, i.bytes)) = some (some (.int .i64 0), 1, 8) := by kernel_rfl
theorem info26 : (Try.prog.info? 26).map (fun i => (i.zero, i.size, i.bytes)) = some (some (.slice none 0 0), 1, 24) := by kernel_rfl

/-- A slice value reads as the numbers l. -/
def RdI (B : Nat) (w : World) (a : Option Addr) (n c : Nat) (l : List Nat) : Prop :=
  l.length = n ∧ n ≤ c ∧ c ≤ maxLen ∧ (a = none → c = 0) ∧
  ∀ i, i < n → ∃ b off, a = some ⟨b, off, none⟩ ∧ b < B ∧ w.cell? ⟨b, off + i, none⟩ = some (ival (l.getD i 0))

theorem RdI.mono {B B' : Nat} {w : World} {a : Option Addr} {n c : Nat} {l : List Nat} (h : RdI B w a n c l) (hB : B ≤ B') : RdI B' w a n c l := by
  obtain ⟨h1, h2, h3, h4, h5⟩ := h
  refine ⟨h1, h2, h3, h4, fun i hi => ?_⟩
  obtain ⟨b, off, e, hb, hc⟩ := h5 i hi
  exact ⟨b, off, e, by omega, hc⟩

theorem RdI.below {B : Nat} {w w' : World} {a : Option Addr} {n c : Nat} {l : List Nat} (h : RdI B w a n c l) (hb : Below B w w') : RdI B w' a n c l := by
  obtain ⟨h1, h2, h3, h4, h5⟩ := h
  refine ⟨h1, h2, h3, h4, fun i hi => ?_⟩
  obtain ⟨b, off, e, hlt, hc⟩ := h5 i hi
  exact ⟨b, off, e, hlt, by rw [hb.cell (p := ⟨b, off + i, none⟩) hlt]; exact hc⟩

theorem RdI.at {B : Nat} {w : World} {a : Option Addr} {n c : Nat} {l : List Nat} (h : RdI B w a n c l) (h0 : 0 < n) :
    ∃ b off, a = some ⟨b, off, none⟩ ∧ b < B ∧ ∀ i, i < n → w.cell? ⟨b, off + i, none⟩ = some (ival (l.getD i 0)) := by
  obtain ⟨h1, h2, h3, h4, h5⟩ := h
  obtain ⟨b, off, rfl, hlt, _⟩ := h5 0 h0
  refine ⟨b, off, rfl, hlt, fun i hi => ?_⟩
  obtain ⟨b', off', e, _, hc⟩ := h5 i hi
  simp only [Option.some.injEq, Addr.mk.injEq] at e
  obtain ⟨rfl, rfl, _⟩ := e
  exact hc

theorem own_cell {w : World} {B e : Nat} {v : Value} {n : Nat} {xs : List Value} (h : w.ownsRow B e 1 v n xs) (i : Nat) (hi : i < n) :
    ∃ g c, v = .slice (some ⟨g, 0, none⟩) n c ∧ g < w.heap.size ∧ w.cell? ⟨g, 0 + i, none⟩ = xs[i]? ∧ w.frozen? ⟨g, 0 + i, none⟩ = false := by
  rcases h.2 with ⟨rfl, h0⟩ | ⟨g, cap, cur, rfl, hb, hg, h1, h2, h3, h4⟩
  · omega
  · refine ⟨g, cap, rfl, (Array.getElem?_eq_some_iff.1 hg).1, ?_, frozen_of_row w g _ _ e hg⟩
    rw [cell_of_row w g _ _ e (0, 0) hg, ← h4, List.getElem?_take_of_lt (by omega)]
    simp

theorem rdi_of_own {w : World} {B : Nat} {v : Value} {l : List Nat} (h : w.ownsRow B 3 1 v l.length (l.map ival)) : ∃ a c, v = .slice a l.length c ∧ RdI w.heap.size w a l.length c l := by
  rcases h.2 with ⟨rfl, h0⟩ | ⟨g, cap, cur, rfl, hb, hg, h1, h2, h3, h4⟩
  · obtain rfl := List.eq_nil_of_length_eq_zero h0
    exact ⟨none, 0, rfl, rfl, Nat.le_refl _, by unfold maxLen; omega, fun _ => rfl, fun i hi => absurd hi (by simp)⟩
  · refine ⟨_, _, rfl, rfl, h1, h2, (fun h => by cases h), fun i hi => ⟨g, 0, rfl, (Array.getElem?_eq_some_iff.1 hg).1, ?_⟩⟩
    rw [cell_of_row w g _ _ 3 (0, 0) hg]
    have e : (cur.toList.take (l.length * 1))[i]? = (l.map ival)[i]? := by rw [h4]
    rw [List.getElem?_take_of_lt (by omega)] at e
    simp only [Nat.zero_add, Array.getElem?_toList] at e ⊢
    rw [e]
    simp [hi]

/-- Rows of different element types lie in different blocks. -/
theorem own_apart {w : World} {B e e' s s' : Nat} {v v' : Value} {n n' : Nat} {xs xs' : List Value} (h : w.ownsRow B e s v n xs) (h' : w.ownsRow B e' s' v' n' xs') (hne : e ≠ e') : v.ownBlock = none ∨ v.ownBlock ≠ v'.ownBlock := by
  rcases h.2 with ⟨rfl, _⟩ | ⟨g, cap, cur, rfl, hb, hg, _⟩
  · exact .inl rfl
  · right
    rcases h'.2 with ⟨rfl, _⟩ | ⟨g', cap', cur', rfl, hb', hg', _⟩
    · simp [Value.ownBlock]
    · intro e
      simp [Value.ownBlock] at e
      subst e
      rw [hg] at hg'
      cases hg'
      exact hne rfl

/-- A slice of slices of ints, each of the call's own, no two in one block. -/
def Grp (B : Nat) (w : World) (v : Value) (gs : List (List Nat)) (vals : List Value) : Prop :=
  w.ownsRow B 26 1 v gs.length vals ∧ (∀ t, t < gs.length → w.ownsRow B 3 1 (vals.getD t undef) (gs.getD t []).length ((gs.getD t []).map ival)) ∧
  ∀ t t', t < gs.length → t' < gs.length → t ≠ t' → (vals.getD t undef).ownBlock = none ∨ (vals.getD t undef).ownBlock ≠ (vals.getD t' undef).ownBlock

theorem grp_nil (B : Nat) (w : World) : Grp B w (.slice none 0 0) [] [] := ⟨World.ownsRow_nil _ _ _ _, fun t ht => absurd ht (by simp), fun t t' ht => absurd ht (by simp)⟩

theorem Grp.len {B : Nat} {w : World} {v : Value} {gs : List (List Nat)} {vals : List Value} (h : Grp B w v gs vals) : vals.length = gs.length := by have := h.1.1; omega

theorem Grp.kept {B : Nat} {w w' : World} {v : Value} {gs : List (List Nat)} {vals : List Value} {row : Option Nat} (h : Grp B w v gs vals) (hg : w.grownBy w' row) (h1 : v.ownBlock = none ∨ v.ownBlock ≠ row)
    (h2 : ∀ t, t < gs.length → (vals.getD t undef).ownBlock = none ∨ (vals.getD t undef).ownBlock ≠ row) : Grp B w' v gs vals :=
  ⟨h.1.kept hg h1, fun t ht => (h.2.1 t ht).kept hg (h2 t ht), h.2.2⟩

/-- A row of another type has turned: nothing here has. -/
theorem Grp.other {B : Nat} {w w' : World} {v : Value} {gs : List (List Nat)} {vals : List Value} (h : Grp B w v gs vals) {e s n : Nat} {u : Value} {xs : List Value} (hu : w.ownsRow B e s u n xs) (he : e ≠ 26) (he' : e ≠ 3) (hg : w.grownBy w' u.ownBlock) : Grp B w' v gs vals :=
  h.kept hg (own_apart h.1 hu (fun h => he h.symm)) (fun t ht => own_apart (h.2.1 t ht) hu (fun h => he' h.symm))

/-- One empty group more. -/
theorem Grp.push {B : Nat} {w w' : World} {v v' : Value} {gs : List (List Nat)} {vals : List Value} (h : Grp B w v gs vals) (hg : w.grownBy w' v.ownBlock) (hown : w'.ownsRow B 26 1 v' (gs.length + 1) (vals ++ [.slice none 0 0])) : Grp B w' v' (gs ++ [[]]) (vals ++ [.slice none 0 0]) := by
  have hl := h.len
  refine ⟨by simpa using hown, fun t ht => ?_, fun t t' ht ht' hne => ?_⟩
  · simp only [List.length_append, List.length_cons, List.length_nil] at ht
    rcases Nat.lt_or_ge t gs.length with h1 | h1
    · have := (h.2.1 t h1).kept hg (own_apart (h.2.1 t h1) h.1 (by decide))
      simpa [List.getElem?_append_left h1, List.getElem?_append_left (hl ▸ h1)] using this
    · obtain rfl : t = gs.length := by omega
      have e : (vals ++ [Value.slice none 0 0]).getD gs.length undef = .slice none 0 0 := by rw [← hl]; simp
      rw [e]
      simp
      exact World.ownsRow_nil _ _ _ _
  · simp only [List.length_append, List.length_cons, List.length_nil] at ht ht'
    rcases Nat.lt_or_ge t gs.length with h1 | h1
    · have e1 : (vals ++ [Value.slice none 0 0]).getD t undef = vals.getD t undef := by simp [List.getElem?_append_left (hl ▸ h1)]
      rw [e1]
      rcases Nat.lt_or_ge t' gs.length with h2 | h2
      · have e2 : (vals ++ [Value.slice none 0 0]).getD t' undef = vals.getD t' undef := by simp [List.getElem?_append_left (hl ▸ h2)]
        rw [e2]
        exact h.2.2 t t' h1 h2 hne
      · obtain rfl : t' = gs.length := by omega
        have e : (vals ++ [Value.slice none 0 0]).getD gs.length undef = .slice none 0 0 := by rw [← hl]; simp
        rw [e]
        cases hb : (vals.getD t undef).ownBlock with
        | none => exact .inl rfl
        | some b => right; simp [Value.ownBlock]
    · obtain rfl : t = gs.length := by omega
      have e : (vals ++ [Value.slice none 0 0]).getD gs.length undef = .slice none 0 0 := by rw [← hl]; simp
      rw [e]
      exact .inl rfl

theorem getD_set {α : Type} (l : List α) (i j : Nat) (x d : α) (hi : i < l.length) : (l.set i x).getD j d = if j = i then x else l.getD j d := by
  by_cases h : j = i
  · subst h; simp [hi]
  · simp [h, List.getElem?_set_ne (Ne.symm h)]

/-- 'groups[at] = append(groups[at], i)'. -/
theorem Grp.put {B : Nat} {w wa w1 : World} {g n c : Nat} {gs : List (List Nat)} {vals : List Value} (h : Grp B w (.slice (some ⟨g, 0, none⟩) n c) gs vals) (hn : n = gs.length) (j : Nat) (hj : j < gs.length) (i : Nat) (ha : w.grownBy wa none) (v1 : Value)
    (hg : wa.grownBy w1 (vals.getD j undef).ownBlock) (hown : w1.ownsRow B 3 1 v1 ((gs.getD j []).length + 1) ((gs.getD j []).map ival ++ [ival i])) (hat : v1.ownBlock = (vals.getD j undef).ownBlock ∨ v1.ownBlock = some wa.heap.size) :
    Grp B (w1.setCell ⟨g, j, none⟩ v1) (.slice (some ⟨g, 0, none⟩) n c) (gs.set j (gs.getD j [] ++ [i])) (vals.set j v1) ∧ w1.grownBy (w1.setCell ⟨g, j, none⟩ v1) (some g) ∧ w1.ownsRow B 26 1 (.slice (some ⟨g, 0, none⟩) n c) n vals := by
  subst hn
  have hl := h.len
  have hA : Grp B wa (.slice (some ⟨g, 0, none⟩) gs.length c) gs vals := h.kept ha (.inr (by simp [Value.ownBlock])) (fun t ht => by
    cases hb : (vals.getD t undef).ownBlock with
    | none => exact .inl rfl
    | some b => exact .inr (by simp))
  have hrow := hA.1.kept hg (own_apart hA.1 (hA.2.1 j hj) (by decide))
  obtain ⟨hst, hgst⟩ := hrow.stored j v1
  refine ⟨⟨by simpa using hst, fun t ht => ?_, fun t t' ht ht' hne => ?_⟩, hgst, hrow⟩
  · rw [List.length_set] at ht
    rw [getD_set _ _ _ _ _ (by omega), getD_set _ _ _ _ _ hj]
    by_cases e : t = j
    · subst e
      rw [if_pos rfl, if_pos rfl]
      have := hown.kept hgst (by have := own_apart hown hrow (by decide); simpa [Value.ownBlock] using this)
      simpa using this
    · rw [if_neg e, if_neg e]
      have q1 := (hA.2.1 t ht).kept hg (hA.2.2 t j ht hj e)
      exact q1.kept hgst (by have := own_apart q1 hrow (by decide); simpa [Value.ownBlock] using this)
  · rw [List.length_set] at ht ht'
    rw [getD_set _ _ _ _ _ (by omega), getD_set _ _ _ _ _ (by omega)]
    have fresh : ∀ u, u < gs.length → ∀ b, (vals.getD u undef).ownBlock = some b → b < wa.heap.size := fun u hu b hb => ((hA.2.1 u hu).lt b hb).2
    by_cases e : t = j
    · subst e
      rw [if_pos rfl, if_neg (Ne.symm hne)]
      rcases hat with e1 | e1
      · rw [e1]; exact hA.2.2 t t' ht ht' hne
      · right
        rw [e1]
        intro e2
        have := fresh t' ht' _ e2.symm
        omega
    · rw [if_neg e]
      by_cases e' : t' = j
      · subst e'
        rw [if_pos rfl]
        rcases hat with e1 | e1
        · rw [e1]; exact hA.2.2 t t' ht ht' hne
        · cases hb : (vals.getD t undef).ownBlock with
          | none => exact .inl rfl
          | some b =>
            right
            rw [e1]
            intro e2
            have := fresh t ht b hb
            cases e2
            omega
      · rw [if_neg e']
        exact hA.2.2 t t' ht ht' hne

/-- What the first loop has gathered before round j. -/
structure GInv (L : List Path) (idx : List Nat) (d j : Nat) (sf : Bool) (ks : Path) (gs : List (List Nat)) : Prop where
  nodup : ks.Nodup
  len : gs.length = ks.length
  self : sf = true ↔ ∃ i ∈ idx.take j, (L.getD i []).drop d = []
  mem : ∀ t, t < ks.length → ∀ i, i ∈ gs.getD t [] ↔ i ∈ idx.take j ∧ ∃ p, (L.getD i []).drop d = ks.getD t ByteArray.empty :: p
  all : ∀ i ∈ idx.take j, ∀ k p, (L.getD i []).drop d = k :: p → k ∈ ks
  ne : ∀ t, t < ks.length → gs.getD t [] ≠ []
  kle : ks.length ≤ j
  gle : ∀ t, t < ks.length → (gs.getD t []).length ≤ j

theorem ginv_zero (L : List Path) (idx : List Nat) (d : Nat) : GInv L idx d 0 false [] [] :=
  ⟨List.nodup_nil, rfl, by simp, fun t ht => absurd ht (by simp), by simp, fun t ht => absurd ht (by simp), Nat.le_refl _, fun t ht => absurd ht (by simp)⟩

section
variable {L : List Path} {idx : List Nat} {d j : Nat} {sf : Bool} {ks : Path} {gs : List (List Nat)} {i : Nat}

theorem take_step (hj : j < idx.length) (hi : idx.getD j 0 = i) : idx.take (j + 1) = idx.take j ++ [i] := by
  rw [List.take_succ_eq_append_getElem hj]
  simp [hj] at hi
  rw [hi]

theorem GInv.hit (h : GInv L idx d j sf ks gs) (hj : j < idx.length) (hi : idx.getD j 0 = i) (he : (L.getD i []).drop d = []) : GInv L idx d (j + 1) true ks gs := by
  have ht := take_step hj hi
  refine ⟨h.nodup, h.len, ⟨fun _ => ⟨i, by rw [ht]; simp, he⟩, fun _ => rfl⟩, fun t htl u => ?_, fun u hu k p hp => ?_, h.ne, by have := h.kle; omega, fun t htl => by have := h.gle t htl; omega⟩
  · rw [h.mem t htl u, ht]
    constructor
    · rintro ⟨a, b⟩; exact ⟨List.mem_append_left _ a, b⟩
    · rintro ⟨a, p, hp⟩
      rcases List.mem_append.1 a with a | a
      · exact ⟨a, p, hp⟩
      · simp at a; subst a; rw [he] at hp; cases hp
  · rw [ht] at hu
    rcases List.mem_append.1 hu with a | a
    · exact h.all u a k p hp
    · simp at a; subst a; rw [he] at hp; cases hp

theorem GInv.selfStep (h : GInv L idx d j sf ks gs) (hj : j < idx.length) (hi : idx.getD j 0 = i) {k : Key} {p : Path} (he : (L.getD i []).drop d = k :: p) : sf = true ↔ ∃ i ∈ idx.take (j + 1), (L.getD i []).drop d = [] := by
  rw [h.self, take_step hj hi]
  constructor
  · rintro ⟨u, a, b⟩; exact ⟨u, List.mem_append_left _ a, b⟩
  · rintro ⟨u, a, b⟩
    rcases List.mem_append.1 a with a | a
    · exact ⟨u, a, b⟩
    · simp at a; subst a; rw [he] at b; cases b

theorem getD_inj {l : Path} (hn : l.Nodup) {a b : Nat} (ha : a < l.length) (hb : b < l.length) (e : l.getD a ByteArray.empty = l.getD b ByteArray.empty) : a = b := by
  simp [ha, hb] at e
  have hp := List.pairwise_iff_getElem.1 (List.nodup_iff_pairwise_ne.1 hn)
  rcases Nat.lt_trichotomy a b with h | h | h
  · exact absurd e (hp a b ha hb h)
  · exact h
  · exact absurd e.symm (hp b a hb ha h)

theorem GInv.old (h : GInv L idx d j sf ks gs) (hj : j < idx.length) (hi : idx.getD j 0 = i) {k : Key} {p : Path} (he : (L.getD i []).drop d = k :: p) (t0 : Nat) (ht0 : t0 < ks.length) (hk : ks.getD t0 ByteArray.empty = k) :
    GInv L idx d (j + 1) sf ks (gs.set t0 (gs.getD t0 [] ++ [i])) := by
  have ht := take_step hj hi
  have hg : t0 < gs.length := by rw [h.len]; exact ht0
  refine ⟨h.nodup, by rw [List.length_set]; exact h.len, h.selfStep hj hi he, fun t htl u => ?_, fun u hu k' p' hp => ?_, fun t htl => ?_, by have := h.kle; omega, fun t htl => ?_⟩
  · rw [getD_set _ _ _ _ _ hg, ht]
    by_cases e : t = t0
    · subst e
      rw [if_pos rfl, List.mem_append, List.mem_append, h.mem t htl u]
      constructor
      · rintro (⟨a, b⟩ | a)
        · exact ⟨.inl a, b⟩
        · refine ⟨.inr a, ?_⟩
          simp at a; subst a
          exact ⟨p, by rw [hk]; exact he⟩
      · rintro ⟨a | a, b⟩
        · exact .inl ⟨a, b⟩
        · exact .inr a
    · rw [if_neg e, h.mem t htl u, List.mem_append]
      constructor
      · rintro ⟨a, b⟩; exact ⟨.inl a, b⟩
      · rintro ⟨a | a, p', hp⟩
        · exact ⟨a, p', hp⟩
        · simp at a; subst a
          rw [he] at hp
          cases hp
          exact absurd (getD_inj h.nodup htl ht0 hk.symm) e
  · rw [ht] at hu
    rcases List.mem_append.1 hu with a | a
    · exact h.all u a k' p' hp
    · simp at a; subst a
      rw [he] at hp
      cases hp
      rw [← hk]
      simp [ht0]
  · rw [getD_set _ _ _ _ _ hg]
    by_cases e : t = t0
    · rw [if_pos e]; simp
    · rw [if_neg e]; exact h.ne t htl
  · rw [getD_set _ _ _ _ _ hg]
    by_cases e : t = t0
    · rw [if_pos e, List.length_append]; have := h.gle t0 ht0; simp only [List.length_cons, List.length_nil]; omega
    · rw [if_neg e]; have := h.gle t htl; omega

theorem GInv.new (h : GInv L idx d j sf ks gs) (hj : j < idx.length) (hi : idx.getD j 0 = i) {k : Key} {p : Path} (he : (L.getD i []).drop d = k :: p) (hk : k ∉ ks) :
    GInv L idx d (j + 1) sf (ks ++ [k]) ((gs ++ [[]]).set ks.length ((gs ++ [[]]).getD ks.length [] ++ [i])) := by
  have ht := take_step hj hi
  have hlen := h.len
  have e0 : (gs ++ [[]]).set ks.length ((gs ++ [[]]).getD ks.length [] ++ [i]) = gs ++ [[i]] := by
    rw [← hlen]
    simp
  rw [e0]
  have kl1 : ∀ t, t < ks.length → (ks ++ [k]).getD t ByteArray.empty = ks.getD t ByteArray.empty := fun t htl => by simp [List.getElem?_append_left htl]
  have gl1 : ∀ t, t < ks.length → (gs ++ [[i]]).getD t [] = gs.getD t [] := fun t htl => by simp [List.getElem?_append_left (hlen ▸ htl)]
  have gl2 : (gs ++ [[i]]).getD ks.length [] = [i] := by rw [← hlen]; simp
  have kl2 : (ks ++ [k]).getD ks.length ByteArray.empty = k := by simp
  refine ⟨?_, by simp [hlen], h.selfStep hj hi he, fun t htl u => ?_, fun u hu k' p' hp => ?_, fun t htl => ?_, by have := h.kle; simp; omega, fun t htl => ?_⟩
  · rw [List.nodup_append]
    exact ⟨h.nodup, List.nodup_cons.2 ⟨List.not_mem_nil, List.nodup_nil⟩, fun a ha b hb => by simp at hb; rintro rfl; subst hb; exact hk ha⟩
  · simp only [List.length_append, List.length_cons, List.length_nil] at htl
    rcases Nat.lt_or_ge t ks.length with h1 | h1
    · rw [gl1 t h1, kl1 t h1, h.mem t h1 u, ht, List.mem_append]
      constructor
      · rintro ⟨a, b⟩; exact ⟨.inl a, b⟩
      · rintro ⟨a | a, p', hp⟩
        · exact ⟨a, p', hp⟩
        · simp at a; subst a
          rw [he] at hp
          cases hp
          refine absurd ?_ hk
          simp [h1]
    · obtain rfl : t = ks.length := by omega
      rw [gl2, kl2, ht, List.mem_append]
      constructor
      · intro a
        refine ⟨.inr a, ?_⟩
        simp at a; subst a
        exact ⟨p, he⟩
      · rintro ⟨a | a, p', hp⟩
        · exact absurd (h.all u a k p' hp) hk
        · exact a
  · rw [ht] at hu
    rcases List.mem_append.1 hu with a | a
    · exact List.mem_append_left _ (h.all u a k' p' hp)
    · simp at a; subst a
      rw [he] at hp
      cases hp
      simp
  · simp only [List.length_append, List.length_cons, List.length_nil] at htl
    rcases Nat.lt_or_ge t ks.length with h1 | h1
    · rw [gl1 t h1]; exact h.ne t h1
    · obtain rfl : t = ks.length := by omega
      rw [gl2]; simp
  · simp only [List.length_append, List.length_cons, List.length_nil] at htl
    rcases Nat.lt_or_ge t ks.length with h1 | h1
    · rw [gl1 t h1]; have := h.gle t h1; omega
    · obtain rfl : t = ks.length := by omega
      rw [gl2]; simp

end

end Go.Proofs.Qxb6628763a
