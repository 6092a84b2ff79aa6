/-
  SEAT b6628736a. PLAIN LAWS ON 'encF', AND THE LAWS ON A ROW OF uint64 THAT THE CALL MAKES.
-/
import Derived.Test.Qxb6628736aSize
import Derived.Laws.CopyOwn
namespace Go.Proofs.Qxb6628736a
open Go.RowKit

/-- The numbers, the one at index 'skip' left out. -/
def remF (skip : Int) : Nat → List Nat → List Nat
  | _, [] => []
  | i, z :: zs => (if (i : Int) = skip then [] else [z]) ++ remF skip (i + 1) zs

theorem remF_snoc (skip : Int) : ∀ (zs : List Nat) (i z : Nat), remF skip i (zs ++ [z]) = remF skip i zs ++ (if ((i + zs.length : Nat) : Int) = skip then [] else [z])
  | [], i, z => by simp [remF]
  | y :: zs, i, z => by
    rw [List.cons_append, remF, remF_snoc skip zs (i + 1) z, remF, List.append_assoc]
    rw [List.length_cons, show i + 1 + zs.length = i + (zs.length + 1) by omega]

theorem remF_le (skip : Int) : ∀ (zs : List Nat) (i : Nat), (remF skip i zs).length ≤ zs.length
  | [], i => by simp [remF]
  | y :: zs, i => by
    have h1 := remF_le skip zs (i + 1)
    rw [remF, List.length_append, List.length_cons]
    split <;> simp <;> omega

theorem remF_mem (skip : Int) (x : Nat) : ∀ (zs : List Nat) (i : Nat), x ∈ remF skip i zs → x ∈ zs
  | [], i, h => by simp [remF] at h
  | y :: zs, i, h => by
    rw [remF] at h
    rcases List.mem_append.1 h with h1 | h1
    · split at h1
      · simp at h1
      · simp at h1; subst h1; exact List.mem_cons_self
    · exact List.mem_cons_of_mem _ (remF_mem skip x zs (i + 1) h1)

theorem encF_neg (skip : Int) : ∀ (zs : List Nat) (i j : Nat), encF (-1) j (remF skip i zs) = encF skip i zs
  | [], i, j => by simp [remF, encF]
  | y :: zs, i, j => by
    rw [remF, encF]
    by_cases h : (i : Int) = skip
    · rw [if_pos h, if_pos h, List.nil_append, List.nil_append]
      exact encF_neg skip zs (i + 1) j
    · rw [if_neg h, if_neg h]
      simp only [List.singleton_append, encF]
      rw [if_neg (by omega), encF_neg skip zs (i + 1) (j + 1)]

theorem encF_out (skip : Int) : ∀ (zs : List Nat) (i : Nat), (∀ j : Nat, i ≤ j → j < i + zs.length → (j : Int) ≠ skip) → encF (-1) i zs = encF skip i zs
  | [], i, _ => by simp [encF]
  | y :: zs, i, h => by
    rw [encF, encF, if_neg (by omega), if_neg (h i (Nat.le_refl _) (by simp)), encF_out skip zs (i + 1) (fun j h1 h2 => h j (by omega) (by simp; omega))]

/-- A list of uint64 as cells. -/
def qCells (l : List Nat) : List Value := l.map fun z : Nat => Value.int .u64 (z : Int)

theorem qc_app (a b : List Nat) : qCells (a ++ b) = qCells a ++ qCells b := by simp [qCells]

theorem q_one (l : List Nat) : ∀ u ∈ qCells l, u.oneCell' = true := by
  intro u hu
  obtain ⟨_, _, rfl⟩ := List.mem_map.1 hu
  rfl

theorem info30 : (Try.prog.info? 30).map (fun i => (i.zero, i.size, i.bytes)) = some (some (.int .u64 0), 1, 8) := by kernel_rfl

theorem rq_of_own {B : Nat} {w : World} {v : Value} {n : Nat} {l : List Nat} (h : w.ownsRow B 30 1 v n (qCells l)) :
    ∃ a c, v = .slice a n c ∧ Rq w.heap.size w a n c l := by
  have hlen : l.length = n := by simpa [qCells] using h.1
  rcases h.2 with ⟨rfl, rfl⟩ | ⟨g, cap, cur, rfl, hb, hh, hnc, hcm, hcs, ht⟩
  · exact ⟨none, 0, rfl, hlen, Nat.le_refl _, by unfold maxLen; omega, fun _ => rfl, fun i hi => absurd hi (by omega)⟩
  · refine ⟨_, cap, rfl, hlen, hnc, hcm, (fun e => by cases e), fun i hi => ⟨g, 0, rfl, ?_, ?_⟩⟩
    · exact (h.lt g rfl).2
    · have := h.cellAt i (by omega)
      rw [Nat.zero_add, this]
      simp [qCells, show i < l.length by omega]

theorem rq_cells {B : Nat} {w : World} {x : Addr} {n c : Nat} {l : List Nat} (h : Rq B w (some x) n c l) : ∀ j u, (qCells l)[j]? = some u → w.cell? (x.add j) = some u := by
  intro j u hj
  have hl := h.1
  have hjl : j < l.length := by
    have := (List.getElem?_eq_some_iff.1 hj).1
    simpa [qCells] using this
  obtain ⟨b, off, e, _, hc⟩ := h.2.2.2.2 j (by omega)
  obtain rfl := Option.some.inj e
  rw [Addr.add_lit, hc]
  simp [qCells, hjl] at hj
  simp [hjl, hj]

/-- 'copy(zzc, counts)' onto a row of the call's own of the same length. -/
theorem wpList_copy64 {ops : Array Oper} {rest : List Oper} {o : Oper} {a : Act} {Q : Exit → Act → World → Prop} (hgd : o.guard = none) (d s : Operand)
    (ho : o.op = .call { callee := .builtin .copy, args := #[d, s], argTypes := #[23, 23] })
    (B : Nat) (w : World) (g m sc : Nat) (ad : Addr) (X : List Value) (zs : List Nat) (B' : Nat) (hd : a.eval d = .slice (some ⟨g, 0, none⟩) m m) (hs : a.eval s = .slice (some ad) m sc)
    (hown : w.ownsRow B 30 1 (.slice (some ⟨g, 0, none⟩) m m) m X) (hr : Rq B' w (some ad) m sc zs)
    (h : ∀ w', w'.ownsRow B 30 1 (.slice (some ⟨g, 0, none⟩) m m) m (qCells zs) → Below B w w' → wpList Try.prog ops Q rest (a.put o.dst (goInt m)) w') :
    wpList Try.prog ops Q (o :: rest) a w := by
  have hlen : (qCells zs).length = m := by simpa [qCells] using hr.1
  rcases hown.2 with ⟨e, _⟩ | ⟨g', cap, cur, e, hb, hh, hnc, hcm, hcs, ht⟩
  · cases e
  simp only [Value.slice.injEq, Option.some.injEq, Addr.mk.injEq, and_true, true_and] at e
  obtain ⟨rfl, rfl⟩ := e
  have hsz : (Try.prog.info? 30).map (·.size) = some 1 := by kernel_rfl
  refine wpList_copy_splice hgd d s 23 23 ho 30 Try.underlying23 hsz _ _ m m m sc hd hs g 0 cur.toList 30 hh (qCells zs) ?_ ?_ ?_ (q_one zs) B w (Below.refl _ _) hb ?_
  · rw [hlen]; exact (Nat.min_self m).symm
  · intro _
    exact ⟨rfl, ad, rfl, rq_cells hr⟩
  · rw [hlen]; simp; omega
  · intro w' H1 H2
    have e2 : splice cur.toList 0 (qCells zs) = qCells zs := by
      simp only [splice, List.take_zero, List.nil_append, Nat.zero_add]
      rw [List.drop_eq_nil_of_le (by rw [hlen]; simp; omega), List.append_nil]
    rw [hlen]
    refine h w' ⟨by rw [hlen]; omega, .inr ⟨g, m, (qCells zs).toArray, rfl, hb, ?_, Nat.le_refl _, hcm, ?_, ?_⟩⟩ H2
    · have := H1.out
      rw [e2] at this
      exact this
    · simp [hlen]
    · simp only [List.take_of_length_le (show (qCells zs).length ≤ m * 1 by rw [hlen]; omega)]

end Go.Proofs.Qxb6628736a
