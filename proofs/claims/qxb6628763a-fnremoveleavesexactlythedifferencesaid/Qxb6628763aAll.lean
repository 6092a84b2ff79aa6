/-
  SEAT b6628763a. zzAll (8): the numbers below n.
-/
import Derived.Test.Qxb6628763aKids
namespace Go.Proofs.Qxb6628763a
open Go.RowKit Go.Maps Go.WideMaps

theorem own_ext {w : World} {B e : Nat} {v : Value} {n : Nat} {xs ys : List Value} (h : w.ownsRow B e 1 v n xs) (hy : ys.length = n) (hx : ∀ t, t < n → xs[t]? = ys[t]?) : w.ownsRow B e 1 v n ys := by
  have e : xs = ys := by
    apply List.ext_getElem?
    intro i
    rcases Nat.lt_or_ge i n with h1 | h1
    · exact hx i h1
    · rw [List.getElem?_eq_none (by have := h.1; omega), List.getElem?_eq_none (by omega)]
  rw [← e]; exact h

set_option maxRecDepth 100000 in
set_option maxHeartbeats 1600000 in
theorem all_any (n : Nat) (w : World) (hn : n ≤ 1048576) :
    Calls Try.prog 8 #[.int .i64 (n : Int)] w fun e w' => ∃ a c, e = .returned (.slice a n c) ∧ RdI w'.heap.size w' a n c (List.range n) ∧ Below w.heap.size w w' := by
  obtain ⟨i0, hi, hz0, hz1, hz2⟩ := info_parts info3
  go_enter Try.func8, Try.ntmps8
  go_wp2_with (at_make; refine wpList_make_full _ rfl _ _ 26 rfl w.heap.size 3 i0 (.int .i64 0) 1 Try.underlying26 hi hz0 hz1 _ _ _ _ n rfl rfl rfl rfl (by rw [hz2]; omega) (by unfold maxLen; omega) (Nat.le_refl _) ?_)
  intro w1 hown hgrow
  have HB : Hid (Below w.heap.size w w1) := (Below.refl _ _).grown hgrow (Nat.le_refl _) (fun k hk => by cases hk)
  have HO := Lib.hid hown
  clear hown hgrow
  go_wp2_with fail
  go_loopw [4] (fun i wr => ∃ (k : Nat) (xs : List Value), k ≤ n ∧ i = .int .i64 k ∧ Hid (wr.ownsRow w.heap.size 3 1 (.slice (some ⟨w.heap.size, 0, none⟩) n n) n xs) ∧ Hid (∀ t, t < k → xs[t]? = some (ival t)) ∧ Hid (Below w.heap.size w wr)) (fun i _ => n - (intOf i).toNat)
  case atStart => exact ⟨0, _, Nat.zero_le _, rfl, HO, fun t ht => by omega, HB⟩
  case round =>
    obtain ⟨k, xs, hk, rfl, HOk, HX, HBk⟩ := hrel
    by_cases hlt : k < n
    · obtain ⟨g, c, e, hg, hcell, hfr⟩ := own_cell HOk.out k hlt
      simp only [Value.slice.injEq, Option.some.injEq, Addr.mk.injEq] at e
      obtain ⟨⟨rfl, _, _⟩, _, rfl⟩ := e
      have hxl : xs.length = n := by have := HOk.out.1; omega
      rw [List.getElem?_eq_getElem (by omega), Nat.zero_add] at hcell
      rw [Nat.zero_add] at hfr
      obtain ⟨hst, hgst⟩ := HOk.out.stored k (ival k)
      have HST := Lib.hid hst
      have HGS := Lib.hid hgst
      have HXL := Lib.hid hxl
      generalize xs[k] = xk at hcell
      clear hst hgst hxl
      have i0' : (k : Int) < (n : Int) := by omega
      have hsz : w.heap.size ≤ wr.heap.size := HBk.out.size
      go_wp2_with fail
      go_roundw
      case rel =>
        refine ⟨k + 1, xs.set k (ival k), by omega, by go_num, HST, fun t ht => ?_, HBk.out.grown HGS.out hsz (fun r hr => by cases hr; exact Nat.le_refl _)⟩
        rcases Nat.lt_or_ge t k with h1 | h1
        · rw [List.getElem?_set_ne (by omega)]; exact HX.out t h1
        · obtain rfl : t = k := by omega
          rw [List.getElem?_set_self (by have := HXL.out; omega)]
      case measure => simp [intOf]; omega
    · have hkn : k = n := by omega
      subst hkn
      go_wp2_with fail
      go_ret
      refine ⟨_, _, rfl, ?_, HBk.out⟩
      have h1 := own_ext HOk.out (ys := (List.range k).map ival) (by simp) (fun t ht => by rw [HX.out t ht]; simp [ht])
      obtain ⟨a, c, e, hr⟩ := rdi_of_own (l := List.range k) (by rw [List.length_range]; exact h1)
      rw [List.length_range] at e hr
      simp only [Value.slice.injEq] at e
      obtain ⟨rfl, _, rfl⟩ := e
      exact hr

end Go.Proofs.Qxb6628763a
