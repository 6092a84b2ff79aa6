/-
  SEAT b6628736a. cloneBytes (7): a fresh copy whose capacity is its length.
-/
import Derived.Test.Qxb6628736aRead
import Derived.Lib.UnsafeStr
import Derived.Lib.SliceRun
namespace Go.Proofs.Qxb6628736a
open Go.RowKit

theorem info5 : (Try.prog.info? 5).map (fun i => (i.zero, i.size, i.bytes)) = some (some (.int .u8 0), 1, 1) := by kernel_rfl

/-- The copy after k rounds. -/
def half (l : List UInt8) (n k : Nat) : List Value := (List.range n).map fun i => if i < k then Value.int .u8 ((l.getD i 0).toNat : Int) else Value.int .u8 0

theorem half_zero (l : List UInt8) (n : Nat) : half l n 0 = List.replicate n (Value.int .u8 0) := by
  apply List.ext_getElem <;> simp [half]

theorem half_set (l : List UInt8) (n k : Nat) : (half l n k).set k (Value.int .u8 ((l.getD k 0).toNat : Int)) = half l n (k + 1) := by
  apply List.ext_getElem
  · simp [half]
  · intro i h1 h2
    simp only [half, List.getElem_set, List.getElem_map, List.getElem_range]
    by_cases hik : k = i
    · subst hik; simp
    · rw [if_neg hik]
      by_cases h : i < k
      · rw [if_pos h, if_pos (by omega)]
      · rw [if_neg h, if_neg (by omega)]

theorem half_full (l : List UInt8) (n : Nat) (h : l.length = n) : half l n n = Lib.byteCells l := by
  subst h
  apply List.ext_getElem
  · simp [half, Lib.byteCells]
  · intro i h1 h2
    have hi : i < l.length := by simpa [half] using h1
    simp [half, Lib.byteCells, hi]

theorem half_at (l : List UInt8) (n k j : Nat) (hj : j < n) : ∃ v : Int, (half l n k)[j]? = some (Value.int .u8 v) := by
  unfold half
  by_cases h : j < k
  · exact ⟨_, by simp [hj, h]; rfl⟩
  · exact ⟨0, by simp [hj, h]⟩

/-- What is owned is read. -/
theorem rd_of_own {B : Nat} {w : World} {v : Value} {n : Nat} {l : List UInt8} (h : w.ownsRow B 5 1 v n (Lib.byteCells l)) :
    ∃ a c, v = .slice a n c ∧ Rd w.heap.size w a n c l := by
  have hlen : l.length = n := by simpa [Lib.byteCells] using h.1
  rcases h.2 with ⟨rfl, rfl⟩ | ⟨g, cap, cur, rfl, hb, hh, hnc, hcm, hcs, ht⟩
  · exact ⟨none, 0, rfl, hlen, Nat.le_refl _, by unfold maxLen; omega, fun _ => rfl, fun i hi => absurd hi (by omega)⟩
  · refine ⟨_, cap, rfl, hlen, hnc, hcm, (fun e => by cases e), fun i hi => ⟨g, 0, rfl, ?_, ?_⟩⟩
    · exact (h.lt g rfl).2
    · have := h.cellAt i (by omega)
      rw [Nat.zero_add, this]
      simp [Lib.byteCells, show i < l.length by omega]

set_option maxHeartbeats 800000 in
theorem clone_any (a : Option Addr) (n c : Nat) (l : List UInt8) (w : World) (r : Rd w.heap.size w a n c l) (hn : n ≤ 1048576) :
    Calls Try.prog 7 #[.slice a n c] w fun e w' => ∃ a', e = .returned (.slice a' n n) ∧ w'.ownsRow w.heap.size 5 1 (.slice a' n n) n (Lib.byteCells l) ∧ Below w.heap.size w w' := by
  obtain ⟨i0, hi, hz0, hz1, hz2⟩ := info_parts info5
  have q22 : ∀ (w : World) (a : Option Addr) (n c n' c' : Nat), (binOp .eql 22 (.slice a n c) (.slice none n' c')).run Try.prog w = .ok (.bool a.isNone) w := fun w a n c n' c' => Lib.run_eql_slice_nil w 22 5 a n c n' c' Try.underlying22
  have R : Hid (Rd w.heap.size w a n c l) := r
  clear r
  cases a with
  | none =>
    have hc0 := R.out.2.2.2.1 rfl
    have hnc := R.out.2.1
    obtain rfl : n = 0 := by omega
    obtain rfl : c = 0 := hc0
    clear hnc
    go_enter Try.func7, Try.ntmps7
    go_wp2
    go_ret
    obtain rfl : l = [] := List.eq_nil_of_length_eq_zero R.out.1
    exact ⟨_, rfl, World.ownsRow_nil _ _ _ _, Below.refl _ _⟩
  | some x =>
    go_enter Try.func7, Try.ntmps7
    go_wp2_with (at_make; refine wpList_make_full _ rfl _ _ 22 rfl w.heap.size 5 i0 (.int .u8 0) 1 Try.underlying22 hi hz0 hz1 _ _ _ _ n rfl rfl rfl rfl (by rw [hz2]; omega) (by unfold maxLen; omega) (Nat.le_refl _) ?_)
    intro w1 hown hgrow
    have hnx : Below w.heap.size w w1 := (Below.refl _ _).grown hgrow (Nat.le_refl _) (fun k hk => by cases hk)
    have e0 : (madeCells #[Value.int .u8 0] n).toList = half l n 0 := by
      rw [half_zero]; exact toList_madeCells_one _ _
    rw [e0] at hown
    clear e0 hgrow
    have HO : Hid (w1.ownsRow w.heap.size 5 1 (.slice (some ⟨w.heap.size, 0, none⟩) n n) n (half l n 0)) := hown
    have HB : Hid (Below w.heap.size w w1) := hnx
    clear hown hnx
    go_wp2
    go_loopw [4] (fun i wr => ∃ k : Nat, k ≤ n ∧ i = .int .i64 k ∧ Hid (wr.ownsRow w.heap.size 5 1 (.slice (some ⟨w.heap.size, 0, none⟩) n n) n (half l n k)) ∧ Hid (Below w.heap.size w wr)) (fun i _ => n - (intOf i).toNat)
    case atStart => exact ⟨0, Nat.zero_le _, rfl, HO, HB⟩
    case round =>
      obtain ⟨k, hk, rfl, HOk, HBk⟩ := hrel
      by_cases hlt : k < n
      · obtain ⟨b, off, hx, hbB, hc⟩ := R.out.at (by omega)
        obtain rfl : x = ⟨b, off, none⟩ := Option.some.inj hx
        have g0 := hc k hlt
        clear hc hx
        have g1 : wr.cell? ⟨b, off + k, none⟩ = some (.int .u8 ((l.getD k 0).toNat : Int)) := by rw [HBk.out.cell (p := ⟨b, off + k, none⟩) hbB]; exact g0
        clear g0
        obtain ⟨y, hy⟩ : ∃ y : Int, y = ((l.getD k 0).toNat : Int) := ⟨_, rfl⟩
        rw [← hy] at g1
        have HY : Hid (y = ((l.getD k 0).toNat : Int)) := hy
        clear hy
        have i1 : (k : Int) < (n : Int) := by omega
        obtain ⟨u, hu⟩ := half_at l n k k hlt
        have g2 : wr.cell? ⟨w.heap.size, k, none⟩ = some (.int .u8 u) := by rw [HOk.out.cellAt k (by omega)]; exact hu
        have g3 : wr.frozen? ⟨w.heap.size, k, none⟩ = false := HOk.out.frozenAt k
        clear hu
        go_wp2
        go_roundw
        case rel =>
          refine ⟨k + 1, by omega, by go_num, ?_, ?_⟩
          · have := (HOk.out.stored k (.int .u8 y)).1
            rw [HY.out, half_set] at this
            rw [HY.out]
            exact this
          · exact HBk.out.setCell (Nat.le_refl _) _
        case measure => simp [intOf]; omega
      · obtain rfl : k = n := by omega
        go_wp2
        go_ret
        have hown := HOk.out
        rw [half_full l k R.out.1] at hown
        exact ⟨_, rfl, hown, HBk.out⟩

end Go.Proofs.Qxb6628736a
