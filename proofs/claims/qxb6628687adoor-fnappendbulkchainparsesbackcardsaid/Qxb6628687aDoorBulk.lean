/-
  SEAT b6628687aD. resp.AppendBulk (7): what comes back owns the old bytes and, behind them, one frame.
-/
import Derived.Test.Qxb6628687aDoorClone
import Derived.Test.Qxb6628687aDoorShelf
import Derived.Lib.AppendIntMem
import Derived.Lib.ItoaLen
import Derived.Lib.Hide
import Derived.Laws.AppendOwnNone
namespace Go.Proofs.Qxb6628687aDoor
open Go.RowKit

/-- One bulk frame. -/
def frame (v : List UInt8) : List UInt8 := 36 :: (Lib.itoa (v.length : Int) ++ (13 :: 10 :: (v ++ [13, 10])))

/-- The length of a frame. -/
theorem frame_length (v : List UInt8) : (frame v).length = 5 + (Lib.itoa (v.length : Int)).length + v.length := by simp [frame]; omega

/-- What a slice may be that is appended to: the call's own from B on; or one without spare room, B being the heap's size. -/
def App (B : Nat) (w : World) (v : Value) (n : Nat) (l : List UInt8) : Prop :=
  w.ownsRow B 5 1 v n (Lib.byteCells l) ∨ (∃ a, v = .slice a n n ∧ Rd B w a n n l ∧ B = w.heap.size)

theorem own_mono {B B' : Nat} {w : World} {v : Value} {n : Nat} {xs : List Value} (h : w.ownsRow B 5 1 v n xs) (hB : B' ≤ B) : w.ownsRow B' 5 1 v n xs := by
  obtain ⟨h1, h2 | ⟨g, cap, cur, hv, hb, r⟩⟩ := h
  · exact ⟨h1, .inl h2⟩
  · exact ⟨h1, .inr ⟨g, cap, cur, hv, by omega, r⟩⟩

theorem two_new (w : World) (x y : Value) (t : TypeId) : ∀ j u, [x, y][j]? = some u → (w.alloc (.cells #[x, y] t)).cell? ((⟨w.heap.size, 0, none⟩ : Addr).add j) = some u := by
  intro j u hj
  match j, hj with
  | 0, hj => simp at hj; subst hj; simp [Addr.add]
  | 1, hj => simp at hj; subst hj; simp [Addr.add]
  | j + 2, hj => simp at hj

theorem bytes_one (l : List UInt8) : ∀ u ∈ Lib.byteCells l, u.oneCell' = true := by
  intro u hu
  obtain ⟨_, _, rfl⟩ := List.mem_map.1 hu
  rfl

theorem bc_app (a b : List UInt8) : Lib.byteCells (a ++ b) = Lib.byteCells a ++ Lib.byteCells b := by simp [Lib.byteCells]

theorem rd_cells {B : Nat} {w : World} {x : Addr} {n c : Nat} {l : List UInt8} (h : Rd B w (some x) n c l) : ∀ j u, (Lib.byteCells l)[j]? = some u → w.cell? (x.add j) = some u := by
  intro j u hj
  have hl := h.1
  have hjl : j < l.length := by
    have := (List.getElem?_eq_some_iff.1 hj).1
    simpa [Lib.byteCells] using this
  obtain ⟨b, off, e, _, hc⟩ := h.2.2.2.2 j (by omega)
  obtain rfl := Option.some.inj e
  rw [Addr.add_lit, hc]
  simp [Lib.byteCells, hjl] at hj
  simp [hjl, hj]

/-- The first append: one byte onto whatever 'App' speaks of. -/
theorem wpList_app1 {ops : Array Oper} {rest : List Oper} {o : Oper} {a : Act} {Q : Exit → Act → World → Prop} (hgd : o.guard = none) (s x : Operand)
    (ho : o.op = .call { callee := .builtin .append, args := #[s, x], argTypes := #[22, 22] })
    (B : Nat) (w : World) (v : Value) (n : Nat) (l : List UInt8) (happ : App B w v n l) (hBw : B ≤ w.heap.size) (hn : n ≤ 4194304) (y : UInt8) (z : Int) (hzy : z = (y.toNat : Int))
    (hs : a.eval s = v) (hx : a.eval x = .slice (some ⟨w.heap.size, 0, none⟩) 1 1)
    (h : ∀ v' w', w'.ownsRow B 5 1 v' (n + 1) (Lib.byteCells (l ++ [y])) → Below B w w' → wpList Tryd.prog ops Q rest (a.put o.dst v') w') :
    wpList Tryd.prog ops Q (o :: rest) a (w.alloc (.cells #[.int .u8 z] 5)) := by
  obtain ⟨i0, hi, hz0, hz1, hz2⟩ := info_parts info5
  have e1 : Lib.byteCells l ++ [Value.int .u8 z] = Lib.byteCells (l ++ [y]) := by rw [bc_app, hzy]; rfl
  rcases happ with hown | ⟨ao, rfl, hrd, hB⟩
  · refine wpList_append_own _ hgd s x 22 ho B 5 i0 (.int .u8 0) 1 1 Tryd.underlying22 hi hz0 hz1 hz2 rfl (by decide) v n _ hs (hown.alloc _) ⟨w.heap.size, 0, none⟩ 1 1 [Value.int .u8 z] hx rfl (cell_one_new _ _ _) ?_ ?_ ?_ ?_ ?_
    · intro u' hu'; simp at hu'; subst hu'; rfl
    · unfold maxLen; omega
    · omega
    · simp; omega
    · intro v' w' hown' hg _
      rw [e1] at hown'
      refine h v' w' hown' ?_
      exact ((Below.refl _ _).alloc hBw _).grown hg (by simp; omega) (fun k hk => (hown.lt k hk).1)
  · have hl := hrd.1
    refine wpList_append_grows _ hgd s x 22 ho 5 i0 (.int .u8 0) 1 1 Tryd.underlying22 hi hz0 hz1 hz2 rfl (by decide) ao n n (Lib.byteCells l) hs ?_ ?_ ?_ ⟨w.heap.size, 0, none⟩ 1 1 [Value.int .u8 z] hx rfl (cell_one_new _ _ _) ?_ ?_ ?_ ?_ ?_
    · intro e
      have := hrd.2.2.2.1 e
      omega
    · simp [Lib.byteCells, hl]
    · intro b hb j u hj
      subst hb
      have hc := rd_cells hrd j u hj
      have hlt := World.block_lt_of_cell? _ _ hc
      rw [World.cell?_of_block (w := w) (Below.heap_alloc _ _ _ hlt)]
      exact hc
    · intro u' hu'; simp at hu'; subst hu'; rfl
    · omega
    · unfold maxLen; omega
    · omega
    · intro v' w' hown' hg
      rw [e1] at hown'
      refine h v' w' (own_mono hown' (by simp; omega)) ?_
      exact ((Below.refl _ _).alloc hBw _).grown hg (by simp; omega) (fun k hk => by cases hk)

/-- Later appends: two bytes. -/
theorem wpList_app2 {ops : Array Oper} {rest : List Oper} {o : Oper} {a : Act} {Q : Exit → Act → World → Prop} (hgd : o.guard = none) (s x : Operand)
    (ho : o.op = .call { callee := .builtin .append, args := #[s, x], argTypes := #[22, 22] })
    (B : Nat) (w : World) (v : Value) (n : Nat) (l : List UInt8) (hown : w.ownsRow B 5 1 v n (Lib.byteCells l)) (hBw : B ≤ w.heap.size) (hn : n ≤ 8388608)
    (hs : a.eval s = v) (hx : a.eval x = .slice (some ⟨w.heap.size, 0, none⟩) 2 2)
    (h : ∀ v' w', w'.ownsRow B 5 1 v' (n + 2) (Lib.byteCells (l ++ [13, 10])) → Below B w w' → wpList Tryd.prog ops Q rest (a.put o.dst v') w') :
    wpList Tryd.prog ops Q (o :: rest) a (w.alloc (.cells #[.int .u8 13, .int .u8 10] 5)) := by
  obtain ⟨i0, hi, hz0, hz1, hz2⟩ := info_parts info5
  have e1 : Lib.byteCells l ++ [Value.int .u8 13, Value.int .u8 10] = Lib.byteCells (l ++ [13, 10]) := by rw [bc_app]; rfl
  refine wpList_append_own _ hgd s x 22 ho B 5 i0 (.int .u8 0) 1 1 Tryd.underlying22 hi hz0 hz1 hz2 rfl (by decide) v n _ hs (hown.alloc _) ⟨w.heap.size, 0, none⟩ 2 2 [Value.int .u8 13, Value.int .u8 10] hx rfl (two_new _ _ _ _) ?_ ?_ ?_ ?_ ?_
  · intro u' hu'; simp at hu'; rcases hu' with rfl | rfl <;> rfl
  · unfold maxLen; omega
  · omega
  · simp; omega
  · intro v' w' hown' hg _
    rw [e1] at hown'
    refine h v' w' hown' ?_
    exact ((Below.refl _ _).alloc hBw _).grown hg (by simp; omega) (fun k hk => (hown.lt k hk).1)

/-- The append of the value. -/
theorem wpList_appv {ops : Array Oper} {rest : List Oper} {o : Oper} {a : Act} {Q : Exit → Act → World → Prop} (hgd : o.guard = none) (s x : Operand)
    (ho : o.op = .call { callee := .builtin .append, args := #[s, x], argTypes := #[22, 22] })
    (B : Nat) (w : World) (v : Value) (n : Nat) (l : List UInt8) (hown : w.ownsRow B 5 1 v n (Lib.byteCells l)) (hBw : B ≤ w.heap.size) (hn : n ≤ 8388608)
    (ao : Option Addr) (m c : Nat) (p : List UInt8) (hrd : Rd B w ao m c p) (hm : m ≤ 1048576)
    (hs : a.eval s = v) (hx : a.eval x = .slice ao m c)
    (h : ∀ v' w', w'.ownsRow B 5 1 v' (n + m) (Lib.byteCells (l ++ p)) → Below B w w' → wpList Tryd.prog ops Q rest (a.put o.dst v') w') :
    wpList Tryd.prog ops Q (o :: rest) a w := by
  obtain ⟨i0, hi, hz0, hz1, hz2⟩ := info_parts info5
  have hl := hrd.1
  cases ao with
  | none =>
    have hc0 := hrd.2.2.2.1 rfl
    have hmc := hrd.2.1
    obtain rfl : m = 0 := by omega
    subst hc0
    obtain rfl : p = [] := List.eq_nil_of_length_eq_zero hl
    refine wpList_append_own_none hgd s x 22 ho B 5 i0 1 Tryd.underlying22 hi v n _ hs hown hx ?_
    exact h v w (by simpa using hown) (Below.refl _ _)
  | some ad =>
    refine wpList_append_own _ hgd s x 22 ho B 5 i0 (.int .u8 0) 1 1 Tryd.underlying22 hi hz0 hz1 hz2 rfl (by decide) v n _ hs hown ad m c (Lib.byteCells p) hx (by simp [Lib.byteCells, hl]) (rd_cells hrd) (bytes_one p) ?_ ?_ hBw ?_
    · unfold maxLen; omega
    · omega
    · intro v' w' hown' hg _
      rw [← bc_app] at hown'
      exact h v' w' hown' ((Below.refl _ _).grown hg hBw (fun k hk => (hown.lt k hk).1))

set_option maxHeartbeats 1600000 in
theorem bulk_any (B : Nat) (sv : Value) (n : Nat) (l : List UInt8) (va : Option Addr) (m c : Nat) (v : List UInt8) (w : World)
    (happ : App B w sv n l) (hv : Rd B w va m c v) (hBw : B ≤ w.heap.size) (hn : n ≤ 4194304) (hm : m ≤ 1048576)
    (htab : Lib.TabBelow Tryd.prog B w Tryd.tabName .u64 Lib.pow10Tab) :
    Calls Tryd.prog 7 #[sv, .slice va m c] w fun e w' => ∃ v', e = .returned v' ∧ w'.ownsRow B 5 1 v' (n + (frame v).length) (Lib.byteCells (l ++ frame v)) ∧ Below B w w' := by
  have HV : Hid (Rd B w va m c v) := hv
  have HF : Hid ((frame v).length = 5 + (Lib.itoa (m : Int)).length + m) := by have := hv.1; subst this; exact frame_length v
  clear hv
  have HT : Hid (Lib.TabBelow Tryd.prog B w Tryd.tabName .u64 Lib.pow10Tab) := htab
  clear htab
  have hil := Lib.itoa_length_le (m : Int) (by omega) (by omega)
  have HA : Hid (App B w sv n l) := happ
  clear happ
  go_enter Tryd.func7, Tryd.ntmps7
  go_wp2_with (at_builtin; refine wpList_app1 rfl _ _ rfl B w sv n l HA.out hBw hn 36 36 rfl rfl rfl ?_)
  intro v1 w1 hown1 hb1
  have HO1 : Hid (w1.ownsRow B 5 1 v1 (n + 1) (Lib.byteCells (l ++ [36]))) := hown1
  have HB1 : Hid (Below B w w1) := hb1
  have hs1 : B ≤ w1.heap.size := by have := hb1.size; omega
  clear hown1 hb1
  go_wp2_with (go_at_call 12; refine (Tryd.strconv_AppendInt_10 B (n + 1) (m : Int) (by omega) (by omega) v1 _ w1 HO1.out hs1 (by omega) (HT.out.on HB1.out)).mono ?_; rintro e w2 ⟨v2, rfl, hown2, hb2, -⟩; refine Hid.out ?_)
  refine Lib.hid ?_
  have HO2 : Hid (w2.ownsRow B 5 1 v2 (n + 1 + (Lib.itoa (m : Int)).length) (Lib.byteCells (l ++ 36 :: Lib.itoa (m : Int)))) := by
    have := hown2
    rw [← bc_app] at this
    simpa [Hid] using this
  have HB2 : Hid (Below B w w2) := HB1.out.trans hb2
  have hs2 : B ≤ w2.heap.size := by have := hb2.size; omega
  clear hown2 hb2
  go_wp2_with (at_builtin; refine wpList_app2 rfl _ _ rfl B w2 v2 _ _ HO2.out hs2 (by omega) rfl rfl ?_)
  intro v3 w3 hown3 hb3
  have HO3 : Hid (w3.ownsRow B 5 1 v3 (n + 1 + (Lib.itoa (m : Int)).length + 2) (Lib.byteCells (l ++ 36 :: (Lib.itoa (m : Int) ++ [13, 10])))) := by simpa [Hid] using hown3
  have HB3 : Hid (Below B w w3) := HB2.out.trans hb3
  have hs3 : B ≤ w3.heap.size := by have := hb3.size; omega
  clear hown3 hb3
  go_wp2_with (at_builtin; refine wpList_appv rfl _ _ rfl B w3 v3 _ _ HO3.out hs3 (by omega) va m c v (HV.out.below HB3.out) hm rfl rfl ?_)
  intro v4 w4 hown4 hb4
  have HO4 : Hid (w4.ownsRow B 5 1 v4 (n + 1 + (Lib.itoa (m : Int)).length + 2 + m) (Lib.byteCells (l ++ 36 :: (Lib.itoa (m : Int) ++ 13 :: 10 :: v)))) := by simpa [Hid] using hown4
  have HB4 : Hid (Below B w w4) := HB3.out.trans hb4
  have hs4 : B ≤ w4.heap.size := by have := hb4.size; omega
  clear hown4 hb4
  go_wp2_with (at_builtin; refine wpList_app2 rfl _ _ rfl B w4 v4 _ _ HO4.out hs4 (by omega) rfl rfl ?_)
  intro v5 w5 hown5 hb5
  have HB5 : Hid (Below B w w5) := HB4.out.trans hb5
  have HO5 : Hid (w5.ownsRow B 5 1 v5 (n + (frame v).length) (Lib.byteCells (l ++ frame v))) := by
    have e1 : l ++ 36 :: (Lib.itoa (m : Int) ++ 13 :: 10 :: (v ++ [13, 10])) = l ++ frame v := by
      have := HV.out.1
      subst this
      simp [frame]
    rw [e1] at hown5
    have e2 : n + 1 + (Lib.itoa (m : Int)).length + 2 + m + 2 = n + (frame v).length := by rw [HF.out]; omega
    rw [e2] at hown5
    exact hown5
  clear hown5 hb5
  go_wp2
  go_ret
  exact ⟨v5, rfl, HO5.out, HB5.out⟩

end Go.Proofs.Qxb6628687aDoor
