/-
  SEAT b6628763a. zzBuild (7): a set in memory that holds just the given paths' rests.
-/
import Derived.Test.Qxb6628763aAll
import Derived.Deep.RegionWith
import Derived.Deep.CutRange
namespace Go.Proofs.Qxb6628763a
open Go.RowKit Go.Maps Go.WideMaps

theorem run_makeMapHint (n : Int) (w : World) : (Instr.makeMap 34 (some (.int .i64 n))).run Try.prog w = .ok (.map (some w.heap.size)) (w.alloc (.map #[] 0)) := by
  simp [Instr.makeMap, run_underlying Try.underlying34, asInt, asIntOf, Result.andThen]

theorem Grp.alloc {B : Nat} {w : World} {v : Value} {gs : List (List Nat)} {vals : List Value} (h : Grp B w v gs vals) (o : Obj) : Grp B (w.alloc o) v gs vals :=
  ⟨h.1.alloc o, fun t ht => (h.2.1 t ht).alloc o, h.2.2⟩

theorem own_slice {w : World} {B e : Nat} {v : Value} {n : Nat} {xs : List Value} (h : w.ownsRow B e 1 v n xs) : ∃ a c, v = .slice a n c := by
  rcases h.2 with ⟨rfl, rfl⟩ | ⟨g, cap, cur, rfl, _⟩
  · exact ⟨_, _, rfl⟩
  · exact ⟨_, _, rfl⟩

theorem own_cell0 {w : World} {B e : Nat} {v : Value} {n : Nat} {xs : List Value} (h : w.ownsRow B e 1 v n xs) (i : Nat) (hi : i < n) :
    ∃ g c, v = .slice (some ⟨g, 0, none⟩) n c ∧ g < w.heap.size ∧ w.cell? ⟨g, i, none⟩ = some (xs.getD i undef) ∧ w.frozen? ⟨g, i, none⟩ = false := by
  obtain ⟨g, c, rfl, h1, h2, h3⟩ := own_cell h i hi
  rw [Nat.zero_add] at h2 h3
  have hx := h.1
  refine ⟨g, c, rfl, h1, ?_, h3⟩
  rw [h2]
  simp [show i < xs.length by omega]

theorem drop_nil_iff {l : Path} {d : Nat} (hd : d ≤ l.length) : l.drop d = [] ↔ l.length = d := by
  rw [List.drop_eq_nil_iff]; omega

theorem drop_at {l : Path} {d : Nat} (hd : d < l.length) : l.drop d = l.getD d ByteArray.empty :: l.drop (d + 1) := by
  rw [List.drop_eq_getElem_cons hd]
  simp [hd]

/-- What the walk leaves where an index is laid into its group. -/
theorem put_end {B : Nat} {w0 w w1 : World} {g n c : Nat} {gs : List (List Nat)} {vals : List Value} (h : Grp B w (.slice (some ⟨g, 0, none⟩) n c) gs vals) (hn : n = gs.length) (j : Nat) (hj : j < gs.length) (i : Nat) (o : Obj) (v1 : Value) (hg : (w.alloc o).grownBy w1 (vals.getD j undef).ownBlock)
    (hown : w1.ownsRow B 3 1 v1 ((gs.getD j []).length + 1) ((gs.getD j []).map ival ++ [ival i])) (hat : v1.ownBlock = (vals.getD j undef).ownBlock ∨ v1.ownBlock = some (w.alloc o).heap.size)
    (hb : Below B w0 w) (hB : B ≤ w.heap.size) (hB0 : B = w0.heap.size) {v8 : Value} {ks : Path} (hk : w.ownsRow B 9 1 v8 ks.length (ks.map Value.string)) :
    Grp B (w1.setCell ⟨g, j, none⟩ v1) (.slice (some ⟨g, 0, none⟩) n c) (gs.set j (gs.getD j [] ++ [i])) (vals.set j v1) ∧ Below B w0 (w1.setCell ⟨g, j, none⟩ v1) ∧ (w1.setCell ⟨g, j, none⟩ v1).ownsRow B 9 1 v8 ks.length (ks.map Value.string) := by
  obtain ⟨q1, q2, q3⟩ := h.put hn j hj i (World.grownBy_alloc w o none) v1 hg hown hat
  have hA := h.alloc o
  have hB1 : Below B w0 w1 := (hb.alloc hB o).grown hg (by simp; omega) (fun k hk => ((hA.2.1 j hj).lt k hk).1)
  refine ⟨q1, hB1.grown q2 (Nat.le_trans hB (Nat.le_trans (by simp) hg.size)) (fun k hk => ?_), ?_⟩
  · cases hk
    exact (h.1.lt g rfl).1
  · have k1 := (hk.alloc o).kept hg (own_apart (hk.alloc o) (hA.2.1 j hj) (by decide))
    exact k1.kept q2 (by have := own_apart k1 q3 (by decide); simpa [Value.ownBlock] using this)

set_option maxRecDepth 100000 in
set_option maxHeartbeats 12800000 in
theorem build_any (a0 : Option Addr) (n0 c0 : Nat) (L : List Path) (hfit : Fits L) (hsh : Short n0 L) : ∀ (h : Nat) (a1 : Option Addr) (n1 c1 : Nat) (idx : List Nat) (d : Nat) (w : World), RdP w.heap.size w a0 n0 c0 L → RdI w.heap.size w a1 n1 c1 idx →
    (∀ i ∈ idx, i < n0 ∧ d ≤ (L.getD i []).length ∧ (L.getD i []).length ≤ d + h) → n1 ≤ 43690 → d ≤ 65536 →
    Calls Try.prog 7 #[.slice a0 n0 c0, .slice a1 n1 c1, .int .i64 (d : Int)] w fun e w' => ∃ b, e = .returned (.pointer (some ⟨b, 0, none⟩)) ∧ Below w.heap.size w w' ∧ Rep (h + 1) w' b w.heap.size w'.heap.size (fun p => ∃ i ∈ idx, (L.getD i []).drop d = p) := by
  intro h
  induction h using Nat.strongRecOn with
  | _ h ih =>
  intro a1 n1 c1 idx d w r0 r1 hidx hn1 hd
  have IH := Lib.hid ih
  have R0 := Lib.hid r0
  have R1 := Lib.hid r1
  have HI := Lib.hid hidx
  have HF := Lib.hid hfit
  have HSH := Lib.hid hsh
  have hn0 : n0 ≤ 43690 := hsh.1
  have HL1 : Hid (idx.length = n1) := r1.1
  clear ih r0 r1 hidx hfit hsh
  obtain ⟨i9, hi9, hz9, hz91, hz92⟩ := info_parts info9
  obtain ⟨i3, hi3, hz3, hz31, hz32⟩ := info_parts info3
  obtain ⟨i26, hi26, hz26, hz261, hz262⟩ := info_parts info26
  go_enter Try.func7, Try.ntmps7
  go_wp2_with fail
  go_loopw [7, 8, 9, 10] (fun s v8 v9 i wr => ∃ (j : Nat) (sf : Bool) (ks : Path) (gs : List (List Nat)) (vals : List Value), j ≤ n1 ∧ i = .int .i64 j ∧ s = .bool sf ∧ Hid (GInv L idx d j sf ks gs) ∧ Hid (wr.ownsRow w.heap.size 9 1 v8 ks.length (ks.map Value.string)) ∧ Hid (Grp w.heap.size wr v9 gs vals) ∧ Hid (Below w.heap.size w wr)) (fun _ _ _ i _ => n1 - (intOf i).toNat)
  case atStart => exact ⟨0, false, [], [], [], Nat.zero_le _, rfl, rfl, ginv_zero _ _ _, World.ownsRow_nil _ _ _ _, grp_nil _ _, Below.refl _ _⟩
  case round =>
    obtain ⟨j, sf, ks, gs, vals, hj, rfl, rfl, HG, HK, HGR, HB⟩ := hrel
    by_cases hlt : j < n1
    · obtain ⟨b1, o1, rfl, hb1, hc1⟩ := R1.out.at (by omega)
      have g1' := hc1 j hlt
      have hjl : j < idx.length := by rw [HL1.out]; exact hlt
      obtain ⟨i, hi⟩ : ∃ i, i = idx.getD j 0 := ⟨_, rfl⟩
      rw [← hi] at g1'
      have hmem : i ∈ idx := by
        have e : idx.getD j 0 = idx[j] := by simp [hjl]
        rw [hi, e]; exact List.getElem_mem _
      obtain ⟨hin, hdl, hdh⟩ := HI.out i hmem
      obtain ⟨b0, o0, rfl, hb0, hc0⟩ := R0.out.at (by omega)
      obtain ⟨ai, ni, ci, g0', hri⟩ := hc0 i hin
      have g1 : wr.cell? ⟨b1, o1 + j, none⟩ = some (.int .i64 (i : Int)) := by rw [HB.out.cell (p := ⟨b1, o1 + j, none⟩) hb1]; exact g1'
      have g0 : wr.cell? ⟨b0, o0 + i, none⟩ = some (.slice ai ni ci) := by rw [HB.out.cell (p := ⟨b0, o0 + i, none⟩) hb0]; exact g0'
      have RI : Hid (RdS w.heap.size wr ai ni ci (L.getD i [])) := hri.below HB.out
      have HNI : Hid ((L.getD i []).length = ni) := hri.1
      have hni : ni ≤ 65536 := by have := HSH.out.2 i hin; rw [hri.1] at this; exact this
      have hdn : d ≤ ni := by rw [hri.1] at hdl; exact hdl
      have HJ := Lib.hid hjl
      have HII := Lib.hid hi.symm
      have HMI := Lib.hid hmem
      clear hc1 hc0 g1' g0' hri hjl hi hmem hdl hdh
      have i1 : (j : Int) < (n1 : Int) := by omega
      have i0 : (i : Int) < (n0 : Int) := by omega
      have hsz : w.heap.size ≤ wr.heap.size := HB.out.size
      by_cases hend : ni = d
      · subst hend
        have HG2 : Hid (GInv L idx ni (j + 1) true ks gs) := HG.out.hit HJ.out HII.out ((drop_nil_iff (by have := HNI.out; omega)).2 HNI.out)
        go_wp2_with fail
        go_roundw
        case rel => exact ⟨j + 1, true, ks, gs, vals, by omega, by go_num, rfl, HG2, HK, HGR, HB⟩
        case measure => simp [intOf]; omega
      · have hne : ((ni : Int) == (d : Int)) = false := beq_eq_false_iff_ne.2 (by omega)
        have hdlt : d < ni := by omega
        have idd : (d : Int) < (ni : Int) := by omega
        obtain ⟨bi, oi, rfl, hbi, hci⟩ := RI.out.at (by omega)
        have g2 := hci d hdlt
        have hdrop := drop_at (l := L.getD i []) (d := d) (by have := HNI.out; omega)
        obtain ⟨x, hx⟩ : ∃ x : ByteArray, x = (L.getD i []).getD d ByteArray.empty := ⟨_, rfl⟩
        rw [← hx] at g2 hdrop
        have HDR := Lib.hid hdrop
        obtain ⟨a8, c8, rfl, hr8⟩ := rds_of_own HK.out
        have R8 := Lib.hid hr8
        have hkl : ks.length ≤ j := HG.out.kle
        clear hci hdrop hx hend hr8
        go_wp2_with fail
        go_loop [14, 15] (fun at' t => ∃ u : Nat, u ≤ ks.length ∧ at' = .int .i64 (-1) ∧ t = .int .i64 u ∧ Hid (∀ z, z < u → ks.getD z ByteArray.empty ≠ x)) (fun _ t => ks.length - (intOf t).toNat)
        case atStart => exact ⟨0, Nat.zero_le _, rfl, rfl, fun z hz => by omega⟩
        case round =>
          obtain ⟨u, hu, rfl, rfl, HNO⟩ := hrel
          by_cases hul : u < ks.length
          · obtain ⟨b8, o8, rfl, hb8, hc8⟩ := R8.out.at (by omega)
            have g8 := hc8 u hul
            obtain ⟨y, hy⟩ : ∃ y : ByteArray, y = ks.getD u ByteArray.empty := ⟨_, rfl⟩
            rw [← hy] at g8
            have HY := Lib.hid hy
            clear hc8 hy
            have iu : (u : Int) < (ks.length : Int) := by omega
            by_cases hxy : y = x
            · have hb : (y.toList == x.toList) = true := by rw [str_eq]; exact decide_eq_true hxy
              have HXY := Lib.hid hxy
              clear hxy
              -- the key is there
              have hug : u < gs.length := by rw [HG.out.len]; exact hul
              obtain ⟨g9, c9, rfl, hg9, hcell9, hfr9⟩ := own_cell0 HGR.out.1 u hug
              obtain ⟨ag, cg, hag⟩ := own_slice (HGR.out.2.1 u hug)
              rw [hag] at hcell9
              have iug : (u : Int) < (gs.length : Int) := by omega
              have hgl : (gs.getD u []).length ≤ j := HG.out.gle u hul
              have HAG := Lib.hid hag
              have HOG : Hid (wr.ownsRow w.heap.size 3 1 (.slice ag (gs.getD u []).length cg) (gs.getD u []).length ((gs.getD u []).map ival)) := by
                have := HGR.out.2.1 u hug
                rw [hag] at this
                exact this
              obtain ⟨gu, hgu⟩ : ∃ gu, gu = gs.getD u [] := ⟨_, rfl⟩
              rw [← hgu] at hcell9 hgl HOG HAG
              have HGU := Lib.hid hgu
              obtain ⟨lg, hlg⟩ : ∃ lg, lg = gu.length := ⟨_, rfl⟩
              rw [← hlg] at hcell9 hgl HOG HAG
              have HLG := Lib.hid hlg
              have HUG := Lib.hid hug
              have HG2 : Hid (GInv L idx d (j + 1) sf ks (gs.set u (gs.getD u [] ++ [i]))) := HG.out.old HJ.out HII.out HDR.out u hul (by rw [← HY.out]; exact HXY.out)
              clear hag hlg hgu
              go_wp2_with (at_builtin; refine wpList_append_own_at _ rfl _ _ 26 rfl w.heap.size 3 i3 (.int .i64 0) 1 8 Try.underlying26 hi3 hz3 hz31 hz32 rfl (by decide) _ _ _ rfl (HOG.out.alloc _) ⟨wr.heap.size, 0, none⟩ 1 1 [ival i] rfl rfl (cell_one_new _ _ _) (by intro u' hu'; simp at hu'; subst hu'; rfl) (by unfold maxLen; omega) (by omega) (by simp; omega) ?_)
              intro v1 w1 hown1 hg1 _ hat1
              obtain ⟨av1, cv1, rfl⟩ := own_slice hown1
              have hown1' : w1.ownsRow w.heap.size 3 1 (.slice av1 (lg + 1) cv1) ((gs.getD u []).length + 1) ((gs.getD u []).map ival ++ [ival i]) := by rw [← HGU.out, ← HLG.out]; exact hown1
              have hg1' : (wr.alloc (.cells #[ival i] 3)).grownBy w1 (vals.getD u undef).ownBlock := by rw [HAG.out]; exact hg1
              have hat1' : Value.ownBlock (.slice av1 (lg + 1) cv1) = (vals.getD u undef).ownBlock ∨ Value.ownBlock (.slice av1 (lg + 1) cv1) = some (wr.alloc (.cells #[ival i] 3)).heap.size := by rw [HAG.out, show (wr.alloc (.cells #[ival i] 3)).heap.size = wr.heap.size + 1 by simp]; exact hat1
              have HPUT := Lib.hid (put_end HGR.out rfl u HUG.out i _ _ hg1' hown1' hat1' HB.out hsz rfl HK.out)
              obtain ⟨_, _, q3⟩ := HGR.out.put rfl u HUG.out i (World.grownBy_alloc wr (.cells #[ival i] 3) none) _ hg1' hown1' hat1'
              obtain ⟨g9', c9', e9, _, hcw, hfw⟩ := own_cell0 q3 u HUG.out
              simp only [Value.slice.injEq, Option.some.injEq, Addr.mk.injEq] at e9
              obtain ⟨⟨rfl, _, _⟩, _, _⟩ := e9
              clear hown1 hg1 hat1 hown1' hg1' hat1' q3 hcell9 hfr9
              go_wp2_with fail
              go_roundw
              case rel => exact ⟨j + 1, sf, ks, gs.set u (gs.getD u [] ++ [i]), _, by omega, by go_num, rfl, HG2, HPUT.out.2.2, HPUT.out.1, HPUT.out.2.1⟩
              case measure => simp [intOf]; omega
            · have hb : (y.toList == x.toList) = false := by rw [str_eq]; exact decide_eq_false hxy
              have HXY := Lib.hid hxy
              clear hxy
              go_wp2_with fail
              go_round
              case rel =>
                refine ⟨u + 1, by omega, rfl, by go_num, fun z hz => ?_⟩
                rcases Nat.lt_or_ge z u with h1 | h1
                · exact HNO.out z h1
                · obtain rfl : z = u := by omega
                  rw [← HY.out]; exact HXY.out
              case measure => simp [intOf]; omega
          · have hun : u = ks.length := by omega
            have HXN : Hid (x ∉ ks) := by
              intro hm
              obtain ⟨z, hz, e⟩ := List.getElem_of_mem hm
              exact HNO.out z (by omega) (by simp [hz, e])
            clear hun
            go_wp2_with (at_builtin; refine wpList_append_own _ rfl _ _ 30 rfl w.heap.size 9 i9 (.string ByteArray.empty) 1 16 Try.underlying30 hi9 hz9 hz91 hz92 rfl (by decide) _ _ _ rfl (HK.out.alloc _) ⟨wr.heap.size, 0, none⟩ 1 1 [Value.string x] rfl rfl (cell_one_new _ _ _) (by intro u' hu'; simp at hu'; subst hu'; rfl) (by unfold maxLen; omega) (by omega) (by simp; omega) ?_)
            intro v8 w2 hown2 hg2 _
            obtain ⟨a8', c8', rfl⟩ := own_slice hown2
            have HGR2 : Hid (Grp w.heap.size w2 _ gs vals) := (HGR.out.alloc _).other (HK.out.alloc _) (by decide) (by decide) hg2
            have HK2 : Hid (w2.ownsRow w.heap.size 9 1 (.slice a8' (ks.length + 1) c8') (ks ++ [x]).length ((ks ++ [x]).map Value.string)) := by
              show World.ownsRow _ _ _ _ _ _ _
              rw [List.length_append, List.map_append]; exact hown2
            have HB2 : Hid (Below w.heap.size w w2) := (HB.out.alloc hsz _).grown hg2 (by simp; omega) (fun k hk => (HK.out.lt k hk).1)
            have hsz2 : w.heap.size ≤ w2.heap.size := HB2.out.size
            have hgll : gs.length = ks.length := HG.out.len
            have HGLL := Lib.hid hgll
            have hgb : gs.length ≤ j := by omega
            obtain ⟨a9, c9, hv9⟩ := own_slice HGR2.out.1
            clear hown2 hg2 hgll
            subst hv9
            go_wp2_with (at_builtin; refine wpList_append_own _ rfl _ _ 37 rfl w.heap.size 26 i26 (.slice none 0 0) 1 24 Try.underlying37 hi26 hz26 hz261 hz262 rfl (by decide) _ _ _ rfl (HGR2.out.1.alloc _) ⟨w2.heap.size, 0, none⟩ 1 1 [Value.slice none 0 0] rfl rfl (cell_one_new _ _ _) (by intro u' hu'; simp at hu'; subst hu'; rfl) (by unfold maxLen; omega) (by omega) (by simp; omega) ?_)
            intro v9 w3 hown3 hg3 _
            have HGR3 : Hid (Grp w.heap.size w3 v9 (gs ++ [[]]) (vals ++ [.slice none 0 0])) := (HGR2.out.alloc _).push hg3 hown3
            have HK3 := Lib.hid ((HK2.out.alloc (.cells #[Value.slice none 0 0] 26)).kept hg3 (own_apart (HK2.out.alloc (.cells #[Value.slice none 0 0] 26)) (HGR2.out.1.alloc (.cells #[Value.slice none 0 0] 26)) (by decide)))
            have HB3 : Hid (Below w.heap.size w w3) := (HB2.out.alloc hsz2 _).grown hg3 (by simp; omega) (fun k hk => (HGR2.out.1.lt k hk).1)
            have hsz3 : w.heap.size ≤ w3.heap.size := HB3.out.size
            have hun : ks.length < (gs ++ [[]]).length := by have := HGLL.out; simp; omega
            obtain ⟨g9, c9', rfl, hg9, hcell9, hfr9⟩ := own_cell0 HGR3.out.1 ks.length hun
            have hval : (vals ++ [Value.slice none 0 0]).getD ks.length undef = .slice none 0 0 := by
              rw [← HGLL.out, ← HGR2.out.len]; simp
            have hgrp : (gs ++ [[]]).getD ks.length [] = [] := by
              rw [← HGLL.out]; simp
            rw [hval] at hcell9
            have hgl2 : (gs ++ [[]]).length = gs.length + 1 := by simp
            have HG2 : Hid (GInv L idx d (j + 1) sf (ks ++ [x]) ((gs ++ [[]]).set ks.length ((gs ++ [[]]).getD ks.length [] ++ [i]))) := HG.out.new HJ.out HII.out HDR.out HXN.out
            have HVAL := Lib.hid hval
            have HGRP := Lib.hid hgrp
            have HUN := Lib.hid hun
            have iug : (ks.length : Int) < ((gs ++ [[]]).length : Int) := by omega
            have HGL2 := Lib.hid hgl2
            obtain ⟨ng, hng⟩ : ∃ ng, ng = (gs ++ [[]]).length := ⟨_, rfl⟩
            have HNG := Lib.hid hng
            rw [← hng] at iug hgl2 HGR3 ⊢
            clear hown3 hg3 hval hgrp hun hng
            have ha : ((ks.length + 1 : Nat) : Int) - 1 = (ks.length : Int) := by omega
            go_wp2_with (at_builtin; refine wpList_append_own_at _ rfl _ _ 26 rfl w.heap.size 3 i3 (.int .i64 0) 1 8 Try.underlying26 hi3 hz3 hz31 hz32 rfl (by decide) _ _ _ rfl (World.ownsRow_nil _ _ _ _) ⟨w3.heap.size, 0, none⟩ 1 1 [ival i] rfl rfl (cell_one_new _ _ _) (by intro u' hu'; simp at hu'; subst hu'; rfl) (by unfold maxLen; omega) (by omega) (by simp; omega) ?_)
            intro v1 w1 hown1 hg1 _ hat1
            obtain ⟨nv, hnv⟩ : ∃ nv : Nat, nv = 1 := ⟨_, rfl⟩
            have hown1' : w1.ownsRow w.heap.size 3 1 v1 (((gs ++ [[]]).getD ks.length []).length + 1) (((gs ++ [[]]).getD ks.length []).map ival ++ [ival i]) := by rw [HGRP.out]; simpa using hown1
            have hg1' : (w3.alloc (.cells #[ival i] 3)).grownBy w1 ((vals ++ [Value.slice none 0 0]).getD ks.length undef).ownBlock := by rw [HVAL.out]; exact hg1
            have hat1' : v1.ownBlock = ((vals ++ [Value.slice none 0 0]).getD ks.length undef).ownBlock ∨ v1.ownBlock = some (w3.alloc (.cells #[ival i] 3)).heap.size := by rw [HVAL.out, show (w3.alloc (.cells #[ival i] 3)).heap.size = w3.heap.size + 1 by simp]; exact hat1
            have HPUT := Lib.hid (put_end HGR3.out HNG.out ks.length HUN.out i _ _ hg1' hown1' hat1' HB3.out hsz3 rfl HK3.out)
            obtain ⟨_, _, q3⟩ := HGR3.out.put HNG.out ks.length HUN.out i (World.grownBy_alloc w3 (.cells #[ival i] 3) none) _ hg1' hown1' hat1'
            obtain ⟨g9', c9'', e9, _, hcw, hfw⟩ := own_cell0 q3 ks.length (by have := HUN.out; have := HNG.out; omega)
            simp only [Value.slice.injEq, Option.some.injEq, Addr.mk.injEq] at e9
            obtain ⟨⟨rfl, _, _⟩, _, _⟩ := e9
            obtain ⟨av1, cv1, rfl⟩ := own_slice hown1
            clear hown1 hg1 hat1 hown1' hg1' hat1' q3 hcell9 hfr9 hnv
            go_wp2_with fail
            go_roundw
            case rel => exact ⟨j + 1, sf, ks ++ [x], _, _, by omega, by go_num, rfl, HG2, HPUT.out.2.2, (by have q := HPUT.out.1; rw [show ng = gs.length + 1 from hgl2] at q; exact q), HPUT.out.2.1⟩
            case measure => simp [intOf]; omega
    · have hjn : j = n1 := by omega
      subst hjn
      obtain ⟨wm, hwm⟩ : ∃ x, x = wr := ⟨_, rfl⟩
      subst hwm
      have HGE : Hid (GInv L idx d idx.length sf ks gs) := by rw [HL1.out]; exact HG.out
      have hkl : ks.length ≤ j := HG.out.kle
      have hszr : w.heap.size ≤ wm.heap.size := HB.out.size
      obtain ⟨a8, c8, rfl, hr8⟩ := rds_of_own HK.out
      have R8 := Lib.hid hr8
      clear hr8
      cases ks with
      | nil =>
        go_wp2_with (go_at_call 16; refine (newSet_any sf none wm).mono ?_; rintro e w7 ⟨rfl, rfl⟩)
        go_ret
        exact ⟨_, rfl, HB.out.alloc hszr _, rep_leaf HGE.out hszr rfl⟩
      | cons k0 kt =>
        obtain ⟨ks, hks⟩ : ∃ ks, ks = k0 :: kt := ⟨_, rfl⟩
        have hkl0 : 0 < ks.length := by rw [hks]; simp
        rw [← hks] at HGE HG R8 HK hkl ⊢
        clear hks
        have hmm := run_makeMapHint
        obtain ⟨b8, o8, rfl, hb8, hc8⟩ := R8.out.at hkl0
        have HC8 := Lib.hid hc8
        obtain ⟨g9, c9, rfl, hg9, _, _⟩ := own_cell0 HGR.out.1 0 (by rw [HG.out.len]; exact hkl0)
        have HC9 : Hid (∀ t, t < ks.length → ∃ ag ng cg, wm.cell? ⟨g9, t, none⟩ = some (.slice ag ng cg) ∧ RdI wm.heap.size wm ag ng cg (gs.getD t [])) := by
          intro t ht
          have htg : t < gs.length := by rw [HG.out.len]; exact ht
          obtain ⟨g', c', e, _, hc, _⟩ := own_cell0 HGR.out.1 t htg
          simp only [Value.slice.injEq, Option.some.injEq, Addr.mk.injEq] at e
          obtain ⟨⟨rfl, _, _⟩, _, _⟩ := e
          obtain ⟨ag, cg, e2, hr⟩ := rdi_of_own (HGR.out.2.1 t htg)
          rw [e2] at hc
          exact ⟨ag, _, cg, hc, hr⟩
        have hgl : gs.length = ks.length := HG.out.len
        have HGL := Lib.hid hgl
        obtain ⟨h', hh', hd1⟩ : ∃ h', h = h' + 1 ∧ d + 1 ≤ 65536 := by
          obtain ⟨i, hi⟩ := List.exists_mem_of_ne_nil _ (HGE.out.ne 0 hkl0)
          obtain ⟨h1, p, h2⟩ := (HGE.out.mem 0 hkl0 i).1 hi
          rw [List.take_length] at h1
          obtain ⟨h3, h4, h5⟩ := HI.out i h1
          have h6 : d < (L.getD i []).length := by
            rcases Nat.lt_or_ge d (L.getD i []).length with h | h
            · exact h
            · rw [List.drop_eq_nil_of_le h] at h2; cases h2
          have h7 := HSH.out.2 i h3
          exact ⟨h - 1, by omega, by omega⟩
        have HH' := Lib.hid hh'
        clear hc8 hgl hh'
        go_wp2_with fail
        go_loopw [17] (fun i wx => ∃ (t : Nat) (D : DataW Unit) (f : Key → Option Nat) (LO HI : Key → Nat), t ≤ ks.length ∧ i = .int .i64 t ∧ Hid (Kids h wx wm.heap.size L gs ks d t D f LO HI) ∧ Hid (Below wm.heap.size wm wx)) (fun i _ => ks.length - (intOf i).toNat)
        case atStart => exact ⟨0, _, _, _, _, Nat.zero_le _, rfl, kids_zero _ _ _ _ _ _, (Below.refl _ _).alloc (Nat.le_refl _) _⟩
        case round =>
          obtain ⟨t, D, f, LO, HI', ht, rfl, HKI, HBX⟩ := hrel
          have hszx : wm.heap.size ≤ wr.heap.size := HBX.out.size
          by_cases htl : t < ks.length
          · have g8' := HC8.out t htl
            have g8 : wr.cell? ⟨b8, o8 + t, none⟩ = some (.string (ks.getD t ByteArray.empty)) := by rw [HBX.out.cell (p := ⟨b8, o8 + t, none⟩) hb8]; exact g8'
            obtain ⟨ag, ng, cg, hcg, hrg⟩ := HC9.out t htl
            have g9c : wr.cell? ⟨g9, t, none⟩ = some (.slice ag ng cg) := by rw [HBX.out.cell (p := ⟨g9, t, none⟩) hg9]; exact hcg
            obtain ⟨x, hx⟩ : ∃ x : ByteArray, x = ks.getD t ByteArray.empty := ⟨_, rfl⟩
            rw [← hx] at g8
            have HX := Lib.hid hx.symm
            have it : (t : Int) < (ks.length : Int) := by omega
            have it9 : (t : Int) < (gs.length : Int) := by have := HGL.out; omega
            obtain ⟨gt, hgt⟩ : ∃ gt, gt = gs.getD t [] := ⟨_, rfl⟩
            rw [← hgt] at hrg
            have HGT := Lib.hid hgt
            have RG : Hid (RdI wr.heap.size wr ag ng cg gt) := (hrg.below HBX.out).mono hszx
            have RP : Hid (RdP wr.heap.size wr a0 n0 c0 L) := (R0.out.below (HB.out.trans (HBX.out.mono hszr))).mono (Nat.le_trans hszr hszx)
            have hgn : ng ≤ 43690 := by
              have h1 := HGE.out.gle t htl
              rw [← hgt, hrg.1, HL1.out] at h1
              omega
            have HIDX : Hid (∀ i ∈ gt, i < n0 ∧ d + 1 ≤ (L.getD i []).length ∧ (L.getD i []).length ≤ (d + 1) + h') := by
              intro i hi
              rw [HGT.out] at hi
              obtain ⟨h1, p, h2⟩ := (HGE.out.mem t htl i).1 hi
              rw [List.take_length] at h1
              obtain ⟨h3, h4, h5⟩ := HI.out i h1
              have h6 : d < (L.getD i []).length := by
                rcases Nat.lt_or_ge d (L.getD i []).length with h | h
                · exact h
                · rw [List.drop_eq_nil_of_le h] at h2; cases h2
              have := HH'.out
              exact ⟨h3, by omega, by omega⟩
            have hxs : x.size ≤ maxLen := by
              obtain ⟨i, hi⟩ := List.exists_mem_of_ne_nil _ (HGE.out.ne t htl)
              obtain ⟨h1, p, h2⟩ := (HGE.out.mem t htl i).1 hi
              rw [List.take_length] at h1
              have h3 := (HI.out i h1).1
              have hil : i < L.length := by rw [R0.out.1]; exact h3
              have e : L.getD i [] = L[i] := by simp [hil]
              refine HF.out (L.getD i []) (by rw [e]; exact List.getElem_mem _) x ?_
              have hm : x ∈ (L.getD i []).drop d := by rw [h2, ← HX.out]; simp
              exact List.mem_of_mem_drop hm
            have HKEY : Hid (keyOf Try.prog 9 (.string x) = some (kl x)) := keyOf_string_mk (k := 9) Try.underlying9 hxs
            have hbmx : wm.heap.size < wr.heap.size := HKI.out.own.lt
            have HOWN : Hid (∀ w5 : World, Below wr.heap.size wr w5 → w5.ownsMap Try.prog 9 ptrElem wm.heap.size t D) := fun w5 hb => by
              obtain ⟨es, clock, q1, q2⟩ := HKI.out.own
              exact ⟨es, clock, by rw [hb.block _ hbmx]; exact q1, q2⟩
            have HNG2 : Hid (t < maxLen) := by unfold maxLen; show t < _; omega
            have hh2 : h' < h := by have := HH'.out; omega
            clear hx hgt hrg hcg g8' hxs
            have HCALL : Hid (Calls Try.prog 7 #[.slice a0 n0 c0, .slice ag ng cg, .int .i64 (IntKind.i64.wrap ((d : Int) + 1))] wr.drew fun e w' => ∃ b, e = .returned (.pointer (some ⟨b, 0, none⟩)) ∧ Below wr.heap.size wr w' ∧ Rep (h' + 1) w' b wr.heap.size w'.heap.size (fun p => ∃ i ∈ gt, (L.getD i []).drop (d + 1) = p)) := by
              have e : IntKind.i64.wrap ((d : Int) + 1) = ((d + 1 : Nat) : Int) := by rw [IntKind.wrap_i64]; omega
              show Calls _ _ _ _ _
              rw [e]
              refine (IH.out h' hh2 ag ng cg gt (d + 1) wr.drew RP.out RG.out HIDX.out hgn hd1).mono ?_
              rintro e w' ⟨b, h1, h2, h3⟩
              exact ⟨b, h1, ⟨h2.os, h2.tape, h2.output, h2.size, h2.block⟩, h3⟩
            go_wp2_with fail
            go_region_with ((go_at_call 7; refine HCALL.out.mono ?_; rintro e w5 ⟨cb, rfl, hb5, hrep5⟩; obtain ⟨w6, hupd, hown6, hg6⟩ := (HOWN.out w5 hb5).update law9 Try.underlying34 HNG2.out HKEY.out (ptrElem_some cb); have g85 := hb5.cell (p := ⟨b8, o8 + t, none⟩) (Nat.lt_of_lt_of_le hb8 hszx); rw [g8] at g85; have HB5 := Lib.hid hb5; have HR5 := Lib.hid hrep5; have HO6 := Lib.hid hown6; have HG6 := Lib.hid hg6; clear hb5 hrep5 hown6 hg6))
            all_goals
              go_wp2_with fail
              go_roundw
              case rel =>
                refine ⟨t + 1, _, _, _, _, by omega, by go_num, HKI.out.step HGE.out.nodup htl HB5.out HX.out ?_ HO6.out HG6.out, ?_⟩
                · have e := HH'.out
                  subst e
                  rw [← HGT.out]
                  exact HR5.out
                · exact HBX.out.trans (((HB5.out.mono hszx)).grown HG6.out (Nat.le_trans hszx HB5.out.size) (fun r hr => by cases hr; exact Nat.le_refl _))
              case measure => simp [intOf]; omega
          · have htk : t = ks.length := by omega
            subst htk
            go_wp2_with (go_at_call 16; refine (newSet_any sf (some wm.heap.size) wr).mono ?_; rintro e w7 ⟨rfl, rfl⟩)
            go_ret
            refine ⟨_, rfl, ?_, rep_of_kids HGE.out (by omega) HKI.out hszr rfl⟩
            exact (HB.out.trans (HBX.out.mono hszr)).alloc (Nat.le_trans hszr hszx) _

end Go.Proofs.Qxb6628763a
