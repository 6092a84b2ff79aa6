/-
  SEAT b6628687aD. 'Rows.FnAppendBulkContextFreeAndPrefixFreeCardSaid': THE ROW AND THE TIED CARD.
-/
import Derived.Test.Qxb6628687aDoorRows
import Derived.Test.Qxb6628687aDoorTie
import Derived.Test.Qxb6628687aDoorCards
import Derived.Test.Qxb6628687aDoorCtx
import Derived.WalkKit
import Derived.ProofKit
import Derived.OpenShut
import Derived.ShutString
import Derived.ChangeOld
import Derived.Below
import Derived.LaidMore
import Derived.Lib.LaidTab
import Derived.Stop.Joined
import Derived.Stop.LaidErr
import Derived.SevenTiedAt
namespace Go.Proofs.Qxb6628687aDoor.ctx
open Go.ChangeShapes Go.WideShapes Go.ChangeAt Go.RowKit
set_option linter.unusedVariables false

theorem own : ownKnob Tryd.prog.godebug = none := by kernel_rfl
theorem laidOut : laidOutB Tryd.prog = true := by kernel_rfl
theorem gT : Tryd.prog.globalNamed Tryd.tabName = some 0 := by kernel_rfl
theorem gTType : (Tryd.prog.globals[0]?).map (·.type) = some 40 := by kernel_rfl

/-- The list of a slice's bytes, as the walk wants it. -/
theorem rd_of_row {w : World} {x : Addr} {len cap : Nat} {zs : List Int} (hl : len ≤ cap) (hm : cap ≤ maxLen) (hz : zs.length = cap) (hcell : ∀ i, i < zs.length → w.cell? (x.add i) = some (.int .u8 (zs.getD i 0))) (hw : ∀ n ∈ zs, (Lit.int .u8 n).wf = true) :
    ∃ l, Rd w.heap.size w (some x) len cap l := by
  refine ⟨(zs.take len).map fun z => UInt8.ofNat z.toNat, by simp; omega, hl, hm, (fun e => by cases e), fun i hi => ?_⟩
  have hc := hcell i (by omega)
  obtain ⟨b, off, spot⟩ := x
  have hspot : spot = none := by simpa [Addr.add] using World.cell?_spot (hcell 0 (by omega))
  subst hspot
  rw [Addr.add_lit] at hc
  refine ⟨b, off, rfl, World.block_lt_of_cell? _ _ hc, ?_⟩
  rw [hc]
  have hmem : zs.getD i 0 ∈ zs := by
    have hi' : i < zs.length := by omega
    have e : zs.getD i 0 = zs[i] := by simp [List.getD, hi']
    rw [e]
    exact List.getElem_mem _
  have hb := bounds_u8 (hw _ hmem)
  have e2 : (((zs.take len).map fun z => UInt8.ofNat z.toNat).getD i 0) = UInt8.ofNat (zs.getD i 0).toNat := by
    simp [List.getD, hi, show i < zs.length by omega]
  rw [e2, UInt8.toNat_ofNat']
  congr 2
  omega

theorem rd_nil (w : World) : Rd w.heap.size w none 0 0 [] := ⟨rfl, Nat.le_refl _, by unfold maxLen; omega, fun _ => rfl, fun i hi => absurd hi (by omega)⟩

/-- The door's own heap meets the condition. -/
theorem door_met (os : Os) (args : Array Value) : laidMetH Tryd.prog Rows.fnAppendBulkContextFreeAndPrefixFreeRow.laid ((World.doorLaid Tryd.prog 400 os).forCall (fun _ _ => 0) ⟨#[], args, []⟩).memory :=
  laidMetH_of_parts3 (fuel := 8) (laidMet_of_run' 8 (by kernel_rfl) (by kernel_rfl)) (by kernel_rfl) (by kernel_rfl)

/-- The table of powers of ten stands third on the list. -/
theorem of_laid {W : World} (h : laidMetH Tryd.prog Rows.fnAppendBulkContextFreeAndPrefixFreeRow.laid W) : Lib.TabIs Tryd.prog W Tryd.tabName .u64 Lib.pow10Tab := by
  rw [MakeChecks.laidMetH_plain _ _ _ (by kernel_rfl)] at h
  have h3 : laidMet Tryd.prog [(Tryd.tabName, Lib.tabData .u64 Lib.pow10Tab)] W := (laidMet.tail (laidMet.tail h))
  exact Lib.tabIs_of_head gT gTType Tryd.underlying40 Tryd.underlying30 (by kernel_rfl) (by kernel_rfl) h3

set_option maxRecDepth 100000 in
theorem lifted (os : Os) (started : os.Started) (H : Type) (enc : TypeId × Value → H) :
    ReturnsInHanded {} Tryd.checked os 4 .any (fun w args => (Rows.fnAppendBulkContextFreeAndPrefixFreeSpec.pre enc Tryd.prog Tryd.f4 [] false w args ∧ laidMetH Tryd.prog Rows.fnAppendBulkContextFreeAndPrefixFreeRow.laid w) ∧ sizedMet enc Tryd.prog Tryd.f4 (OpenSpec.ofChange Rows.fnAppendBulkContextFreeAndPrefixFreeSpec) false w args)
      (Rows.fnAppendBulkContextFreeAndPrefixFreeSpec.post enc Tryd.prog Tryd.f4 false true false false) := by
  refine returnsInHanded_of_change_and (C := Tryd.checked) (X := fun w _ => laidMetH Tryd.prog Rows.fnAppendBulkContextFreeAndPrefixFreeRow.laid w) (fun _ _ _ hh h => h.of_heap hh) own started (by kernel_rfl) Tryd.func4
    (ChangeSpec.witness_shaped (enc := enc) (C := Tryd.checked) (os := os) (X := fun w _ => laidMetH Tryd.prog Rows.fnAppendBulkContextFreeAndPrefixFreeRow.laid w) false (World.doorLaid Tryd.prog 400 os) #[.slice none 0 0, .slice none 0 0, .slice none 0 0] 8 rfl (World.shaped_of_RefB (by kernel_rfl) (by kernel_rfl)) (by kernel_rfl) (by kernel_rfl) (by kernel_rfl) (door_met os _)) ?_
  intro W base args ds gs before hval0 hW _ _ hL _
  have hval : ∀ (j : Nat) t v, Tryd.f4.params[j]? = some t → args[j]? = some v → Value.okWide Tryd.prog W .any base t v := hval0
  have hW' := hW
  obtain ⟨p, q, hA0, hV, rfl, hfz, hnd⟩ := hW
  have hA : DataW.TrodAll enc Tryd.prog W 0 (fun _ => true) true Tryd.f4.params.toList args.toList ds p := hA0
  rw [Tryd.params4] at hA hval
  obtain ⟨v0, vs0, d0, ds0, p0, q0, hargs, rfl, rfl, h0, r0⟩ := trodAll_cons hA
  obtain ⟨v1, vs1, d1, ds1, p1, q1, rfl, rfl, rfl, h1, r1⟩ := trodAll_cons r0
  obtain ⟨v2, vs2, d2, ds2, p2, q2, rfl, rfl, rfl, h2, r2⟩ := trodAll_cons r1
  obtain ⟨rfl, rfl, rfl⟩ := trodAll_nil r2
  obtain rfl : args = #[v0, v1, v2] := by cases args; simp_all
  obtain ⟨rfl, rfl⟩ := trodVars_none hV
  have hT := of_laid hL
  have rowOf : ∀ {a : Option Addr} {n c : Nat} {d : DataW H} {p : List MemPlace}, DataW.Trod enc Tryd.prog W 0 (fun _ => true) true 22 (.slice a n c) d p → ∃ l, Rd W.heap.size W a n c l := by
    intro a n c d p ht
    obtain ⟨fuel, hf⟩ := ht
    rcases open_ints Tryd.underlying22 Tryd.underlying5 (by kernel_rfl) hf with ⟨hcs, _⟩ | ⟨x, l, c, zs, hcs, _, hl, hm, hz, _, hcell, hwz⟩
    · simp [Value.cells] at hcs
      obtain ⟨rfl, rfl, rfl⟩ := hcs
      exact ⟨[], rd_nil W⟩
    · simp [Value.cells] at hcs
      obtain ⟨rfl, rfl, rfl⟩ := hcs
      exact rd_of_row hl hm (by simpa using hz) hcell hwz
  obtain ⟨a0, len0, cap0, rfl⟩ := okWide_slice Tryd.underlying22 (hval 0 22 v0 rfl rfl)
  have k0 := h0
  have lt0 : ∀ x ∈ p0, x.block < W.heap.size := by obtain ⟨m, hm⟩ := k0; exact DataW.trod_lt m _ _ _ hm
  obtain ⟨z0, w0⟩ := rowOf h0
  obtain ⟨a1, len1, cap1, rfl⟩ := okWide_slice Tryd.underlying22 (hval 1 22 v1 rfl rfl)
  have k1 := h1
  have lt1 : ∀ x ∈ p1, x.block < W.heap.size := by obtain ⟨m, hm⟩ := k1; exact DataW.trod_lt m _ _ _ hm
  obtain ⟨z1, w1⟩ := rowOf h1
  obtain ⟨a2, len2, cap2, rfl⟩ := okWide_slice Tryd.underlying22 (hval 2 22 v2 rfl rfl)
  have k2 := h2
  have lt2 : ∀ x ∈ p2, x.block < W.heap.size := by obtain ⟨m, hm⟩ := k2; exact DataW.trod_lt m _ _ _ hm
  obtain ⟨z2, w2⟩ := rowOf h2
  clear hA0 hval0
  refine (walk4 a0 len0 cap0 z0 a1 len1 cap1 z1 a2 len2 cap2 z2 W w0 w1 w2 hT).mono fun e W' ⟨he, bel⟩ => ?_
  subst he
  exact ⟨_, rfl, _, _, _, [], _, [], hW', trodAll_mk1 (shut_bool Tryd.underlying4 _), (trodAll_cons_mk (Below.trod laidOut (by kernel_rfl) (of_decide_eq_true (by kernel_rfl)) k0 bel lt0) (trodAll_cons_mk (Below.trod laidOut (by kernel_rfl) (of_decide_eq_true (by kernel_rfl)) k1 bel lt1) (trodAll_cons_mk (Below.trod laidOut (by kernel_rfl) (of_decide_eq_true (by kernel_rfl)) k2 bel lt2) trodAll_mk0))), rfl, bel.frame _, fun h => by cases h⟩

theorem over : Rows.FnAppendBulkContextFreeAndPrefixFreeSaid :=
  OpenClaim.holds_of_wide 4 Tryd.f4 rfl rfl rfl rfl rfl rfl rfl ⟨rfl, rfl, rfl, rfl, rfl⟩ rfl rfl rfl rfl rfl (by kernel_rfl) Tryd.func4 (by kernel_rfl)
    (of_decide_eq_true (by kernel_rfl)) (by unfold Func.isWrapper; first | (rw [if_pos (by decide +kernel)]; kernel_rfl) | (rw [if_neg (by decide +kernel)]; exact ⟨rfl, rfl⟩))
    (fun os started H enc _ => lifted os started H enc)

/-- The statement. -/
theorem proved : Rows.FnAppendBulkContextFreeAndPrefixFreeCardSaid :=
  Claim7.holds_tied_plain_at .later [] [.data, .data, .data] true (true, "df1c27f10727530fcd49b9b217402a196834f6a013d1792d5afc7e77d2a8a98a") false
    over (fun _ h => by cases h) (by kernel_rfl) (fun _ h => by cases h) fnAppendBulkContextFreeAndPrefixFree_row_tie rfl ⟨rfl, rfl⟩ (by kernel_rfl) rfl
    (fun f fn hf hfn => by
      obtain rfl : f = 4 := Option.some.inj ((show Tryd.prog.funcNamed Rows.fnAppendBulkContextFreeAndPrefixFreeRow.func = some 4 by kernel_rfl).symm.trans hf) |>.symm
      obtain rfl : fn = Tryd.f4 := (Option.some.inj (Tryd.func4.symm.trans hfn)).symm
      exact ⟨by kernel_rfl, fun j t ht => by
        rw [Tryd.params4] at ht
        have h22 : t = 22 := by
          rcases j with _ | _ | _ | j
          · simpa using ht.symm
          · simpa using ht.symm
          · simpa using ht.symm
          · simp at ht
        subst h22
        exact (show Tryd.prog.wantsStandIn 22 = false by kernel_rfl)⟩)
    (by kernel_rfl)
end Go.Proofs.Qxb6628687aDoor.ctx
namespace Go.Proofs.Qxb6628687aDoor
theorem fnAppendBulkContextFreeAndPrefixFree_card : Rows.FnAppendBulkContextFreeAndPrefixFreeCardSaid := ctx.proved
end Go.Proofs.Qxb6628687aDoor
