/-
  SEAT b6628763a. Remove (10) of a set from itself: nothing is left.
-/
import Derived.Test.Qxb6628763aRemove
namespace Go.Proofs.Qxb6628763a
open Go.RowKit Go.Maps Go.WideMaps

/-- Where the loop stands that strikes a map's keys while it ranges over it. -/
structure Going (n : Nat) (w : World) (bm r N : Nat) (A : Path → Prop) (f : Key → Option Nat) (LO HI : Key → Nat) (D : DataW Unit) (left : Lit → Bool) (cnt : Nat) : Prop where
  rg : w.ranges Try.prog 9 ptrElem bm r N D left cnt
  has : ∀ s, Maps.has D (kl s) = left (kl s)
  ch : ∀ s, left (kl s) = true → ∃ c, f s = some c ∧ (∀ z, D.atKey (kl s) z = .lit (.int .i64 (c : Int))) ∧ Rep n w c (LO s) (HI s) (fun p => A (s :: p))

set_option maxRecDepth 100000 in
set_option maxHeartbeats 6400000 in
theorem remove_self : ∀ (n : Nat) (b lo hi : Nat) (A : Path → Prop) (w : World), Rep n w b lo hi A → hi ≤ w.heap.size →
    Calls Try.prog 10 #[.pointer (some ⟨b, 0, none⟩), .pointer (some ⟨b, 0, none⟩)] w fun e w' => e = .returned (.tuple #[]) ∧ Rep n w' b lo hi (fun _ => False) ∧ Out lo hi w w' := by
  intro n
  induction n with
  | zero => intro b lo hi A w h; exact absurd h (by simp [Rep])
  | succ n ih =>
    intro b lo hi A w h0 hhi
    have IH := Lib.hid ih
    obtain ⟨self, mo, f, LO, HI, hop⟩ := h0
    have HOP : Hid (Op n w b lo hi A self mo f LO HI) := hop
    have HH := Lib.hid hhi
    clear ih hop hhi
    have c0 := HOP.out.node.c0
    have f0 := HOP.out.node.f0
    have HNO : Hid (Node w b self mo) := HOP.out.node
    have HMO : Hid (MapO w mo f) := HOP.out.mapo
    by_cases hemp : self = false ∧ ∀ k, f k = none
    · have HE : Hid (self = false ∧ ∀ k, f k = none) := hemp
      have HB : Hid (∀ p, ¬ A p) := HOP.out.empty_iff.1 hemp
      clear hemp
      go_enter Try.func10, Try.ntmps10
      go_wp2_with (go_at_call 18; refine (empty_is true b self mo f w HNO.out HMO.out (iff_of_true rfl HE.out)).mono ?_; rintro e w7 ⟨rfl, rfl⟩)
      refine bodyPost_ret (results_none rfl _ _ _) rfl ?_
      exact ⟨rfl, HOP.out.rep.congr (fun p => ⟨HB.out p, False.elim⟩), Out.refl _ _ _⟩
    · have HE : Hid (¬ (self = false ∧ ∀ k, f k = none)) := hemp
      clear hemp
      go_enter Try.func10, Try.ntmps10
      go_upto_region 1 with (go_at_call 18; refine (empty_is false b self mo f w HNO.out HMO.out (iff_of_false Bool.false_ne_true HE.out)).mono ?_; rintro e w7 ⟨rfl, rfl⟩)
      go_cut [4] from 7 (fun _ wx => wx = w.setCell ⟨b, 0, none⟩ (.bool false))
      case first =>
        cases self with
        | false =>
          go_wp2_with fail
          go_meet
          case rel => rfl
        | true =>
          go_wp2_with fail
          go_meet
          case rel => rfl
      case rest =>
        have hwc := hcut
        clear hcut
        have HOUT : Hid (Out lo hi w wc) := by rw [hwc]; exact out_set HOP.out.2.1 HOP.out.2.2.1 _
        have hszc : wc.heap.size = w.heap.size := by rw [hwc]; simp [World.setCell]
        have HOC : Hid (Op n wc b lo hi (fun p => p ≠ [] ∧ A p) false mo f LO HI) := by
          show Op _ _ _ _ _ _ _ _ _ _ _
          rw [hwc]
          exact HOP.out.set (by simp) (fun k p => by simp)
        have d1 := HOC.out.node.c1
        have HSZ := Lib.hid hszc
        clear hszc hwc c0 f0 HNO HMO
        have HHC : Hid (hi ≤ wc.heap.size) := by show _ ≤ _; rw [HSZ.out]; exact HH.out
        cases mo with
        | none =>
          have hrange := run_range_nilMap (P := Try.prog) wc 34 9 24 Try.underlying34
          have hnext := fun ty => run_next_nilMap (P := Try.prog) wc ty 0 0 #[]
          have HNB : Hid (∀ k p, ¬ A (k :: p)) := fun k p hp => HOC.out.2.2.2.2.2.2.1 k (HOC.out.mapo k) p ⟨by simp, hp⟩
          go_wp2_with fail
          go_loopw [4] (fun _ wr => wr = wc.alloc (.mapIter none 0 #[] 0)) (fun _ _ => 0)
          case atStart => rfl
          case round =>
            obtain rfl := hrel
            go_wp2_with fail
            go_end0
            refine ⟨rfl, ((HOC.out.rep.grow (World.grownBy_alloc wc _ none) HHC.out (fun r h => by cases h)).congr (fun p => iff_of_false (fun h => ?_) id)), HOUT.out.grow (World.grownBy_alloc wc _ none)⟩
            cases p with
            | nil => exact h.1 rfl
            | cons k p => exact HNB.out k p h.2
        | some bm =>
          obtain ⟨N, D, hN, hown, hf⟩ := HOC.out.mapo
          have HF := Lib.hid hf
          have HOWN := Lib.hid hown
          have HN := Lib.hid hN
          clear hf hown hN
          have HBM : Hid (lo ≤ bm ∧ bm < hi) := HOC.out.2.2.2.1 bm rfl
          have HNEB : Hid (bm ≠ b) := HOC.out.ne bm rfl
          have HBLT : Hid (b < wc.heap.size) := HOC.out.lt
          have HCH : Hid (∀ k c, f k = some c → Rep n wc c (LO k) (HI k) (fun p => A (k :: p)) ∧ lo ≤ LO k ∧ HI k ≤ hi ∧ (b < LO k ∨ HI k ≤ b) ∧ (bm < LO k ∨ HI k ≤ bm)) := fun k c hk => by
            obtain ⟨r, _, r2, r3, r4, r5⟩ := HOC.out.2.2.2.2.2.2.2.1 k c hk
            exact ⟨r.congr (fun p => by simp), r2, r3, r4, r5 bm rfl⟩
          have HDIS : Hid (∀ k k' c c', k ≠ k' → f k = some c → f k' = some c' → HI k ≤ LO k' ∨ HI k' ≤ LO k) := HOC.out.2.2.2.2.2.2.2.2
          have HNODE : Hid (Node wc b false (some bm)) := HOC.out.node
          have HBB : Hid (lo ≤ b ∧ b < hi) := ⟨HOC.out.2.1, HOC.out.2.2.1⟩
          go_wp2_with (at_range; refine wpList_range_own _ rfl _ 34 rfl 9 24 law9 Try.underlying34 ptrElem bm N D rfl HOWN.out ?_; intro w0 hrg0 hg0 hs0)
          have HRG0 := Lib.hid hrg0
          have HG0 := Lib.hid hg0
          clear hrg0 hg0 hs0
          go_frame
          go_loopw [4] (fun _ wr => ∃ (E : DataW Unit) (left : Lit → Bool) (cnt : Nat), Hid (Going n wr bm wc.heap.size N A f LO HI E left cnt) ∧ Hid (Node wr b false (some bm)) ∧ Hid (Out lo hi w wr)) (fun _ wr => wr.rangeLeft bm wc.heap.size)
          case atStart =>
            refine ⟨D, Maps.has D, Maps.size D, ⟨HRG0.out, fun s => rfl, fun s hs => ?_⟩, ?_, HOUT.out.grow HG0.out⟩
            · rw [(HF.out s).1] at hs
              obtain ⟨c, hc⟩ := Option.isSome_iff_exists.1 hs
              have := HCH.out s c hc
              exact ⟨c, hc, (HF.out s).2 c hc, this.1.grow HG0.out (by have := HHC.out; omega) (fun r h => by cases h)⟩
            · show _ = _
              rw [HG0.out.block b HBLT.out (by simp)]
              exact HNODE.out
          case round =>
            obtain ⟨E, left, cnt, HGO, HND, HO⟩ := hrel
            go_wp2_with (at_next; refine wpList_next_ranges (α := Key) (β := Option Nat) _ rfl _ rfl 9 law9 ptrElem Value.string ptrOf (fun _ _ h => key_inv h) (fun _ _ h => ptr_inv h) bm wc.heap.size N E left cnt rfl HGO.out.rg (fun hc0 hl0 => Hid.out ?_) (fun x co l y w1 cnt1 hkey hlk hv hat hrg1 hlt hg1 hs1 hen => Hid.out ?_))
            · refine Lib.hid ?_
              have HL0 := Lib.hid hl0
              clear hc0 hl0
              go_wp2_with fail
              go_end0
              refine ⟨rfl, ⟨false, some bm, fun _ => none, LO, HI, HND.out, HBB.out.1, HBB.out.2, (fun m h => by cases h; exact HBM.out), ⟨N, E, HN.out, HGO.out.rg.owns, fun s => ⟨by rw [HGO.out.has, HL0.out]; rfl, fun c h => by cases h⟩⟩, by simp, fun _ _ _ h => h, (fun k c h => by cases h), fun k k' c c' _ h => by cases h⟩, HO.out⟩
            · refine Lib.hid ?_
              obtain ⟨rfl, hxs⟩ := key_inv2 hkey
              obtain ⟨cv, hcv, hcat, hrepc⟩ := HGO.out.ch x hlk
              have hco := ptr_of hv ((hat .nil).symm.trans (hcat .nil))
              subst hco
              have hen' : (Instr.entry (.pointer (some ⟨wc.heap.size, 0, none⟩))).run Try.prog w1 = .ok (.tuple #[.string x, .pointer (some ⟨cv, 0, none⟩)]) w1 := hen
              clear hen hat hv
              have HCC := Lib.hid (HCH.out x cv hcv)
              have hszr : w.heap.size ≤ wr.heap.size := HO.out.size
              have HHR : Hid (hi ≤ wr.heap.size) := by have := HH.out; show _ ≤ _; omega
              have HHR2 : Hid (hi ≤ wc.heap.size) := HHC.out
              have HRGn : Hid (w1.ranges Try.prog 9 ptrElem bm wc.heap.size N E (struck left x) cnt1) := hrg1
              have HO1 : Hid (Out lo hi w w1) := HO.out.next hg1 (.inl (by rw [HSZ.out]; exact Nat.le_refl _))
              have HG1 := Lib.hid hg1
              have HND1 : Hid (Node w1 b false (some bm)) := by
                show _ = _
                rw [HG1.out.block b (Array.getElem?_eq_some_iff.1 HND.out).1 (by have := HBB.out; have := HHR2.out; simp; omega)]
                exact HND.out
              have HREPC : Hid (Rep n w1 cv (LO x) (HI x) (fun p => A (x :: p))) := hrepc.grow hg1 (by have := HCC.out; have := HHR.out; omega) (fun r h => by cases h; right; have := HCC.out; have := HHR2.out; omega)
              have HLK := Lib.hid hlk
              have HLT := Lib.hid hlt
              have HCV := Lib.hid hcv
              have HKEY := Lib.hid hkey
              have hsz1 : w.heap.size ≤ w1.heap.size := HO1.out.size
              have HHI1 : Hid (hi ≤ w1.heap.size) := by have := HH.out; show _ ≤ _; omega
              have c1 := HND1.out.c1
              have hfE : MapO w1 (some bm) (fun s => if left (kl s) then f s else none) := by
                refine ⟨N, E, HN.out, HRGn.out.owns, fun s => ?_⟩
                show Maps.has E (kl s) = (if left (kl s) = true then f s else none).isSome ∧ ∀ c, (if left (kl s) = true then f s else none) = some c → ∀ z, E.atKey (kl s) z = .lit (.int .i64 (c : Int))
                rw [HGO.out.has]
                by_cases hls : left (kl s) = true
                · obtain ⟨c, h1, h2, _⟩ := HGO.out.ch s hls
                  rw [if_pos hls, h1, hls]
                  refine ⟨rfl, fun c' h => ?_⟩
                  cases h
                  exact h2
                · rw [if_neg hls]
                  exact ⟨by simpa using hls, fun c h => by cases h⟩
              have hlook := look_run hfE x hxs
              have e0 : (if left (kl x) = true then f x else none) = some cv := by rw [if_pos HLK.out]; exact HCV.out
              rw [e0] at hlook
              have hlook' : (Instr.lookup 34 (.map (some bm)) (.string x) false).run Try.prog w1 = .ok (.pointer (some ⟨cv, 0, none⟩)) w1 := hlook
              clear hlook e0 hfE hrg1 hg1 hs1 hlt hlk hkey hxs hszr hcv hcat hrepc
              have HCALL : Hid (Calls Try.prog 10 #[.pointer (some ⟨cv, 0, none⟩), .pointer (some ⟨cv, 0, none⟩)] w1 fun e w' => e = .returned (.tuple #[]) ∧ Rep n w' cv (LO x) (HI x) (fun _ => False) ∧ Out (LO x) (HI x) w1 w') :=
                IH.out cv (LO x) (HI x) _ w1 HREPC.out (by have := HCC.out; have := HHI1.out; omega)
              go_wp2_with (go_at_call 10; refine HCALL.out.mono ?_; rintro e w2 ⟨rfl, hrep2, hout2⟩; refine Hid.out ?_)
              refine Lib.hid ?_
              have HO2 := Lib.hid hout2
              obtain ⟨n2, self2, mo2, f2, LO2, HI2, hn2, hop2⟩ := hrep2.op
              have HNC : Hid (Node w2 cv self2 mo2) := hop2.node
              have HMC : Hid (MapO w2 mo2 f2) := hop2.mapo
              have HE2 : Hid (self2 = false ∧ ∀ k, f2 k = none) := hop2.empty_iff.2 (fun _ h => h)
              clear hop2 hrep2 hout2
              have HOA2 : Hid (Out lo hi w w2) := HO1.out.thenOut HO2.out HCC.out.2.1 HCC.out.2.2.1
              have HRG2 : Hid (w2.ranges Try.prog 9 ptrElem bm wc.heap.size N E (struck left x) cnt1) := by
                have hlt1 := HRGn.out.lt
                have hlt2 := HRGn.out.owns.lt
                refine ranges_frame HRGn.out (HO2.out.block bm hlt2 (by have := HCC.out; omega)) (HO2.out.block _ hlt1 (.inr ?_))
                have := HCC.out
                have := HHR2.out
                omega
              have HND2 : Hid (Node w2 b false (some bm)) := by
                show _ = _
                rw [HO2.out.block b (Array.getElem?_eq_some_iff.1 HND1.out).1 (by have := HCC.out; omega)]
                exact HND1.out
              have hc12 := HND2.out.c1
              clear c1
              go_wp2_with (first
                | (go_at_call 18; refine (empty_is true cv self2 mo2 f2 w2 HNC.out HMC.out (iff_of_true rfl HE2.out)).mono ?_; rintro e w7 ⟨rfl, rfl⟩)
                | (at_delete; refine wpList_delete_ranges _ rfl _ _ 34 9 rfl 24 law9 Try.underlying34 ptrElem bm wc.heap.size N E (struck left x) cnt1 rfl HRG2.out _ (kl x) rfl HKEY.out ?_; intro w3 cnt3 hrg3 hle3 hturn; refine Hid.out ?_))
              refine Lib.hid ?_
              have HG3 := Lib.hid hturn.grown
              have HRG3 : Hid (w3.ranges Try.prog 9 ptrElem bm wc.heap.size N (E.del (kl x)) (struck left x) cnt3) := by
                have h := hrg3
                rw [show (fun z : Lit => struck left x z && !z.sameKey (kl x)) = struck left x from strike_twice left (kl x)] at h
                exact h
              have HLE3 := Lib.hid hle3
              clear hrg3 hturn hle3
              go_wp2_with fail
              go_roundw
              case rel =>
                refine ⟨E.del (kl x), struck left x, cnt3, ⟨HRG3.out, fun s => ?_, fun s hs => ?_⟩, ?_, HOA2.out.next HG3.out (.inr HBM.out)⟩
                · by_cases hsx : s = x
                  · subst hsx; rw [struck_same, has_del_same]
                  · rw [struck_ne left hsx, has_del_other (fun h => hsx (kl_inj h)), HGO.out.has]
                · have hsx : s ≠ x := by rintro rfl; rw [struck_same] at hs; cases hs
                  obtain ⟨c, h1, h2, h3⟩ := HGO.out.ch s (struck_le left x s hs)
                  have hcc := HCH.out s c h1
                  have hdis := HDIS.out s x c cv hsx h1 HCV.out
                  refine ⟨c, h1, fun z => by rw [atKey_del_other (fun h => hsx (kl_inj h))]; exact h2 z, ?_⟩
                  have q1 := h3.grow HG1.out (by have := HHR.out; omega) (fun r h => by cases h; right; have := HHR2.out; omega)
                  have q2 := q1.out HO2.out (by have := HHI1.out; omega) hdis
                  exact q2.grow HG3.out (by have := HO2.out.size; have := HHI1.out; omega) (fun r h => by cases h; exact hcc.2.2.2.2)
                · show _ = _
                  rw [HG3.out.block b (Array.getElem?_eq_some_iff.1 HND2.out).1 (by have := HNEB.out; simp; omega)]
                  exact HND2.out
              case measure => rw [HRG3.out.left_eq, HGO.out.rg.left_eq]; have := HLE3.out; have := HLT.out; omega

end Go.Proofs.Qxb6628763a
