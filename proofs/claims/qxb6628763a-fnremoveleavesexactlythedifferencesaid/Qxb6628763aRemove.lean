/-
  SEAT b6628763a. Remove (10) of a set that shares nothing with the receiver.
-/
import Derived.Test.Qxb6628763aOut
import Derived.Deep.Cut
namespace Go.Proofs.Qxb6628763a
open Go.RowKit Go.Maps Go.WideMaps

/-- What is left of A while the keys of 'left' are still to come. -/
def Cur (A B : Path → Prop) (left : Lit → Bool) : Path → Prop
  | [] => A [] ∧ ¬ B []
  | k :: p => A (k :: p) ∧ ¬ (B (k :: p) ∧ left (kl k) = false)

theorem same_self (k : Key) : (kl k).sameKey (kl k) = true := (WideAt.sameKey_iff (b := kl k) trivial).2 rfl
theorem same_ne {k x : Key} (h : k ≠ x) : (kl k).sameKey (kl x) = false := Bool.eq_false_iff.2 (fun e => h (kl_inj ((WideAt.sameKey_iff (b := kl x) trivial).1 e)))

abbrev struck (left : Lit → Bool) (x : Key) : Lit → Bool := fun z => left z && !z.sameKey (kl x)

theorem struck_same (left : Lit → Bool) (x : Key) : struck left x (kl x) = false := by simp [struck, same_self]
theorem struck_ne (left : Lit → Bool) {k x : Key} (h : k ≠ x) : struck left x (kl k) = left (kl k) := by simp [struck, same_ne h]
theorem struck_le (left : Lit → Bool) (x k : Key) (h : struck left x (kl k) = true) : left (kl k) = true := by simp [struck] at h; exact h.1

theorem Cur.other {A B : Path → Prop} {left : Lit → Bool} {x k : Key} (h : k ≠ x) (p : Path) : Cur A B (struck left x) (k :: p) ↔ Cur A B left (k :: p) := by
  simp only [Cur, struck_ne left h]
theorem Cur.now {A B : Path → Prop} {left : Lit → Bool} (x : Key) (p : Path) : Cur A B (struck left x) (x :: p) ↔ A (x :: p) ∧ ¬ B (x :: p) := by
  simp [Cur, same_self]
theorem Cur.before {A B : Path → Prop} {left : Lit → Bool} {x : Key} (h : left (kl x) = true) (p : Path) : Cur A B left (x :: p) ↔ A (x :: p) := by
  simp [Cur, h]
theorem Cur.done {A B : Path → Prop} {left : Lit → Bool} (h : ∀ l, left l = false) (p : Path) : Cur A B left p ↔ A p ∧ ¬ B p := by
  cases p with
  | nil => rfl
  | cons k p => simp [Cur, h]

theorem Op.start {n : Nat} {w : World} {b lo hi : Nat} {A B : Path → Prop} {left : Lit → Bool} {self s' : Bool} {mo : Option Nat} {f : Key → Option Nat} {LO HI : Key → Nat} (h : Op n w b lo hi A self mo f LO HI)
    (hs : s' = true ↔ A [] ∧ ¬ B []) (hl : ∀ k, left (kl k) = false → ∀ p, ¬ B (k :: p)) : Op n (w.setCell ⟨b, 0, none⟩ (.bool s')) b lo hi (Cur A B left) s' mo f LO HI := by
  refine h.set hs (fun k p => ?_)
  simp only [Cur]
  constructor
  · exact fun h => h.1
  · exact fun h => ⟨h, fun ⟨h1, h2⟩ => hl k h2 p h1⟩

set_option maxRecDepth 100000 in
set_option maxHeartbeats 6400000 in
theorem remove_apart : ∀ (n : Nat) (n' b lo hi bo lo' hi' : Nat) (A B : Path → Prop) (w : World), Rep n w b lo hi A → Rep n' w bo lo' hi' B → (hi ≤ lo' ∨ hi' ≤ lo) → hi ≤ w.heap.size → hi' ≤ w.heap.size →
    Calls Try.prog 10 #[.pointer (some ⟨b, 0, none⟩), .pointer (some ⟨bo, 0, none⟩)] w fun e w' => e = .returned (.tuple #[]) ∧ Rep n w' b lo hi (fun p => A p ∧ ¬ B p) ∧ Out lo hi w w' := by
  intro n
  induction n with
  | zero => intro n' b lo hi bo lo' hi' A B w h; exact absurd h (by simp [Rep])
  | succ n ih =>
    intro n' b lo hi bo lo' hi' A B w h0 h1 hd hhi hhi'
    have IH := Lib.hid ih
    obtain ⟨self, mo, f, LO, HI, hop⟩ := h0
    obtain ⟨m', so, moo, fo, LO', HI', rfl, hopo⟩ := h1.op
    have HOP : Hid (Op n w b lo hi A self mo f LO HI) := hop
    have HOO : Hid (Op m' w bo lo' hi' B so moo fo LO' HI') := hopo
    have HD := Lib.hid hd
    have HH := Lib.hid hhi
    have HH' := Lib.hid hhi'
    have hbb : b ≠ bo := by have := hop.2.1; have := hop.2.2.1; have := hopo.2.1; have := hopo.2.2.1; omega
    clear ih hop hopo hd hhi hhi' h1
    have c0 := HOP.out.node.c0
    have c1 := HOP.out.node.c1
    have f0 := HOP.out.node.f0
    have d0 := HOO.out.node.c0
    have HNO : Hid (Node w bo so moo) := HOO.out.node
    have HMO : Hid (MapO w moo fo) := HOO.out.mapo
    by_cases hemp : so = false ∧ ∀ k, fo k = none
    · have HE : Hid (so = false ∧ ∀ k, fo k = none) := hemp
      have HB : Hid (∀ p, ¬ B p) := HOO.out.empty_iff.1 hemp
      clear hemp
      go_enter Try.func10, Try.ntmps10
      go_wp2_with (go_at_call 18; refine (empty_is true bo so moo fo w HNO.out HMO.out (iff_of_true rfl HE.out)).mono ?_; rintro e w7 ⟨rfl, rfl⟩)
      refine bodyPost_ret (results_none rfl _ _ _) rfl ?_
      exact ⟨rfl, HOP.out.rep.congr (fun p => ⟨fun h => ⟨h, HB.out p⟩, fun h => h.1⟩), Out.refl _ _ _⟩
    · have HE : Hid (¬ (so = false ∧ ∀ k, fo k = none)) := hemp
      clear hemp
      go_enter Try.func10, Try.ntmps10
      go_upto_region 1 with (go_at_call 18; refine (empty_is false bo so moo fo w HNO.out HMO.out (iff_of_false Bool.false_ne_true HE.out)).mono ?_; rintro e w7 ⟨rfl, rfl⟩)
      go_cut [4] from 7 (fun _ wx => ∃ s' : Bool, wx = w.setCell ⟨b, 0, none⟩ (.bool s') ∧ Hid (s' = true ↔ self = true ∧ so = false))
      case first =>
        cases self with
        | false =>
          go_wp2_with fail
          go_meet
          case rel => exact ⟨false, rfl, by show _ ↔ _; simp⟩
        | true =>
          go_wp2_with fail
          go_meet
          case rel => exact ⟨!so, rfl, by show _ ↔ _; cases so <;> simp⟩
      case rest =>
        obtain ⟨s', hwc, HS'⟩ := hcut
        have HSL : Hid (s' = true ↔ A [] ∧ ¬ B []) := by
          show _ ↔ _
          rw [HS'.out, HOP.out.2.2.2.2.2.1, ← HOO.out.2.2.2.2.2.1]
          cases so <;> simp
        have HOUT : Hid (Out lo hi w wc) := by rw [hwc]; exact out_set HOP.out.2.1 HOP.out.2.2.1 _
        have hszc : wc.heap.size = w.heap.size := by rw [hwc]; simp [World.setCell]
        have HSTART : Hid (∀ left : Lit → Bool, (∀ k, left (kl k) = false → ∀ p, ¬ B (k :: p)) → Rep (n + 1) wc b lo hi (Cur A B left)) := fun left hl => by
          rw [hwc]; exact (HOP.out.start HSL.out hl).rep
        have HRO : Hid (Op m' wc bo lo' hi' B so moo fo LO' HI') := by
          have hb := HOP.out.2.1
          have hb' := HOP.out.2.2.1
          have hblk : ∀ i, lo' ≤ i → i < hi' → wc.heap[i]? = w.heap[i]? := fun i h1 h2 => HOUT.out.block i (by have := HH'.out; omega) (by have := HD.out; omega)
          obtain ⟨h1, h2, h3, h4, h5, h6, h7, h8, h9⟩ := HOO.out
          refine ⟨by rw [hblk bo h2 h3]; exact h1, h2, h3, h4, h5.frame (fun m e => hblk m (h4 m e).1 (h4 m e).2), h6, h7, fun k c hk => ?_, h9⟩
          obtain ⟨r, r2, r3, r4, r5⟩ := h8 k c hk
          exact ⟨r.frame (fun i h1 h2 => hblk i (by omega) (by omega)), r2, r3, r4, r5⟩
        have d1 := HRO.out.node.c1
        have HSZ := Lib.hid hszc
        clear hszc
        clear hwc c0 c1 f0 d0 HNO HMO HS' HSL
        cases moo with
        | none =>
          have hrange := run_range_nilMap (P := Try.prog) wc 34 9 24 Try.underlying34
          have hnext := fun ty => run_next_nilMap (P := Try.prog) wc ty 0 0 #[]
          have HNB : Hid (∀ k p, ¬ B (k :: p)) := fun k => HRO.out.2.2.2.2.2.2.1 k (HRO.out.mapo k)
          go_wp2_with fail
          go_loopw [4] (fun _ wr => wr = wc.alloc (.mapIter none 0 #[] 0)) (fun _ _ => 0)
          case atStart => rfl
          case round =>
            obtain rfl := hrel
            go_wp2_with fail
            go_end0
            have hr := HSTART.out (fun _ => false) (fun k _ => HNB.out k)
            refine ⟨rfl, ((hr.grow (World.grownBy_alloc wc _ none) (by rw [HSZ.out]; exact HH.out) (fun r h => by cases h)).congr (fun p => Cur.done (fun _ => rfl) p)), HOUT.out.grow (World.grownBy_alloc wc _ none)⟩
        | some bmo =>
          obtain ⟨N, D, hN, hown, hf⟩ := HRO.out.mapo
          have HF := Lib.hid hf
          have HOWN := Lib.hid hown
          clear hf hown hN
          have hbm := HRO.out.2.2.2.1 bmo rfl
          have HBM : Hid (lo' ≤ bmo ∧ bmo < hi') := hbm
          have HST : Hid (Rep (n + 1) wc b lo hi (Cur A B (Maps.has D))) := HSTART.out _ (fun k hk => HRO.out.2.2.2.2.2.2.1 k (by
            have := (HF.out k).1
            rw [hk] at this
            exact Option.isSome_eq_false_iff.1 this.symm |> Option.isNone_iff_eq_none.1))
          clear hbm HSTART
          go_wp2_with (at_range; refine wpList_range_own _ rfl _ 34 rfl 9 24 law9 Try.underlying34 ptrElem bmo N D rfl HOWN.out ?_; intro w0 hrg0 hg0 hs0)
          have HRG0 := Lib.hid hrg0
          have HG0 := Lib.hid hg0
          clear hrg0 hg0 hs0
          go_frame
          go_loopw [4] (fun _ wr => ∃ (left : Lit → Bool) (cnt : Nat), Hid (wr.ranges Try.prog 9 ptrElem bmo wc.heap.size N D left cnt) ∧ Hid (∀ k, left (kl k) = true → Maps.has D (kl k) = true) ∧ Hid (Rep (n + 1) wr b lo hi (Cur A B left)) ∧ Hid (Out lo hi w wr)) (fun _ wr => wr.rangeLeft bmo wc.heap.size)
          case atStart => exact ⟨Maps.has D, Maps.size D, HRG0, fun k h => h, HST.out.grow HG0.out (by rw [HSZ.out]; exact HH.out) (fun r h => by cases h), HOUT.out.grow HG0.out⟩
          case round =>
            obtain ⟨left, cnt, HRG, HLE, HREP, HO⟩ := hrel
            go_wp2_with (at_next; refine wpList_next_ranges (α := Key) (β := Option Nat) _ rfl _ rfl 9 law9 ptrElem Value.string ptrOf (fun _ _ h => key_inv h) (fun _ _ h => ptr_inv h) bmo wc.heap.size N D left cnt rfl HRG.out (fun hc0 hl0 => Hid.out ?_) (fun x co l y w1 cnt1 hkey hlk hv hat hrg1 hlt hg1 hs1 hen => Hid.out ?_))
            · refine Lib.hid ?_
              have HL0 := Lib.hid hl0
              clear hc0 hl0
              go_wp2_with fail
              go_end0
              exact ⟨rfl, HREP.out.congr (fun p => Cur.done HL0.out p), HO.out⟩
            · refine Lib.hid ?_
              obtain ⟨rfl, hxs⟩ := key_inv2 hkey
              have HHAS := HLE.out x hlk
              rw [(HF.out x).1] at HHAS
              obtain ⟨cv, hcv⟩ := Option.isSome_iff_exists.1 HHAS
              have hco := ptr_of hv ((hat .nil).symm.trans ((HF.out x).2 cv hcv .nil))
              subst hco
              have hen' : (Instr.entry (.pointer (some ⟨wc.heap.size, 0, none⟩))).run Try.prog w1 = .ok (.tuple #[.string x, .pointer (some ⟨cv, 0, none⟩)]) w1 := hen
              clear hen hat hv HHAS
              have hszr : w.heap.size ≤ wr.heap.size := HO.out.size
              have HRGn : Hid (w1.ranges Try.prog 9 ptrElem bmo wc.heap.size N D (struck left x) cnt1) := hrg1
              have HO1 : Hid (Out lo hi w w1) := HO.out.next hg1 (.inl (by rw [HSZ.out]; exact Nat.le_refl _))
              have HLK := Lib.hid hlk
              have HLE2 : Hid (∀ k, struck left x (kl k) = true → Maps.has D (kl k) = true) := fun k h => HLE.out k (struck_le left x k h)
              have HREPV : Hid (Rep m' w1 cv (LO' x) (HI' x) (fun p => B (x :: p)) ∧ lo' ≤ LO' x ∧ HI' x ≤ hi') := by
                obtain ⟨r, _, r2, r3, _⟩ := HOO.out.2.2.2.2.2.2.2.1 x cv hcv
                exact ⟨r.out HO1.out (by have := HH'.out; omega) (by have := HD.out; omega), r2, r3⟩
              obtain ⟨self1, mo1, f1, LO1, HI1, hop1⟩ := HREP.out.grow hg1 (by have := HH.out; omega) (fun r h => by cases h; right; rw [HSZ.out]; exact HH.out)
              have HOP1 : Hid (Op n w1 b lo hi (Cur A B left) self1 mo1 f1 LO1 HI1) := hop1
              have HLT := Lib.hid hlt
              have hsz1 : w.heap.size ≤ w1.heap.size := HO1.out.size
              have c1 := HOP1.out.node.c1
              have hlook := look_run HOP1.out.mapo x hxs
              have HKEY := Lib.hid hkey
              have HHI1 : Hid (hi ≤ w1.heap.size) := by have := HH.out; show _ ≤ _; omega
              clear hop1 hrg1 hg1 hs1 hlt hlk hkey hxs hszr hcv
              cases hf1 : f1 x with
              | none =>
                rw [hf1] at hlook
                have HF1 := Lib.hid hf1
                clear hf1
                have hlook' : (Instr.lookup 34 (.map mo1) (.string x) false).run Try.prog w1 = .ok (.pointer none) w1 := hlook
                clear hlook
                go_wp2_with fail
                go_roundw
                case rel =>
                  refine ⟨struck left x, cnt1, HRGn, HLE2, ?_, HO1⟩
                  refine HOP1.out.rep.congr (fun p => ?_)
                  cases p with
                  | nil => exact Iff.rfl
                  | cons k p =>
                    by_cases hkx : k = x
                    · subst hkx
                      refine iff_of_false (HOP1.out.2.2.2.2.2.2.1 k HF1.out p) (fun h => ?_)
                      exact HOP1.out.2.2.2.2.2.2.1 k HF1.out p ((Cur.before HLK.out p).2 ((Cur.now k p).1 h).1)
                    · exact (Cur.other hkx p).symm
                case measure => rw [HRGn.out.left_eq, HRG.out.left_eq]; exact HLT.out
              | some c =>
                rw [hf1] at hlook
                have HF1 := Lib.hid hf1
                clear hf1
                have hlook' : (Instr.lookup 34 (.map mo1) (.string x) false).run Try.prog w1 = .ok (.pointer (some ⟨c, 0, none⟩)) w1 := hlook
                clear hlook
                have HCH := Lib.hid (HOP1.out.2.2.2.2.2.2.2.1 x c HF1.out)
                have HREPC : Hid (Rep n w1 c (LO1 x) (HI1 x) (fun p => A (x :: p))) := HCH.out.1.congr (fun p => Cur.before HLK.out p)
                have HLOHI : Hid (lo ≤ LO1 x ∧ HI1 x ≤ hi) := ⟨HCH.out.2.2.1, HCH.out.2.2.2.1⟩
                have HCALL : Hid (Calls Try.prog 10 #[.pointer (some ⟨c, 0, none⟩), .pointer (some ⟨cv, 0, none⟩)] w1 fun e w' => e = .returned (.tuple #[]) ∧ Rep n w' c (LO1 x) (HI1 x) (fun p => A (x :: p) ∧ ¬ B (x :: p)) ∧ Out (LO1 x) (HI1 x) w1 w') :=
                  IH.out m' c (LO1 x) (HI1 x) cv (LO' x) (HI' x) _ _ w1 HREPC.out HREPV.out.1 (by have := HD.out; have := HLOHI.out; have := HREPV.out.2; omega) (by have := HLOHI.out; have := HHI1.out; omega) (by have := HREPV.out.2; have := HH'.out; omega)
                go_wp2_with (go_at_call 10; refine HCALL.out.mono ?_; rintro e w2 ⟨rfl, hrep2, hout2⟩; refine Hid.out ?_)
                refine Lib.hid ?_
                have HR2 := Lib.hid hrep2
                have HO2 := Lib.hid hout2
                clear hrep2 hout2
                obtain ⟨n2, self2, mo2, f2, LO2, HI2, hn2, hop2⟩ := HR2.out.op
                have HNC : Hid (Node w2 c self2 mo2) := hop2.node
                have HMC : Hid (MapO w2 mo2 f2) := hop2.mapo
                have HEI := Lib.hid hop2.empty_iff
                clear hop2
                have HOA2 : Hid (Out lo hi w w2) := HO1.out.thenOut HO2.out HLOHI.out.1 HLOHI.out.2
                have HRG2 : Hid (w2.ranges Try.prog 9 ptrElem bmo wc.heap.size N D (struck left x) cnt1) := by
                  have hlt1 := HRGn.out.lt
                  have hlt2 := HRGn.out.owns.lt
                  refine ranges_frame HRGn.out (HO2.out.block bmo hlt2 (by have := HBM.out; have := HD.out; have := HLOHI.out; omega)) (HO2.out.block _ hlt1 (.inr ?_))
                  rw [HSZ.out]
                  have := HLOHI.out.2
                  have := HH.out
                  omega
                by_cases hE : ∀ p, ¬ (A (x :: p) ∧ ¬ B (x :: p))
                · have HE2 : Hid (self2 = false ∧ ∀ k, f2 k = none) := HEI.out.2 hE
                  have HEE := Lib.hid hE
                  clear hE
                  obtain ⟨bm1, rfl⟩ : ∃ bm1, mo1 = some bm1 := by
                    cases mo1 with
                    | none => have := HOP1.out.mapo x; rw [HF1.out] at this; cases this
                    | some m => exact ⟨m, rfl⟩
                  have HBM1 := Lib.hid (HOP1.out.2.2.2.1 bm1 rfl)
                  have hc12 : w2.cell? ⟨b, 1, none⟩ = some (.map (some bm1)) := by
                    rw [World.cell?_of_block (w := w1) (HO2.out.block b HOP1.out.lt (by have := HCH.out.2.2.2.2.1; omega))]
                    exact c1
                  obtain ⟨N1, D1, hN1, hown1, hf1⟩ := HOP1.out.mapo
                  have hown2 : w2.ownsMap Try.prog 9 ptrElem bm1 N1 D1 := by
                    obtain ⟨es, clock, g1, g2⟩ := hown1
                    exact ⟨es, clock, by rw [HO2.out.block bm1 (Array.getElem?_eq_some_iff.1 g1).1 (by have := HCH.out.2.2.2.2.2 bm1 rfl; omega)]; exact g1, g2⟩
                  have HOWN2 := Lib.hid hown2
                  have HF2 := Lib.hid hf1
                  have HN1 := Lib.hid hN1
                  clear hown1 hown2 hf1 hN1 c1
                  go_wp2_with (first
                    | (go_at_call 18; refine (empty_is true c self2 mo2 f2 w2 HNC.out HMC.out (iff_of_true rfl HE2.out)).mono ?_; rintro e w7 ⟨rfl, rfl⟩)
                    | (at_delete; refine wpList_delete_own _ rfl _ _ 34 9 rfl 24 law9 Try.underlying34 ptrElem bm1 N1 D1 rfl HOWN2.out _ (kl x) rfl HKEY.out ?_; intro w3 hown3 hturn; refine Hid.out ?_))
                  refine Lib.hid ?_
                  have HG3 := Lib.hid hturn.grown
                  have HM3 : Hid (MapIs w3 bm1 (fun k => if k = x then none else f1 k)) := ⟨N1, _, HN1.out, hown3, del_is x HF2.out⟩
                  clear hown3 hturn
                  have HRG3 : Hid (w3.ranges Try.prog 9 ptrElem bmo wc.heap.size N D (struck left x) cnt1) := by
                    refine HRG2.out.kept HG3.out (fun h => ?_) (fun h => ?_)
                    · cases h
                      have := HBM.out; have := HBM1.out; have := HD.out
                      omega
                    · have h := Option.some.inj h
                      have := HBM1.out; have := HH.out
                      rw [HSZ.out] at h
                      omega
                  go_wp2_with fail
                  go_roundw
                  case rel =>
                    refine ⟨struck left x, cnt1, HRG3, HLE2, ?_, HOA2.out.next HG3.out (.inr HBM1.out)⟩
                    refine HOP1.out.drop HF1.out HO2.out HHI1.out HG3.out HM3.out Iff.rfl (fun k hk p => Cur.other hk p) (fun p h => HEE.out p ((Cur.now x p).1 h))
                  case measure => rw [HRG3.out.left_eq, HRG.out.left_eq]; exact HLT.out
                · have HE2 : Hid (¬ (self2 = false ∧ ∀ k, f2 k = none)) := fun h => hE (HEI.out.1 h)
                  have HNE : Hid (∃ p, A (x :: p) ∧ ¬ B (x :: p)) := by
                    refine Classical.byContradiction (fun h => hE (fun p hp => h ⟨p, hp⟩))
                  clear hE
                  go_wp2_with (go_at_call 18; refine (empty_is false c self2 mo2 f2 w2 HNC.out HMC.out (iff_of_false Bool.false_ne_true HE2.out)).mono ?_; rintro e w7 ⟨rfl, rfl⟩)
                  go_roundw
                  case rel =>
                    refine ⟨struck left x, cnt1, HRG2, HLE2, ?_, HOA2⟩
                    refine HOP1.out.turn HF1.out HO2.out HHI1.out (HR2.out.congr (fun p => (Cur.now x p).symm)) ?_ Iff.rfl (fun k hk p => Cur.other hk p)
                    obtain ⟨p, hp⟩ := HNE.out
                    exact ⟨p, (Cur.now x p).2 hp⟩
                  case measure => rw [HRG2.out.left_eq, HRG.out.left_eq]; exact HLT.out

end Go.Proofs.Qxb6628763a
