/-
  SEAT b6628763a. zzNodeRight (19): true at a node that holds just the kept paths that begin with q.
-/
import Derived.Test.Qxb6628763aWalk
import Derived.Laws.AppendOwn
import Derived.Maps.AppendAt
import Derived.OwnWalk
namespace Go.Proofs.Qxb6628763a
open Go.RowKit Go.Maps Go.WideMaps

theorem info9 : (Try.prog.info? 9).map (fun i => (i.zero, i.size, i.bytes)) = some (some (.string ByteArray.empty), 1, 16) := by kernel_rfl

/-- What has been gathered before round k. -/
structure Gath (L : List Path) (keep : List Bool) (q : Path) (k : Nat) (sf : Bool) (l : Path) : Prop where
  self : sf = true ↔ ∃ i, i < k ∧ keep.getD i false = true ∧ L.getD i [] = q
  nodup : l.Nodup
  mem : ∀ x, x ∈ l ↔ ∃ i, i < k ∧ keep.getD i false = true ∧ ∃ p, L.getD i [] = q ++ x :: p
  len : l.length ≤ k

theorem gath_zero (L : List Path) (keep : List Bool) (q : Path) : Gath L keep q 0 false [] :=
  ⟨by simp, List.nodup_nil, by simp, Nat.le_refl _⟩

theorem lt_succ_or {i k : Nat} : i < k + 1 ↔ i < k ∨ i = k := by omega

theorem Gath.skip {L : List Path} {keep : List Bool} {q : Path} {k : Nat} {sf : Bool} {l : Path} (h : Gath L keep q k sf l) (hn : ¬ (keep.getD k false = true ∧ q <+: L.getD k [])) : Gath L keep q (k + 1) sf l := by
  refine ⟨?_, h.nodup, fun x => ?_, by have := h.len; omega⟩
  · rw [h.self]
    constructor
    · rintro ⟨i, hi, a⟩; exact ⟨i, by omega, a⟩
    · rintro ⟨i, hi, a, b⟩
      rcases lt_succ_or.1 hi with h1 | rfl
      · exact ⟨i, h1, a, b⟩
      · exact absurd ⟨a, by rw [b]; exact List.prefix_refl _⟩ hn
  · rw [h.mem]
    constructor
    · rintro ⟨i, hi, a⟩; exact ⟨i, by omega, a⟩
    · rintro ⟨i, hi, a, p, b⟩
      rcases lt_succ_or.1 hi with h1 | rfl
      · exact ⟨i, h1, a, p, b⟩
      · exact absurd ⟨a, by rw [b]; exact List.prefix_append _ _⟩ hn

theorem Gath.hit {L : List Path} {keep : List Bool} {q : Path} {k : Nat} {sf : Bool} {l : Path} (h : Gath L keep q k sf l) (hk : keep.getD k false = true) (he : L.getD k [] = q) : Gath L keep q (k + 1) true l := by
  refine ⟨⟨fun _ => ⟨k, by omega, hk, he⟩, fun _ => rfl⟩, h.nodup, fun x => ?_, by have := h.len; omega⟩
  rw [h.mem]
  constructor
  · rintro ⟨i, hi, a⟩; exact ⟨i, by omega, a⟩
  · rintro ⟨i, hi, a, p, b⟩
    rcases lt_succ_or.1 hi with h1 | rfl
    · exact ⟨i, h1, a, p, b⟩
    · rw [he] at b
      have := congrArg List.length b
      simp at this

theorem Gath.selfStep {L : List Path} {keep : List Bool} {q : Path} {k : Nat} {sf : Bool} {l : Path} (h : Gath L keep q k sf l) {x : Key} {p : Path} (he : L.getD k [] = q ++ x :: p) : sf = true ↔ ∃ i, i < k + 1 ∧ keep.getD i false = true ∧ L.getD i [] = q := by
  rw [h.self]
  constructor
  · rintro ⟨i, hi, a⟩; exact ⟨i, by omega, a⟩
  · rintro ⟨i, hi, a, b⟩
    rcases lt_succ_or.1 hi with h1 | rfl
    · exact ⟨i, h1, a, b⟩
    · rw [he] at b
      have := congrArg List.length b
      simp at this

theorem Gath.old {L : List Path} {keep : List Bool} {q : Path} {k : Nat} {sf : Bool} {l : Path} (h : Gath L keep q k sf l) {x : Key} {p : Path} (he : L.getD k [] = q ++ x :: p) (hx : x ∈ l) : Gath L keep q (k + 1) sf l := by
  refine ⟨h.selfStep he, h.nodup, fun y => ?_, by have := h.len; omega⟩
  constructor
  · intro hy
    obtain ⟨i, hi, a⟩ := (h.mem y).1 hy
    exact ⟨i, by omega, a⟩
  · rintro ⟨i, hi, a, p', b⟩
    rcases lt_succ_or.1 hi with h1 | rfl
    · exact (h.mem y).2 ⟨i, h1, a, p', b⟩
    · rw [he] at b
      have := List.append_cancel_left b
      cases this
      exact hx

theorem Gath.new {L : List Path} {keep : List Bool} {q : Path} {k : Nat} {sf : Bool} {l : Path} (h : Gath L keep q k sf l) (hk : keep.getD k false = true) {x : Key} {p : Path} (he : L.getD k [] = q ++ x :: p) (hx : x ∉ l) : Gath L keep q (k + 1) sf (l ++ [x]) := by
  refine ⟨h.selfStep he, ?_, fun y => ?_, by have := h.len; simp; omega⟩
  · rw [List.nodup_append]
    exact ⟨h.nodup, List.nodup_cons.2 ⟨List.not_mem_nil, List.nodup_nil⟩, fun a ha b hb => by simp at hb; rintro rfl; subst hb; exact hx ha⟩
  · constructor
    · intro hy
      rcases List.mem_append.1 hy with hy | hy
      · obtain ⟨i, hi, a⟩ := (h.mem y).1 hy
        exact ⟨i, by omega, a⟩
      · simp at hy
        subst hy
        exact ⟨k, by omega, hk, p, he⟩
    · rintro ⟨i, hi, a, p', b⟩
      rcases lt_succ_or.1 hi with h1 | rfl
      · exact List.mem_append_left _ ((h.mem y).2 ⟨i, h1, a, p', b⟩)
      · rw [he] at b
        have := List.append_cancel_left b
        cases this
        simp

theorem rds_of_own {w : World} {B : Nat} {v : Value} {l : Path} (h : w.ownsRow B 9 1 v l.length (l.map Value.string)) : ∃ a c, v = .slice a l.length c ∧ RdS w.heap.size w a l.length c l := by
  rcases h.2 with ⟨rfl, h0⟩ | ⟨g, cap, cur, rfl, hb, hg, h1, h2, h3, h4⟩
  · obtain rfl := List.eq_nil_of_length_eq_zero h0
    exact ⟨none, 0, rfl, rdS_nil _ _⟩
  · refine ⟨_, _, rfl, rfl, h1, h2, (fun h => by cases h), fun i hi => ⟨g, 0, rfl, (Array.getElem?_eq_some_iff.1 hg).1, ?_⟩⟩
    rw [cell_of_row w g _ _ 9 (0, 0) hg]
    have e : (cur.toList.take (l.length * 1))[i]? = (l.map Value.string)[i]? := by rw [h4]
    rw [List.getElem?_take_of_lt (by omega)] at e
    simp only [Nat.zero_add, Array.getElem?_toList] at e ⊢
    rw [e]
    simp [hi]

/-- Len of the map, given its keys as a list. -/
theorem len_run {w : World} {mo : Option Nat} {f : Key → Option Nat} (h : MapO w mo f) (l : Path) (hn : l.Nodup) (hl : ∀ k, k ∈ l ↔ (f k).isSome = true) (ty : TypeId) : (Builtin.len_ #[34] ty #[.map mo]).run Try.prog w = .ok (.int .i64 (l.length : Int)) w := by
  cases mo with
  | none =>
    have : l = [] := List.eq_nil_iff_forall_not_mem.2 (fun k hk => by have := (hl k).1 hk; rw [show f k = none from h k] at this; cases this)
    subst this
    exact Maps.len_nil (P := Try.prog) (w := w) (t := 34) Try.underlying34 ty
  | some bm =>
    obtain ⟨N, D, hN, hown, hf⟩ := h
    rw [hown.len (t := 34) Try.underlying34 ty, size_eq_of hown (fun s => (hf s).1) l hn hl]

set_option maxRecDepth 100000 in
set_option maxHeartbeats 3200000 in
theorem nodeRight_true (m b lo hi : Nat) (S : Path → Prop) (a1 a2 a3 : Option Addr) (n1 c1 c2 n3 c3 : Nat) (L : List Path) (keep : List Bool) (q : Path) (w : World) (h0 : Rep m w b lo hi S)
    (r1 : RdP w.heap.size w a1 n1 c1 L) (r2 : RdB w.heap.size w a2 n1 c2 keep) (r3 : RdS w.heap.size w a3 n3 c3 q) (hn : n1 ≤ 1048576)
    (hS : ∀ p, S p ↔ ∃ i, i < n1 ∧ keep.getD i false = true ∧ L.getD i [] = q ++ p) :
    Calls Try.prog 19 #[.pointer (some ⟨b, 0, none⟩), .slice a1 n1 c1, .slice a2 n1 c2, .slice a3 n3 c3] w fun e w' => e = .returned (.bool true) ∧ Below w.heap.size w w' := by
  have hn3 : n3 ≤ 9223372036854775807 := by have := r3.2.1; have := r3.2.2.1; unfold maxLen at *; omega
  obtain ⟨m, rfl⟩ : ∃ m', m = m' + 1 := by cases m with | zero => exact absurd h0 (by simp [Rep]) | succ m => exact ⟨m, rfl⟩
  obtain ⟨self, mo, f, LO, HI, h1, h2, h3, h4, h5, h6, h7, h8, h9⟩ := h0
  have HND : Hid (Node w b self mo) := h1
  have HMO : Hid (MapO w mo f) := h5
  have HBL : Hid (b < w.heap.size) := (Array.getElem?_eq_some_iff.1 h1).1
  have HML : Hid (∀ m, mo = some m → m < w.heap.size) := by
    intro m hm
    subst hm
    obtain ⟨N, D, hN, ⟨es, clock, h1, h2⟩, hf⟩ := h5
    exact (Array.getElem?_eq_some_iff.1 h1).1
  have HSELF : Hid (self = true ↔ ∃ i, i < n1 ∧ keep.getD i false = true ∧ L.getD i [] = q) := by
    show _ ↔ _
    rw [h6, hS]; simp
  have HKEY : Hid (∀ k, (f k).isSome = true ↔ ∃ i, i < n1 ∧ keep.getD i false = true ∧ ∃ p, L.getD i [] = q ++ k :: p) := by
    intro k
    constructor
    · intro h
      obtain ⟨c, hc⟩ := Option.isSome_iff_exists.1 h
      obtain ⟨_, ⟨p, hp⟩, _⟩ := h8 k c hc
      obtain ⟨i, hi, a, e⟩ := (hS _).1 hp
      exact ⟨i, hi, a, p, e⟩
    · rintro ⟨i, hi, a, p, e⟩
      cases hf : f k with
      | some c => rfl
      | none => exact absurd ((hS _).2 ⟨i, hi, a, e⟩) (h7 k hf p)
  clear h1 h2 h3 h4 h5 h6 h7 h8 h9 hS
  have HL3 : Hid (q.length = n3) := r3.1
  have R1 := Lib.hid r1
  have R2 := Lib.hid r2
  have R3 := Lib.hid r3
  clear r1 r2 r3
  obtain ⟨i0, hi0, hz0, hz1, hz2⟩ := info_parts info9
  go_enter Try.func19, Try.ntmps19
  go_wp2_with fail
  go_loopw [9, 10, 11] (fun s v i wr => ∃ (k : Nat) (sf : Bool) (l : Path), k ≤ n1 ∧ i = .int .i64 k ∧ s = .bool sf ∧ Hid (Gath L keep q k sf l) ∧ Hid (wr.ownsRow w.heap.size 9 1 v l.length (l.map Value.string)) ∧ Hid (Below w.heap.size w wr)) (fun _ _ i _ => n1 - (intOf i).toNat)
  case atStart => exact ⟨0, false, [], Nat.zero_le _, rfl, rfl, gath_zero _ _ _, World.ownsRow_nil _ _ _ _, Below.refl _ _⟩
  case round =>
    obtain ⟨k, sf, l, hk, rfl, rfl, HG, HO, HB⟩ := hrel
    by_cases hlt : k < n1
    · obtain ⟨b1, o1, rfl, hb1, hc1⟩ := R1.out.at (by omega)
      obtain ⟨ai, ni, ci, g1', hr1⟩ := hc1 k hlt
      obtain ⟨b2, o2, rfl, hb2, hc2⟩ := R2.out.at (by omega)
      have g2' := hc2 k hlt
      have g1 : wr.cell? ⟨b1, o1 + k, none⟩ = some (.slice ai ni ci) := by rw [HB.out.cell (p := ⟨b1, o1 + k, none⟩) hb1]; exact g1'
      have g2 : wr.cell? ⟨b2, o2 + k, none⟩ = some (.bool (keep.getD k false)) := by rw [HB.out.cell (p := ⟨b2, o2 + k, none⟩) hb2]; exact g2'
      have RI : Hid (RdS w.heap.size wr ai ni ci (L.getD k [])) := hr1.below HB.out
      have R3r : Hid (RdS w.heap.size wr a3 n3 c3 q) := R3.out.below HB.out
      have HNI : Hid ((L.getD k []).length = ni) := hr1.1
      have hni : ni ≤ 9223372036854775807 := by have := hr1.2.1; have := hr1.2.2.1; unfold maxLen at *; omega
      clear hc1 hc2 g1' g2' hr1
      have i0' : (k : Int) < (n1 : Int) := by omega
      obtain ⟨kp, hkp⟩ : ∃ kp, kp = keep.getD k false := ⟨_, rfl⟩
      rw [← hkp] at g2
      have HKP := Lib.hid hkp
      clear hkp
      cases kp with
      | false =>
        have HG2 : Hid (Gath L keep q (k + 1) sf l) := HG.out.skip (fun h => by rw [← HKP.out] at h; cases h.1)
        go_wp2_with fail
        go_roundw
        case rel => exact ⟨k + 1, sf, l, by omega, by go_num, rfl, HG2, HO, HB⟩
        case measure => simp [intOf]; omega
      | true =>
        by_cases hpre : q <+: L.getD k []
        · have HE : Hid (true = true ↔ q <+: L.getD k []) := ⟨fun _ => hpre, fun _ => rfl⟩
          obtain ⟨rest, hrest⟩ := hpre
          cases rest with
          | nil =>
            have he : L.getD k [] = q := by rw [← hrest, List.append_nil]
            have HG2 : Hid (Gath L keep q (k + 1) true l) := HG.out.hit HKP.out.symm he
            have hnn : ni = n3 := by rw [← HNI.out, he, HL3.out]
            subst hnn
            have HRE := Lib.hid hrest
            clear hrest he
            go_wp2_with (go_at_call 22; refine (hasPrefix_is true w.heap.size ai a3 ni ci ni c3 _ q _ RI.out R3r.out HE.out).mono ?_; rintro e w7 ⟨rfl, j1, rfl⟩)
            go_roundw
            case rel => exact ⟨k + 1, true, l, by omega, by go_num, rfl, HG2, HO, ⟨HB.out.os, HB.out.tape, HB.out.output, HB.out.size, HB.out.block⟩⟩
            case measure => simp [intOf]; omega
          | cons x p =>
            have he : L.getD k [] = q ++ x :: p := hrest.symm
            have hnn : ni = n3 + (p.length + 1) := by rw [← HNI.out, he, ← HL3.out]; simp
            have hne : ((ni : Int) == (n3 : Int)) = false := beq_eq_false_iff_ne.2 (by omega)
            have i3 : (n3 : Int) < (ni : Int) := by omega
            obtain ⟨bi, oi, rfl, hbi, hci⟩ := RI.out.at (by omega)
            have g3 := hci n3 (by omega)
            have hx : (L.getD k []).getD n3 ByteArray.empty = x := by
              rw [he, ← HL3.out]; simp
            rw [hx] at g3
            obtain ⟨av, cv, rfl, hrv⟩ := rds_of_own HO.out
            have RV := Lib.hid hrv
            have HHE := Lib.hid he
            have HNN := Lib.hid hnn
            clear hrest he hx hci hnn hrv
            by_cases hmem : x ∈ l
            · have HM : Hid (x ∈ l) := hmem
              have HG2 : Hid (Gath L keep q (k + 1) sf l) := HG.out.old HHE.out hmem
              clear hmem
              go_wp2_with (first
                | (go_at_call 22; refine (hasPrefix_is true w.heap.size _ a3 ni ci n3 c3 _ q _ RI.out R3r.out HE.out).mono ?_; rintro e w7 ⟨rfl, j1, rfl⟩)
                | (go_at_call 23; refine (hasKey_is true wr.heap.size _ _ _ l x _ (RV.out.drewN _) (iff_of_true rfl HM.out)).mono ?_; rintro e w7 ⟨rfl, rfl⟩))
              go_roundw
              case rel => exact ⟨k + 1, sf, l, by omega, by go_num, rfl, HG2, HO, ⟨HB.out.os, HB.out.tape, HB.out.output, HB.out.size, HB.out.block⟩⟩
              case measure => simp [intOf]; omega
            · have HM : Hid (false = true ↔ x ∈ l) := ⟨(fun h => by cases h), fun h => absurd h hmem⟩
              have HG2 : Hid (Gath L keep q (k + 1) sf (l ++ [x])) := HG.out.new HKP.out.symm HHE.out hmem
              have hll := HG.out.len
              have hsz : w.heap.size ≤ wr.heap.size := HB.out.size
              clear hmem
              go_wp2_with (first
                | (go_at_call 22; refine (hasPrefix_is true w.heap.size _ a3 ni ci n3 c3 _ q _ RI.out R3r.out HE.out).mono ?_; rintro e w7 ⟨rfl, j1, rfl⟩)
                | (go_at_call 23; refine (hasKey_is false wr.heap.size _ _ _ l x _ (RV.out.drewN _) HM.out).mono ?_; rintro e w7 ⟨rfl, rfl⟩; refine Hid.out ?_))
              refine Lib.hid ?_
              obtain ⟨w8, hw8⟩ : ∃ x, x = wr.drewN j1 := ⟨_, rfl⟩
              have g18 : w8.cell? ⟨b1, o1 + k, none⟩ = some (.slice (some ⟨bi, oi, none⟩) ni ci) := by rw [hw8]; exact g1
              have g38 : w8.cell? ⟨bi, oi + n3, none⟩ = some (.string x) := by rw [hw8]; exact g3
              have HO8 : Hid (w8.ownsRow w.heap.size 9 1 (.slice av l.length cv) l.length (l.map Value.string)) := by rw [hw8]; exact HO.out
              have HB8 : Hid (Below w.heap.size w w8) := by rw [hw8]; exact ⟨HB.out.os, HB.out.tape, HB.out.output, HB.out.size, HB.out.block⟩
              have hsz8 : w.heap.size ≤ w8.heap.size := HB8.out.size
              rw [← hw8]
              clear hw8 g1 g2 g3 HB HO hsz RV R3r RI
              go_wp2_with (at_builtin; refine wpList_append_own _ rfl _ _ 30 rfl w.heap.size 9 i0 (.string ByteArray.empty) 1 16 Try.underlying30 hi0 hz0 hz1 hz2 rfl (by decide) _ _ _ rfl (HO8.out.alloc _) ⟨w8.heap.size, 0, none⟩ 1 1 [Value.string x] rfl rfl (cell_one_new _ _ _) (by intro u' hu'; simp at hu'; subst hu'; rfl) (by unfold maxLen; omega) (by omega) (by simp; omega) ?_)
              intro v1 w4 hown1 hg1 _
              have HO1 := Lib.hid hown1
              have HB1 : Hid (Below w.heap.size w w4) := (HB8.out.alloc hsz8 _).grown hg1 (by simp; omega) (fun k hk => (HO8.out.lt k hk).1)
              clear hown1 hg1
              go_wp2_with fail
              go_roundw
              case rel =>
                refine ⟨k + 1, sf, l ++ [x], by omega, by go_num, rfl, HG2, ?_, HB1⟩
                have h := HO1.out
                rw [List.length_append, List.map_append]
                exact h
              case measure => simp [intOf]; omega
        · have HE : Hid (false = true ↔ q <+: L.getD k []) := ⟨(fun h => by cases h), fun h => absurd h hpre⟩
          have HG2 : Hid (Gath L keep q (k + 1) sf l) := HG.out.skip (fun h => hpre h.2)
          clear hpre
          go_wp2_with (go_at_call 22; refine (hasPrefix_is false w.heap.size ai a3 ni ci n3 c3 _ q _ RI.out R3r.out HE.out).mono ?_; rintro e w7 ⟨rfl, j1, rfl⟩)
          go_roundw
          case rel => exact ⟨k + 1, sf, l, by omega, by go_num, rfl, HG2, HO, ⟨HB.out.os, HB.out.tape, HB.out.output, HB.out.size, HB.out.block⟩⟩
          case measure => simp [intOf]; omega
    · have hkn : k = n1 := by omega
      subst hkn
      have hsf : sf = self := by
        rw [Bool.eq_iff_iff, HG.out.self, HSELF.out]
      subst hsf
      have hlen := fun ty => len_run (w := wr) (HMO.out.frame (fun m hm => HB.out.block m (HML.out m hm))) l HG.out.nodup (fun k => by rw [HG.out.mem, HKEY.out]) ty
      have HNDr : Hid (Node wr b sf mo) := by show _ = _; rw [HB.out.block b HBL.out]; exact HND.out
      obtain ⟨av, cv, rfl, hrv⟩ := rds_of_own HO.out
      have hll := HG.out.len
      clear hrv
      go_wp2_with (first
        | (go_at_call 13; refine (self_any b sf mo _ HNDr.out).mono ?_; rintro e w7 ⟨rfl, rfl⟩)
        | (go_at_call 14; refine (below_any b sf mo _ HNDr.out).mono ?_; rintro e w7 ⟨rfl, rfl⟩))
      go_ret
      exact ⟨rfl, HB.out⟩

end Go.Proofs.Qxb6628763a
