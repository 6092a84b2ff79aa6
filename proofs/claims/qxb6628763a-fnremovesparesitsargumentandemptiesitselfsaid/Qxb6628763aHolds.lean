/-
  SEAT b6628763a. zzHoldsExactly (11): true at a node that holds just the kept paths.
-/
import Derived.Test.Qxb6628763aRight
import Derived.Test.Qxb6628763aBytes
namespace Go.Proofs.Qxb6628763a
open Go.RowKit Go.Maps Go.WideMaps

theorem RdB.drewN {B : Nat} {w : World} {a : Option Addr} {n c : Nat} {l : List Bool} (h : RdB B w a n c l) (k : Nat) : RdB B (w.drewN k) a n c l := h

theorem found_start {w wr : World} {m b lo hi : Nat} {S : Path → Prop} (h : Rep m w b lo hi S) (hhi : hi ≤ w.heap.size) (hb : Below w.heap.size w wr) : Found wr S [] (.pointer (some ⟨b, 0, none⟩)) :=
  .inl ⟨m, b, lo, hi, rfl, (h.frame (fun i _ h2 => hb.block i (by omega))).congr (fun p => by simp), .inl rfl⟩

theorem prefix_append_iff {q p : Path} : q <+: p ↔ ∃ r, p = q ++ r := ⟨fun ⟨r, h⟩ => ⟨r, h.symm⟩, fun ⟨r, h⟩ => ⟨r, h.symm⟩⟩

set_option maxRecDepth 100000 in
set_option maxHeartbeats 3200000 in
theorem holdsExactly_true (m b lo hi : Nat) (S : Path → Prop) (a1 a2 : Option Addr) (n1 c1 c2 : Nat) (L : List Path) (keep : List Bool) (w : World) (h0 : Rep m w b lo hi S) (hhi : hi ≤ w.heap.size)
    (r1 : RdP w.heap.size w a1 n1 c1 L) (r2 : RdB w.heap.size w a2 n1 c2 keep) (hsh : Short n1 L) (hfit : Fits L)
    (hS : ∀ p, S p ↔ ∃ i, i < n1 ∧ keep.getD i false = true ∧ L.getD i [] = p) :
    Calls Try.prog 11 #[.pointer (some ⟨b, 0, none⟩), .slice a1 n1 c1, .slice a2 n1 c2] w fun e w' => e = .returned (.bool true) ∧ Below w.heap.size w w' := by
  have H0 := Lib.hid h0
  have R1 := Lib.hid r1
  have R2 := Lib.hid r2
  have HS := Lib.hid hS
  have HF := Lib.hid hfit
  have HHI := Lib.hid hhi
  have HSH := Lib.hid hsh.2
  have hn : n1 ≤ 1048576 := by have := hsh.1; omega
  clear h0 r1 r2 hS hfit hhi hsh
  go_enter Try.func11, Try.ntmps11
  go_wp2_with (go_at_call 19; refine (nodeRight_true m b lo hi S a1 a2 none n1 c1 c2 0 0 L keep [] w H0.out R1.out R2.out (rdS_nil _ _) hn HS.out).mono ?_; rintro e w1 ⟨rfl, hb⟩; refine Hid.out ?_)
  refine Lib.hid ?_
  have HB1 := Lib.hid hb
  clear hb
  go_wp2_with fail
  go_loopw [7] (fun i wr => ∃ (k : Nat), k ≤ n1 ∧ i = .int .i64 k ∧ Hid (Below w.heap.size w wr)) (fun i _ => n1 - (intOf i).toNat)
  case atStart => exact ⟨0, Nat.zero_le _, rfl, HB1⟩
  case round =>
    obtain ⟨k, hk, rfl, HB⟩ := hrel
    by_cases hlt : k < n1
    · obtain ⟨b1, o1, rfl, hb1, hc1⟩ := R1.out.at (by omega)
      obtain ⟨ai, ni, ci, g1', hr1⟩ := hc1 k hlt
      have g1 : wr.cell? ⟨b1, o1 + k, none⟩ = some (.slice ai ni ci) := by rw [HB.out.cell (p := ⟨b1, o1 + k, none⟩) hb1]; exact g1'
      have RI := Lib.hid hr1
      have HNI : Hid ((L.getD k []).length = ni) := hr1.1
      have hni : ni ≤ 65536 := by have := HSH.out k hlt; rw [hr1.1] at this; exact this
      have hci : ni ≤ ci := hr1.2.1
      clear hc1 g1' hr1
      have i0' : (k : Int) < (n1 : Int) := by omega
      have hlL : k < L.length := by rw [R1.out.1]; exact hlt
      have HFK : Hid (∀ s ∈ L.getD k [], s.size ≤ maxLen) := HF.out _ (by
        have e : L.getD k [] = L[k] := by simp [hlL]
        rw [e]; exact List.getElem_mem _)
      clear hlL
      go_wp2_with fail
      go_loopw [9] (fun i wx => ∃ (d : Nat), 1 ≤ d ∧ d ≤ ni + 1 ∧ i = .int .i64 d ∧ Hid (Below w.heap.size w wx)) (fun i _ => ni + 1 - (intOf i).toNat)
      case atStart => exact ⟨1, Nat.le_refl _, by omega, rfl, HB⟩
      case round =>
        obtain ⟨d, hd1, hd, rfl, HBx⟩ := hrel
        by_cases hdl : d ≤ ni
        · obtain ⟨bi, oi, rfl, hbi, _⟩ := RI.out.at (by omega)
          have i2 : (d : Int) ≤ (ci : Int) := by omega
          have i3 : (d : Int) ≤ (ni : Int) := by omega
          have HNE : Hid ((L.getD k []).take d ≠ []) := by
            intro h
            have := congrArg List.length h
            rw [List.length_take, HNI.out] at this
            simp at this
            omega
          have HFS : Hid (Found wr S [] (.pointer (some ⟨b, 0, none⟩))) := found_start H0.out HHI.out HBx.out
          have RQ : Hid (RdS w.heap.size wr (some ⟨bi, oi, none⟩) d ci ((L.getD k []).take d)) := (RI.out.take d hdl).below HBx.out
          have HFQ : Hid (∀ s ∈ (L.getD k []).take d, s.size ≤ maxLen) := fun s hs => HFK.out s (List.mem_of_mem_take hs)
          have R1x : Hid (RdP w.heap.size wr (some ⟨b1, o1, none⟩) n1 c1 L) := R1.out.below HBx.out
          have R2x : Hid (RdB w.heap.size wr a2 n1 c2 keep) := R2.out.below HBx.out
          have hszx : w.heap.size ≤ wr.heap.size := HBx.out.size
          generalize (L.getD k []).take d = q at *
          go_wp2_with (go_at_call 20; refine (walk_any w.heap.size _ _ d ci q S wr HFS.out RQ.out HFQ.out).mono ?_; rintro e w7 ⟨v, rfl, hfound, j7, rfl⟩; refine Hid.out ?_)
          refine Lib.hid ?_
          rcases hfound with ⟨m7, b7, lo7, hi7, rfl, hrep, hq⟩ | ⟨rfl, hno⟩
          · have HREP : Hid (Rep m7 wr b7 lo7 hi7 (fun p => S (q ++ p))) := hrep
            have HAK : Hid (∃ i, i < n1 ∧ keep.getD i false = true ∧ q <+: L.getD i []) := by
              rcases hq with h | ⟨p, hp⟩
              · exact absurd h HNE.out
              · obtain ⟨i, hi, hk, e⟩ := (HS.out _).1 hp
                exact ⟨i, hi, hk, by rw [e]; exact List.prefix_append _ _⟩
            have HSQ : Hid (∀ p, S (q ++ p) ↔ ∃ i, i < n1 ∧ keep.getD i false = true ∧ L.getD i [] = q ++ p) := fun p => HS.out _
            clear hrep hq
            go_wp2_with (go_at_call 21; refine (anyKept_is true w.heap.size _ _ _ _ _ _ _ _ L keep q _ (R1x.out.drewN _) (R2x.out.drewN _) (RQ.out.drewN _) (iff_of_true rfl HAK.out)).mono ?_; rintro e w8 ⟨rfl, j8, rfl⟩; refine Hid.out ?_)
            refine Lib.hid ?_
            obtain ⟨wy, hwy⟩ : ∃ x, x = (wr.drewN j7).drewN j8 := ⟨_, rfl⟩
            have hwy2 : wy = wr.drewN (j7 + j8) := by rw [hwy]; exact dd _ _ _
            have HRY : Hid (Rep m7 wy b7 lo7 hi7 (fun p => S (q ++ p))) := by rw [hwy]; exact HREP.out.frame (fun _ _ _ => rfl)
            have hsy : wy.heap.size = wr.heap.size := by rw [hwy]; rfl
            have R1y : Hid (RdP wy.heap.size wy (some ⟨b1, o1, none⟩) n1 c1 L) := by rw [hwy]; exact (R1x.out.mono hszx)
            have R2y : Hid (RdB wy.heap.size wy a2 n1 c2 keep) := by rw [hwy]; exact (R2x.out.mono hszx)
            have RQy : Hid (RdS wy.heap.size wy (some ⟨bi, oi, none⟩) d ci q) := by rw [hwy]; exact (RQ.out.mono hszx)
            have HBy : Hid (Below w.heap.size w wy) := by rw [hwy]; exact ⟨HBx.out.os, HBx.out.tape, HBx.out.output, HBx.out.size, HBx.out.block⟩
            have HSY : Hid (w.heap.size ≤ wy.heap.size) := HBy.out.size
            first | rw [← hwy] | rw [← hwy2]
            clear hwy hwy2 hsy g1
            go_wp2_with (go_at_call 19; refine (nodeRight_true m7 b7 lo7 hi7 (fun p => S (q ++ p)) _ _ _ _ _ _ _ _ L keep q wy HRY.out R1y.out R2y.out RQy.out hn HSQ.out).mono ?_; rintro e w9 ⟨rfl, hb9⟩; refine Hid.out ?_)
            refine Lib.hid ?_
            have HB9 : Hid (Below w.heap.size w w9) := HBy.out.trans (hb9.mono HSY.out)
            clear hb9
            go_wp2_with fail
            go_roundw
            case rel => exact ⟨d + 1, by omega, by omega, by go_num, HB9⟩
            case measure => simp [intOf]; omega
          · have HAK : Hid (¬ ∃ i, i < n1 ∧ keep.getD i false = true ∧ q <+: L.getD i []) := by
              rintro ⟨i, hi, hk, p, hp⟩
              exact hno p ((HS.out _).2 ⟨i, hi, hk, hp.symm⟩)
            clear hno
            go_wp2_with (go_at_call 21; refine (anyKept_is false w.heap.size _ _ _ _ _ _ _ _ L keep q _ (R1x.out.drewN _) (R2x.out.drewN _) (RQ.out.drewN _) (iff_of_false Bool.false_ne_true HAK.out)).mono ?_; rintro e w8 ⟨rfl, j8, rfl⟩; refine Hid.out ?_)
            refine Lib.hid ?_
            go_wp2_with fail
            go_roundw
            case rel => exact ⟨d + 1, by omega, by omega, by go_num, ⟨HBx.out.os, HBx.out.tape, HBx.out.output, HBx.out.size, HBx.out.block⟩⟩
            case measure => simp [intOf]; omega
        · have i3 : decide ((d : Int) ≤ (ni : Int)) = false := decide_eq_false (by omega)
          go_wp2_with fail
          go_roundw
          case rel => exact ⟨k + 1, by omega, by go_num, HBx⟩
          case measure => simp [intOf]; omega
    · go_wp2_with fail
      go_ret
      exact ⟨rfl, HB.out⟩

end Go.Proofs.Qxb6628763a
