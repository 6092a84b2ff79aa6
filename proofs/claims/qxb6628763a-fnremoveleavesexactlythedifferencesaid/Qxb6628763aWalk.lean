/-
  SEAT b6628763a. zzWalk (20).
-/
import Derived.Test.Qxb6628763aNode
namespace Go.Proofs.Qxb6628763a
open Go.RowKit Go.Maps

/-- What a walk along q from a node that holds S comes to. -/
def Found (w : World) (S : Path → Prop) (q : Path) (v : Value) : Prop :=
  (∃ m b lo hi, v = .pointer (some ⟨b, 0, none⟩) ∧ Rep m w b lo hi (fun p => S (q ++ p)) ∧ (q = [] ∨ ∃ p, S (q ++ p))) ∨ (v = .pointer none ∧ ∀ p, ¬ S (q ++ p))

theorem take_snoc (q : Path) (k : Nat) (h : k < q.length) : q.take (k + 1) = q.take k ++ [q.getD k ByteArray.empty] := by
  rw [List.take_succ_eq_append_getElem h]
  simp [h]

set_option maxRecDepth 100000 in
set_option maxHeartbeats 1600000 in
theorem walk_any (B : Nat) (v0 : Value) (a1 : Option Addr) (n1 c1 : Nat) (q : Path) (S : Path → Prop) (w : World) (h0 : Found w S [] v0) (r1 : RdS B w a1 n1 c1 q) (hf : ∀ s ∈ q, s.size ≤ maxLen) :
    Calls Try.prog 20 #[v0, .slice a1 n1 c1] w fun e w' => ∃ v, e = .returned v ∧ Found w S q v ∧ ∃ j, w' = w.drewN j := by
  have hn1 : n1 ≤ 9223372036854775807 := by have := r1.2.1; have := r1.2.2.1; unfold maxLen at *; omega
  have HL1 : Hid (q.length = n1) := r1.1
  have R1 := Lib.hid r1
  have H0 := Lib.hid h0
  have HF := Lib.hid hf
  clear r1 h0 hf
  go_enter Try.func20, Try.ntmps20
  go_wp2_with fail
  go_loopw [5, 6] (fun v i wr => ∃ k j : Nat, k ≤ n1 ∧ i = .int .i64 k ∧ wr = w.drewN j ∧ Hid (Found w S (q.take k) v)) (fun _ i _ => n1 - (intOf i).toNat)
  case atStart => exact ⟨0, 0, Nat.zero_le _, rfl, rfl, by simpa [Hid] using H0⟩
  case round =>
    obtain ⟨k, j, hk, rfl, rfl, HA⟩ := hrel
    by_cases hlt : k < n1
    · rcases HA.out with ⟨m, b, lo, hi, rfl, hrep, hne⟩ | ⟨rfl, hno⟩
      · obtain ⟨m, rfl⟩ : ∃ m', m = m' + 1 := by cases m with | zero => exact absurd hrep (by simp [Rep]) | succ m => exact ⟨m, rfl⟩
        obtain ⟨self, mo, f, LO, HI, h1, h2, h3, h4, h5, h6, h7, h8, h9⟩ := hrep
        obtain ⟨b1, o1, rfl, hb1, hc1⟩ := R1.out.at (by omega)
        have g1 := hc1 k hlt
        clear hc1
        have hkl : k < q.length := by rw [HL1.out]; exact hlt
        obtain ⟨x, hx⟩ : ∃ x : ByteArray, x = q.getD k ByteArray.empty := ⟨_, rfl⟩
        rw [← hx] at g1
        have hxs : x.size ≤ maxLen := HF.out x (by
          have e : q.getD k ByteArray.empty = q[k] := by simp [hkl]
          rw [hx, e]; exact List.getElem_mem _)
        have htk := take_snoc q k hkl
        rw [← hx] at htk
        have HTK := Lib.hid htk
        clear hx htk hkl
        have HND : Hid (Node w b self mo) := h1
        have hlook : ∀ jj, (Instr.lookup 34 (.map mo) (.string x) false).run Try.prog (w.drewN jj) = .ok (ptrOf (f x)) (w.drewN jj) := fun jj => look_run (w := w.drewN jj) (h5.frame (fun _ _ => rfl)) x hxs
        have HFOUND : Hid (Found w S (q.take (k + 1)) (ptrOf (f x))) := by
          show Found _ _ _ _
          rw [HTK.out]
          cases hfx : f x with
          | none =>
            refine .inr ⟨rfl, fun p hp => ?_⟩
            rw [List.append_assoc] at hp
            exact h7 x hfx p hp
          | some c =>
            obtain ⟨r, ⟨p, hp⟩, _⟩ := h8 x c hfx
            refine .inl ⟨m, c, LO x, HI x, rfl, r.congr (fun p => by rw [List.append_assoc]; exact Iff.rfl), .inr ⟨p, by rw [List.append_assoc]; exact hp⟩⟩
        clear h1 h2 h3 h4 h5 h6 h7 h8 h9 hne hxs
        have i1 : (k : Int) < (n1 : Int) := by omega
        generalize ptrOf (f x) = vx at *
        obtain ⟨wr, hwr⟩ : ∃ x, x = w.drewN j := ⟨_, rfl⟩
        have HND2 : Hid (Node wr b self mo) := by rw [hwr]; exact HND.out
        have g2 : wr.cell? ⟨b1, o1 + k, none⟩ = some (.string x) := by rw [hwr]; exact g1
        have hlook2 : ∀ jj, (Instr.lookup 34 (.map mo) (.string x) false).run Try.prog (wr.drewN jj) = .ok vx (wr.drewN jj) := fun jj => by rw [hwr, dd]; exact hlook (j + jj)
        clear hlook g1
        rw [← hwr]
        have HWR := Lib.hid hwr
        clear hwr
        go_wp2_with fail
        go_quiet ((go_at_call 14; exact Calls.quiet_of_same (below_any b self mo _ HND2.out)))
        go_wp2_with fail
        go_roundw
        case rel => exact ⟨k + 1, _, by omega, by go_num, (by rw [HWR.out]; exact dd _ _ _), HFOUND⟩
        case measure => simp [intOf]; omega
      · have HNO : Hid (Found w S q (.pointer none)) := by
          refine .inr ⟨rfl, fun p hp => hno (q.drop k ++ p) ?_⟩
          rw [← List.append_assoc, List.take_append_drop]; exact hp
        clear hno
        go_wp2_with fail
        go_ret
        exact ⟨_, rfl, HNO.out, _, rfl⟩
    · have e : q.take k = q := List.take_of_length_le (by rw [HL1.out]; omega)
      have HA2 := Lib.hid HA.out
      rw [e] at HA2
      clear e
      go_wp2_with fail
      go_ret
      exact ⟨_, rfl, HA2.out, _, rfl⟩

end Go.Proofs.Qxb6628763a
