/-
  SEAT b6628736a. decodesTo (9).
-/
import Derived.Test.Qxb6628736aUv
namespace Go.Proofs.Qxb6628736a
open Go.RowKit

set_option maxHeartbeats 1600000 in
set_option maxRecDepth 100000 in
theorem decodes_any (B : Nat) (ao : Option Addr) (no co : Nat) (a0 : Option Addr) (n0 c0 : Nat) (l0 : List UInt8) (b1 : Option Addr) (m d1 : Nat) (zs : List Nat) (skip : Int) (w : World)
    (ro : Rd B w ao no co (l0 ++ encF skip 0 zs)) (r0 : Rd B w a0 n0 c0 l0) (rq : Rq B w b1 m d1 zs) (hz : ∀ z ∈ zs, z < 18446744073709551616) (hn0 : n0 ≤ 1048576) (hm : m ≤ 1048576) :
    Calls Try.prog 9 #[.slice ao no co, .slice a0 n0 c0, .slice b1 m d1, .int .i64 skip] w fun e w' => e = .returned (.bool true) ∧ ∃ j, w' = w.drewN j := by
  have RO := Lib.hid ro
  have R0 := Lib.hid r0
  have RQ := Lib.hid rq
  have HZ := Lib.hid hz
  have HL0 := Lib.hid r0.1
  have HL1 := Lib.hid rq.1
  have HNO : Hid (no = n0 + (encF skip 0 zs).length) := by have h1 := ro.1; have h2 := r0.1; rw [List.length_append] at h1; show no = _; omega
  have hno2 : n0 ≤ no := by have := HNO.out; omega
  have hno1 : no ≤ n0 + 10 * m := by have := HNO.out; have := encF_le skip zs 0 hz; have := rq.1; omega
  clear ro r0 rq hz
  have hd0 : decide (no < n0) = false := decide_eq_false (by omega)
  go_enter Try.func9, Try.ntmps9
  go_wp2_with fail
  go_loopw [9] (fun i wq => ∃ k2 j : Nat, k2 ≤ n0 ∧ i = .int .i64 k2 ∧ wq = w.drewN j) (fun i _ => n0 - (intOf i).toNat)
  case atStart => exact ⟨0, 0, Nat.zero_le _, rfl, rfl⟩
  case round =>
    obtain ⟨k2, j, hk2, rfl, rfl⟩ := hrel
    by_cases hlt2 : k2 < n0
    · obtain ⟨b0, o0, rfl, hb0, hc0⟩ := R0.out.at (by omega)
      obtain ⟨b2, o2, rfl, hb2, hc2⟩ := RO.out.at (by omega)
      have g0 := hc0 k2 (by omega)
      have g1 := hc2 k2 (by omega)
      clear hc0 hc2
      rw [getD_app_left _ _ _ (by have := HL0.out; omega)] at g1
      obtain ⟨x, hx⟩ : ∃ x : Int, x = ((l0.getD k2 0).toNat : Int) := ⟨_, rfl⟩
      rw [← hx] at g0 g1
      clear hx
      have i2 : (k2 : Int) < (n0 : Int) := by omega
      have i3 : (k2 : Int) < (no : Int) := by omega
      go_wp2_with fail
      go_quiet (fail)
      go_wp2_with fail
      go_roundw
      case rel => exact ⟨k2 + 1, _, by omega, by go_num, rfl⟩
      case measure => simp [intOf]; omega
    · have ROd := Lib.hid (RO.out.drewN j)
      have RQd := Lib.hid (RQ.out.drewN j)
      clear RO RQ R0
      obtain ⟨wz, hwz⟩ : ∃ wz, wz = w.drewN j := ⟨_, rfl⟩
      have HWZ := Lib.hid hwz
      rw [← hwz] at ROd RQd ⊢
      clear hwz
      go_wp2_with fail
      go_loopw [10, 11] (fun v i wq => ∃ k t : Nat, k ≤ m ∧ i = .int .i64 k ∧ v = .int .i64 t ∧ Hid (t = n0 + (encF skip 0 (zs.take k)).length) ∧ wq = wz) (fun _ i _ => m - (intOf i).toNat)
      case atStart => exact ⟨0, n0, Nat.zero_le _, rfl, rfl, rfl, rfl⟩
      case round =>
        obtain ⟨k, t, hk, rfl, rfl, HT, rfl⟩ := hrel
        by_cases hlt : k < m
        · have HLL := HL1.out
          have hsn := encF_snoc skip (zs.take k) 0 (zs.getD k 0)
          rw [← take_snoc zs k (by omega), List.length_take, Nat.min_eq_left (by omega), Nat.zero_add] at hsn
          have hxb : zs.getD k 0 < 18446744073709551616 := HZ.out _ (by
            have e : zs.getD k 0 = zs[k] := by simp [show k < zs.length by omega]
            rw [e]
            exact List.getElem_mem _)
          by_cases hsk : (k : Int) = skip
          · have hne : ((k : Int) == skip) = true := by simp [hsk]
            have HK := Lib.hid hsk
            have HS := Lib.hid hsn
            clear hsk hsn hxb HLL
            go_wp2_with fail
            go_roundw
            case rel =>
              have e := HS.out
              rw [if_pos HK.out, List.append_nil] at e
              exact ⟨k + 1, t, by omega, by go_num, rfl, by rw [e]; exact HT, by trivial⟩
            case measure => simp [intOf]; omega
          · have hne : ((k : Int) == skip) = false := by simp [hsk]
            have hat := encF_at skip zs k (by omega) hsk
            obtain ⟨b, off, rfl, hbB, hc⟩ := RQd.out.at (by omega)
            have g1 := hc k hlt
            clear hc
            obtain ⟨x, hx⟩ : ∃ x : Nat, x = zs.getD k 0 := ⟨_, rfl⟩
            rw [← hx] at g1 hsn hxb hat
            have HK := Lib.hid hsk
            have hup := Lib.uvarint_pos x
            have hnp : 0 < no := by have := HNO.out; rw [hat] at this; simp at this; omega
            obtain ⟨b2, o2, rfl, -, -⟩ := ROd.out.at hnp
            have hu := uvAt_of (p := l0 ++ encF skip 0 (zs.take k)) (z := x) ROd.out (by rw [hat, List.append_assoc]) hxb
            rw [List.length_append, HL0.out, ← HT.out] at hu
            have HU := Lib.hid hu
            have HS := Lib.hid hsn
            have htu : t + (Lib.uvarint x).length ≤ no := hu.room
            clear hsk hsn hat hx hu HLL
            have i1 : (k : Int) < (m : Int) := by omega
            have hxx : ((x : Int) != (x : Int)) = false := by simp
            go_wp2_with (go_at_call 13; refine (read_at b2 o2 no co _ _ t _ _ _ (x : Int) rfl (by omega) HU.out).mono ?_; rintro e w7 ⟨rfl, rfl⟩; refine Hid.out ?_)
            refine Lib.hid ?_
            go_wp2_with fail
            go_roundw
            case rel =>
              have e := HS.out
              rw [if_neg HK.out] at e
              refine ⟨k + 1, t + (Lib.uvarint x).length, by omega, by go_num, by go_num, ?_, by trivial⟩
              show t + (Lib.uvarint x).length = _
              rw [e, List.length_append, HT.out]
              omega
            case measure => simp [intOf]; omega
        · have e1 : zs.take k = zs := List.take_of_length_le (by have := HL1.out; omega)
          have HTN : Hid (t = no) := by have h1 := HT.out; have h2 := HNO.out; rw [e1] at h1; show t = no; omega
          clear e1 HT
          have htn := HTN.out
          subst htn
          clear HTN
          go_wp2_with fail
          go_ret
          exact ⟨rfl, j, HWZ.out⟩

end Go.Proofs.Qxb6628736a
