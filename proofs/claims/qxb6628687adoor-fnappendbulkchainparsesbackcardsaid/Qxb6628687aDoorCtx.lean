/-
  SEAT b6628687aD. THE WALK OF FnAppendBulkContextFreeAndPrefixFree (4).
-/
import Derived.Test.Qxb6628687aDoorPlain
namespace Go.Proofs.Qxb6628687aDoor
open Go.RowKit

theorem Rd.next {w w' : World} {a : Option Addr} {n c : Nat} {l : List UInt8} (h : Rd w.heap.size w a n c l) (hb : Below w.heap.size w w') : Rd w'.heap.size w' a n c l :=
  (h.below hb).mono hb.size

theorem chain {w w1 w2 : World} (h : Below w.heap.size w w1) (k : Below w1.heap.size w1 w2) : Below w.heap.size w w2 := h.trans (k.mono h.size)

theorem frame_le (v : List UInt8) (h : v.length ≤ 1048576) : (frame v).length ≤ v.length + 26 := by
  rw [frame_length]
  have := Lib.itoa_length_le (v.length : Int) (by omega) (by omega)
  omega

theorem Rd.cut {B : Nat} {w : World} {b off n c : Nat} {l : List UInt8} (h : Rd B w (some ⟨b, off, none⟩) n c l) (i e : Nat) (hi : i ≤ e) (he : e ≤ n) (m d : Nat) (hm : m = e - i) (hd : d = c - i) : Rd B w (some ⟨b, off + i, none⟩) m d ((l.drop i).take (e - i)) := by
  obtain ⟨h1, h2, h3, h4, h5⟩ := h
  subst hm hd
  refine ⟨by simp; omega, by omega, by omega, (fun e => by cases e), fun j hj => ?_⟩
  obtain ⟨b', off', eq, hlt, hc⟩ := h5 (i + j) (by omega)
  simp only [Option.some.injEq, Addr.mk.injEq] at eq
  obtain ⟨rfl, rfl, _⟩ := eq
  refine ⟨b, off + i, rfl, hlt, ?_⟩
  rw [Nat.add_assoc, hc]
  simp [hj]

theorem hasPrefix_is (r : Bool) (B : Nat) (a0 a1 : Option Addr) (n0 c0 n1 c1 : Nat) (s p : List UInt8) (w : World) (r0 : Rd B w a0 n0 c0 s) (r1 : Rd B w a1 n1 c1 p) (h : decide (p <+: s) = r) :
    Calls Tryd.prog 8 #[.slice a0 n0 c0, .slice a1 n1 c1] w fun e w' => e = .returned (.bool r) ∧ ∃ j, w' = w.drewN j := by
  subst h
  exact hasPrefix_any B a0 a1 n0 c0 n1 c1 s p w r0 r1

theorem same_is (r : Bool) (B : Nat) (a0 a1 : Option Addr) (n0 c0 n1 c1 : Nat) (s p : List UInt8) (w : World) (r0 : Rd B w a0 n0 c0 s) (r1 : Rd B w a1 n1 c1 p) (h : decide (s = p) = r) :
    Calls Tryd.prog 10 #[.slice a0 n0 c0, .slice a1 n1 c1] w fun e w' => e = .returned (.bool r) ∧ ∃ j, w' = w.drewN j := by
  subst h
  exact same_any B a0 a1 n0 c0 n1 c1 s p w r0 r1

/-- 'AppendBulk' as a law's walk takes it: onto a slice without spare room. -/
theorem bulk_full (w0 : World) (a : Option Addr) (n : Nat) (l : List UInt8) (va : Option Addr) (m c : Nat) (v : List UInt8) (w : World)
    (hr : Rd w.heap.size w a n n l) (hv : Rd w.heap.size w va m c v) (hn : n ≤ 1048576) (hm : m ≤ 1048576) (h0 : Below w0.heap.size w0 w)
    (htab : Lib.TabIs Tryd.prog w0 Tryd.tabName .u64 Lib.pow10Tab) :
    Calls Tryd.prog 7 #[.slice a n n, .slice va m c] w fun e w' => ∃ a' n' c', e = .returned (.slice a' n' c') ∧ n' ≤ n + m + 26 ∧ Hid (n' = n + (frame v).length) ∧ Hid (Rd w'.heap.size w' a' n' c' (l ++ frame v)) ∧ Hid (w'.ownsRow w.heap.size 5 1 (.slice a' n' c') n' (Lib.byteCells (l ++ frame v))) ∧ Below w.heap.size w w' := by
  refine (bulk_any w.heap.size (.slice a n n) n l va m c v w (.inr ⟨a, rfl, hr, rfl⟩) hv (Nat.le_refl _) (by omega) hm (fun w' hb => Lib.tabBelow_of_tabIs htab w' (h0.trans (hb.mono h0.size)))).mono ?_
  rintro e w' ⟨v', rfl, hown, hb⟩
  obtain ⟨a', c', rfl, rd⟩ := rd_of_own hown
  have := frame_le v (by rw [hv.1]; exact hm)
  have := hv.1
  exact ⟨a', _, c', rfl, by omega, rfl, rd, hown, hb⟩

set_option maxHeartbeats 3200000 in
theorem walk4 (a0 : Option Addr) (n0 c0 : Nat) (l0 : List UInt8) (a1 : Option Addr) (n1 c1 : Nat) (l1 : List UInt8) (a2 : Option Addr) (n2 c2 : Nat) (l2 : List UInt8) (w : World)
    (r0 : Rd w.heap.size w a0 n0 c0 l0) (r1 : Rd w.heap.size w a1 n1 c1 l1) (r2 : Rd w.heap.size w a2 n2 c2 l2)
    (htab : Lib.TabIs Tryd.prog w Tryd.tabName .u64 Lib.pow10Tab) :
    Calls Tryd.prog 4 #[.slice a0 n0 c0, .slice a1 n1 c1, .slice a2 n2 c2] w fun e w' => e = .returned (.bool true) ∧ Below w.heap.size w w' := by
  have hn0 : n0 ≤ 9223372036854775807 := by have := r0.2.1; have := r0.2.2.1; unfold maxLen at *; omega
  have hn1 : n1 ≤ 9223372036854775807 := by have := r1.2.1; have := r1.2.2.1; unfold maxLen at *; omega
  have hn2 : n2 ≤ 9223372036854775807 := by have := r2.2.1; have := r2.2.2.1; unfold maxLen at *; omega
  have R0 : Hid (Rd w.heap.size w a0 n0 c0 l0) := r0
  have R1 : Hid (Rd w.heap.size w a1 n1 c1 l1) := r1
  have R2 : Hid (Rd w.heap.size w a2 n2 c2 l2) := r2
  have HT : Hid (Lib.TabIs Tryd.prog w Tryd.tabName .u64 Lib.pow10Tab) := htab
  clear r0 r1 r2 htab
  go_enter Tryd.func4, Tryd.ntmps4
  go_wp2_with (go_at_call 11; refine (zz11 _ _ _ _ _ _ _ _ _ _ (by unfold maxLen; omega) (by unfold maxLen; omega) (by unfold maxLen; omega)).mono ?_; rintro e w' ⟨r, rfl, rfl⟩; refine Hid.out ?_)
  refine Lib.hid ?_
  cases r with
  | false =>
    go_wp2_with fail
    go_ret
    exact ⟨rfl, Below.refl _ _⟩
  | true =>
  by_cases h0 : 262144 < n0
  · go_wp2_with fail
    go_ret
    exact ⟨rfl, Below.refl _ _⟩
  by_cases h1 : 262144 < n1
  · go_wp2_with fail
    go_ret
    exact ⟨rfl, Below.refl _ _⟩
  by_cases h2 : 262144 < n2
  · go_wp2_with fail
    go_ret
    exact ⟨rfl, Below.refl _ _⟩
  have k0 : n0 ≤ 262144 := by omega
  have k1 : n1 ≤ 262144 := by omega
  have k2 : n2 ≤ 262144 := by omega
  clear h0 h1 h2
  go_wp2_with (go_at_call 6; refine (clone_any a0 n0 c0 l0 w R0.out (by omega)).mono ?_; rintro e w1 ⟨b0, rfl, rd, hb⟩; refine Hid.out ?_)
  refine Lib.hid ?_
  have B0 : Hid (Rd w1.heap.size w1 b0 n0 n0 l0) := rd
  replace R1 : Hid (Rd w1.heap.size w1 a1 n1 c1 l1) := R1.out.next hb
  replace R2 : Hid (Rd w1.heap.size w1 a2 n2 c2 l2) := R2.out.next hb
  have HB : Hid (Below w.heap.size w w1) := hb
  clear rd hb
  go_wp2_with (go_at_call 6; refine (clone_any a1 n1 c1 l1 w1 R1.out (by omega)).mono ?_; rintro e w2 ⟨b1, rfl, rd, hb⟩; refine Hid.out ?_)
  refine Lib.hid ?_
  have B1 : Hid (Rd w2.heap.size w2 b1 n1 n1 l1) := rd
  replace B0 : Hid (Rd w2.heap.size w2 b0 n0 n0 l0) := B0.out.next hb
  replace R2 : Hid (Rd w2.heap.size w2 a2 n2 c2 l2) := R2.out.next hb
  replace HB : Hid (Below w.heap.size w w2) := chain HB.out hb
  clear rd hb R1
  go_wp2_with (go_at_call 6; refine (clone_any a2 n2 c2 l2 w2 R2.out (by omega)).mono ?_; rintro e w3 ⟨b2, rfl, rd, hb⟩; refine Hid.out ?_)
  refine Lib.hid ?_
  have B2 : Hid (Rd w3.heap.size w3 b2 n2 n2 l2) := rd
  replace B0 : Hid (Rd w3.heap.size w3 b0 n0 n0 l0) := B0.out.next hb
  replace B1 : Hid (Rd w3.heap.size w3 b1 n1 n1 l1) := B1.out.next hb
  replace HB : Hid (Below w.heap.size w w3) := chain HB.out hb
  clear rd hb R2
  go_wp2_with (go_at_call 6; refine (clone_any b0 n0 n0 l0 w3 B0.out (by omega)).mono ?_; rintro e w4 ⟨d0, rfl, rd, hb⟩; refine Hid.out ?_)
  refine Lib.hid ?_
  have D0 : Hid (Rd w4.heap.size w4 d0 n0 n0 l0) := rd
  replace B0 : Hid (Rd w4.heap.size w4 b0 n0 n0 l0) := B0.out.next hb
  replace B1 : Hid (Rd w4.heap.size w4 b1 n1 n1 l1) := B1.out.next hb
  replace B2 : Hid (Rd w4.heap.size w4 b2 n2 n2 l2) := B2.out.next hb
  replace HB : Hid (Below w.heap.size w w4) := chain HB.out hb
  clear rd hb
  go_wp2_with (go_at_call 6; refine (clone_any b1 n1 n1 l1 w4 B1.out (by omega)).mono ?_; rintro e w5 ⟨d1, rfl, rd, hb⟩; refine Hid.out ?_)
  refine Lib.hid ?_
  have D1 : Hid (Rd w5.heap.size w5 d1 n1 n1 l1) := rd
  replace D0 : Hid (Rd w5.heap.size w5 d0 n0 n0 l0) := D0.out.next hb
  replace B0 : Hid (Rd w5.heap.size w5 b0 n0 n0 l0) := B0.out.next hb
  replace B1 : Hid (Rd w5.heap.size w5 b1 n1 n1 l1) := B1.out.next hb
  replace B2 : Hid (Rd w5.heap.size w5 b2 n2 n2 l2) := B2.out.next hb
  replace HB : Hid (Below w.heap.size w w5) := chain HB.out hb
  clear rd hb
  go_wp2_with (go_at_call 6; refine (clone_any b2 n2 n2 l2 w5 B2.out (by omega)).mono ?_; rintro e w6 ⟨d2, rfl, rd, hb⟩; refine Hid.out ?_)
  refine Lib.hid ?_
  have D2 : Hid (Rd w6.heap.size w6 d2 n2 n2 l2) := rd
  replace D1 : Hid (Rd w6.heap.size w6 d1 n1 n1 l1) := D1.out.next hb
  replace D0 : Hid (Rd w6.heap.size w6 d0 n0 n0 l0) := D0.out.next hb
  replace B0 : Hid (Rd w6.heap.size w6 b0 n0 n0 l0) := B0.out.next hb
  replace B1 : Hid (Rd w6.heap.size w6 b1 n1 n1 l1) := B1.out.next hb
  replace B2 : Hid (Rd w6.heap.size w6 b2 n2 n2 l2) := B2.out.next hb
  replace HB : Hid (Below w.heap.size w w6) := chain HB.out hb
  clear rd hb
  -- x
  go_wp2_with (go_at_call 7; refine (bulk_full w b0 n0 l0 b1 n1 n1 l1 w6 B0.out B1.out (by omega) (by omega) HB.out HT.out).mono ?_; rintro e w7 ⟨ax, nx, cx, rfl, lx, hnx, RX, -, hb⟩; refine Hid.out ?_)
  refine Lib.hid ?_
  replace D2 : Hid (Rd w7.heap.size w7 d2 n2 n2 l2) := D2.out.next hb
  replace D1 : Hid (Rd w7.heap.size w7 d1 n1 n1 l1) := D1.out.next hb
  replace D0 : Hid (Rd w7.heap.size w7 d0 n0 n0 l0) := D0.out.next hb
  replace B1 : Hid (Rd w7.heap.size w7 b1 n1 n1 l1) := B1.out.next hb
  replace B2 : Hid (Rd w7.heap.size w7 b2 n2 n2 l2) := B2.out.next hb
  replace HB : Hid (Below w.heap.size w w7) := chain HB.out hb
  clear hb B0
  have Z7 : Hid (Rd w7.heap.size w7 none 0 0 []) := ⟨rfl, Nat.le_refl _, by unfold maxLen; omega, fun _ => rfl, fun i hi => absurd hi (by omega)⟩
  -- y
  go_wp2_with (go_at_call 7; refine (bulk_full w none 0 [] b1 n1 n1 l1 w7 Z7.out B1.out (by omega) (by omega) HB.out HT.out).mono ?_; rintro e w8 ⟨ay, ny, cy, rfl, ly, hny, RY, -, hb⟩; refine Hid.out ?_)
  refine Lib.hid ?_
  replace D2 : Hid (Rd w8.heap.size w8 d2 n2 n2 l2) := D2.out.next hb
  replace D1 : Hid (Rd w8.heap.size w8 d1 n1 n1 l1) := D1.out.next hb
  replace D0 : Hid (Rd w8.heap.size w8 d0 n0 n0 l0) := D0.out.next hb
  replace B2 : Hid (Rd w8.heap.size w8 b2 n2 n2 l2) := B2.out.next hb
  replace RX : Hid (Rd w8.heap.size w8 ax nx cx (l0 ++ frame l1)) := RX.out.next hb
  replace HB : Hid (Below w.heap.size w w8) := chain HB.out hb
  clear hb B1 Z7
  have Z8 : Hid (Rd w8.heap.size w8 none 0 0 []) := ⟨rfl, Nat.le_refl _, by unfold maxLen; omega, fun _ => rfl, fun i hi => absurd hi (by omega)⟩
  -- z
  go_wp2_with (go_at_call 7; refine (bulk_full w none 0 [] b2 n2 n2 l2 w8 Z8.out B2.out (by omega) (by omega) HB.out HT.out).mono ?_; rintro e w9 ⟨az, nz, cz, rfl, lz, hnz, RZ, -, hb⟩; refine Hid.out ?_)
  refine Lib.hid ?_
  replace D2 : Hid (Rd w9.heap.size w9 d2 n2 n2 l2) := D2.out.next hb
  replace D1 : Hid (Rd w9.heap.size w9 d1 n1 n1 l1) := D1.out.next hb
  replace D0 : Hid (Rd w9.heap.size w9 d0 n0 n0 l0) := D0.out.next hb
  replace RX : Hid (Rd w9.heap.size w9 ax nx cx (l0 ++ frame l1)) := RX.out.next hb
  replace RY : Hid (Rd w9.heap.size w9 ay ny cy (frame l1)) := RY.out.next hb
  replace RZ : Hid (Rd w9.heap.size w9 az nz cz (frame l2)) := RZ.out
  replace HB : Hid (Below w.heap.size w w9) := chain HB.out hb
  clear hb B2 Z8
  have hxy : ((nx : Int) != (n0 : Int) + (ny : Int)) = false := by
    have e1 := hnx.out
    have e2 := hny.out
    simp only [bne_eq_false_iff_eq]
    omega
  have nlt : n0 < nx := by
    have e1 := hnx.out
    have := frame_length l1
    omega
  have clt : n0 < cx := by have := RX.out.2.1; omega
  have ccx : cx ≤ 9223372036854775807 := by have := RX.out.2.2.1; unfold maxLen at this; exact this
  have Hlen : Hid (nx - n0 = ny) := by have e1 := hnx.out; have e2 := hny.out; show nx - n0 = ny; omega
  have HL : Hid (l0.length = n0) := D0.out.1
  clear hnx hny hnz
  obtain ⟨bx, ox, rfl, -, -⟩ := RX.out.at (by omega)
  go_wp2_with (go_at_call 8; refine (hasPrefix_is true w9.heap.size _ d0 nx cx n0 n0 _ l0 w9 RX.out D0.out (decide_eq_true (List.prefix_append _ _))).mono ?_; rintro e w10 ⟨rfl, j1, rfl⟩; refine Hid.out ?_)
  refine Lib.hid ?_
  have RC : Hid (Rd w9.heap.size w9 (some ⟨bx, ox + n0, none⟩) (nx - n0) (cx - n0) (frame l1)) := by
    have := RX.out.cut n0 nx (by omega) (Nat.le_refl _) (nx - n0) (cx - n0) rfl rfl
    have e1 := HL.out
    subst e1
    have e2 := RX.out.1
    simp only [List.drop_left] at this
    rw [List.take_of_length_le (by simp at e2; omega)] at this
    exact this
  go_wp2_with (go_at_call 10; refine (same_is true w9.heap.size _ ay _ _ ny cy _ (frame l1) (w9.drewN j1) (RC.out.drewN _) (RY.out.drewN _) (decide_eq_true rfl)).mono ?_; rintro e w11 ⟨rfl, j2, rfl⟩; refine Hid.out ?_)
  refine Lib.hid ?_
  by_cases heq : l1 = l2
  · have q1 : decide (l1 = l2) = true := decide_eq_true heq
    have q2 : decide (frame l1 <+: frame l2) = true := decide_eq_true (frame_prefix.2 heq)
    have q3 : decide (frame l2 <+: frame l1) = true := decide_eq_true (frame_prefix.2 heq.symm)
    clear heq
    have Q1 := Lib.hid q1
    have Q2 := Lib.hid q2
    have Q3 := Lib.hid q3
    clear q1 q2 q3
    go_wp2_with (go_at_call 10; refine (same_is true w9.heap.size d1 d2 n1 n1 n2 n2 l1 l2 _ (D1.out.drewN _) (D2.out.drewN _) Q1.out).mono ?_; rintro e w12 ⟨rfl, j3, rfl⟩; refine Hid.out ?_)
    refine Lib.hid ?_
    go_wp2_with (go_at_call 8; refine (hasPrefix_is true w9.heap.size az ay nz cz ny cy (frame l2) (frame l1) _ (RZ.out.drewN _) (RY.out.drewN _) Q2.out).mono ?_; rintro e w13 ⟨rfl, j4, rfl⟩; refine Hid.out ?_)
    refine Lib.hid ?_
    go_wp2_with (go_at_call 8; refine (hasPrefix_is true w9.heap.size ay az ny cy nz cz (frame l1) (frame l2) _ (RY.out.drewN _) (RZ.out.drewN _) Q3.out).mono ?_; rintro e w14 ⟨rfl, j5, rfl⟩; refine Hid.out ?_)
    refine Lib.hid ?_
    go_wp2
    go_ret
    exact ⟨rfl, below_drewN HB.out _⟩
  · have q1 : decide (l1 = l2) = false := decide_eq_false heq
    have q2 : decide (frame l1 <+: frame l2) = false := decide_eq_false (fun h => heq (frame_prefix.1 h))
    have q3 : decide (frame l2 <+: frame l1) = false := decide_eq_false (fun h => heq (frame_prefix.1 h).symm)
    clear heq
    have Q1 := Lib.hid q1
    have Q2 := Lib.hid q2
    have Q3 := Lib.hid q3
    clear q1 q2 q3
    go_wp2_with (go_at_call 10; refine (same_is false w9.heap.size d1 d2 n1 n1 n2 n2 l1 l2 _ (D1.out.drewN _) (D2.out.drewN _) Q1.out).mono ?_; rintro e w12 ⟨rfl, j3, rfl⟩; refine Hid.out ?_)
    refine Lib.hid ?_
    go_wp2_with (go_at_call 8; refine (hasPrefix_is false w9.heap.size az ay nz cz ny cy (frame l2) (frame l1) _ (RZ.out.drewN _) (RY.out.drewN _) Q2.out).mono ?_; rintro e w13 ⟨rfl, j4, rfl⟩; refine Hid.out ?_)
    refine Lib.hid ?_
    go_wp2_with (go_at_call 8; refine (hasPrefix_is false w9.heap.size ay az ny cy nz cz (frame l1) (frame l2) _ (RY.out.drewN _) (RZ.out.drewN _) Q3.out).mono ?_; rintro e w14 ⟨rfl, j5, rfl⟩; refine Hid.out ?_)
    refine Lib.hid ?_
    go_wp2
    go_ret
    exact ⟨rfl, below_drewN HB.out _⟩

end Go.Proofs.Qxb6628687aDoor
