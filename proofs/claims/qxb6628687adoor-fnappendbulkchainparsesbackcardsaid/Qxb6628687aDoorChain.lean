/-
  SEAT b6628687aD. THE WALK OF FnAppendBulkChainParsesBack (3).
-/
import Derived.Test.Qxb6628687aDoorChainPlain
namespace Go.Proofs.Qxb6628687aDoor
open Go.RowKit

/-- 'AppendBulk' onto what the first one left. -/
theorem bulk_own (w0 : World) (B : Nat) (a : Option Addr) (n k : Nat) (l : List UInt8) (va : Option Addr) (m c : Nat) (v : List UInt8) (w : World)
    (hown : w.ownsRow B 5 1 (.slice a n k) n (Lib.byteCells l)) (hv : Rd B w va m c v) (hn : n ≤ 2097152) (hm : m ≤ 1048576) (hB : w0.heap.size ≤ B) (hBw : B ≤ w.heap.size) (h0 : Below w0.heap.size w0 w)
    (htab : Lib.TabIs Tryd.prog w0 Tryd.tabName .u64 Lib.pow10Tab) :
    Calls Tryd.prog 7 #[.slice a n k, .slice va m c] w fun e w' => ∃ a' n' c', e = .returned (.slice a' n' c') ∧ n' ≤ n + m + 26 ∧ Hid (n' = n + (frame v).length) ∧ Hid (Rd w'.heap.size w' a' n' c' (l ++ frame v)) ∧ Below B w w' := by
  refine (bulk_any B (.slice a n k) n l va m c v w (.inl hown) hv hBw (by omega) hm (fun w' hb => Lib.tabBelow_of_tabIs htab w' (h0.trans (hb.mono hB)))).mono ?_
  rintro e w' ⟨v', rfl, hown, hb⟩
  obtain ⟨a', c', rfl, rd⟩ := rd_of_own hown
  have := frame_le v (by rw [hv.1]; exact hm)
  have := hv.1
  exact ⟨a', _, c', rfl, by omega, rfl, rd, hb⟩

theorem At.drewN {b off n : Nat} {w : World} {i dl m : Nat} {D V : Nat → Int} (h : At b off n w i dl m D V) (j : Nat) : At b off n (w.drewN j) i dl m D V :=
  ⟨h.room, h.pos, h.dollar, h.digit, h.small, h.start, h.stop, h.lead, h.cr, h.lf, h.cr2, h.lf2⟩

/-- bulkFrame's contract at an index that is reckoned. -/
theorem frame_is (b off n c : Nat) (w : World) (z : Int) (i dl m : Nat) (D V : Nat → Int) (hz : z = (i : Int)) (h : At b off n w i dl m D V) (hn : n ≤ 16777216) :
    Calls Tryd.prog 9 #[.slice (some ⟨b, off, none⟩) n c, .int .i64 z] w fun e w' => e = .returned (.tuple #[.int .i64 ((i + 3 + dl : Nat) : Int), .int .i64 ((i + 3 + dl + m : Nat) : Int), .int .i64 ((i + 5 + dl + m : Nat) : Int), .bool true]) ∧ w' = w := by
  subst hz
  exact frame_at b off n c w i dl m D V h hn

set_option maxHeartbeats 3200000 in
theorem walk3 (a0 : Option Addr) (n0 c0 : Nat) (l0 : List UInt8) (a1 : Option Addr) (n1 c1 : Nat) (l1 : List UInt8) (a2 : Option Addr) (n2 c2 : Nat) (l2 : List UInt8) (w : World)
    (r0 : Rd w.heap.size w a0 n0 c0 l0) (r1 : Rd w.heap.size w a1 n1 c1 l1) (r2 : Rd w.heap.size w a2 n2 c2 l2)
    (htab : Lib.TabIs Tryd.prog w Tryd.tabName .u64 Lib.pow10Tab) :
    Calls Tryd.prog 3 #[.slice a0 n0 c0, .slice a1 n1 c1, .slice a2 n2 c2] w fun e w' => e = .returned (.bool true) ∧ Below w.heap.size w w' := by
  have hn0 : n0 ≤ 9223372036854775807 := by have := r0.2.1; have := r0.2.2.1; unfold maxLen at *; omega
  have hn1 : n1 ≤ 9223372036854775807 := by have := r1.2.1; have := r1.2.2.1; unfold maxLen at *; omega
  have hn2 : n2 ≤ 9223372036854775807 := by have := r2.2.1; have := r2.2.2.1; unfold maxLen at *; omega
  have R0 : Hid (Rd w.heap.size w a0 n0 c0 l0) := r0
  have R1 : Hid (Rd w.heap.size w a1 n1 c1 l1) := r1
  have R2 : Hid (Rd w.heap.size w a2 n2 c2 l2) := r2
  have HT : Hid (Lib.TabIs Tryd.prog w Tryd.tabName .u64 Lib.pow10Tab) := htab
  clear r0 r1 r2 htab
  go_enter Tryd.func3, Tryd.ntmps3
  go_wp2_with (go_at_call 5; refine (zz5 _ _ _ _ _ _ _ _ _ _ (by unfold maxLen; omega) (by unfold maxLen; omega) (by unfold maxLen; omega)).mono ?_; rintro e w' ⟨r, rfl, rfl⟩; refine Hid.out ?_)
  refine Lib.hid ?_
  cases r with
  | false =>
    go_wp2_with fail
    go_ret
    exact ⟨rfl, Below.refl _ _⟩
  | true =>
  by_cases h0 : 262144 < n0
  · go_wp2_with fail
    go_ret
    exact ⟨rfl, Below.refl _ _⟩
  by_cases h1 : 262144 < n1
  · go_wp2_with fail
    go_ret
    exact ⟨rfl, Below.refl _ _⟩
  by_cases h2 : 262144 < n2
  · go_wp2_with fail
    go_ret
    exact ⟨rfl, Below.refl _ _⟩
  have k0 : n0 ≤ 262144 := by omega
  have k1 : n1 ≤ 262144 := by omega
  have k2 : n2 ≤ 262144 := by omega
  clear h0 h1 h2
  go_wp2_with (go_at_call 6; refine (clone_any a0 n0 c0 l0 w R0.out (by omega)).mono ?_; rintro e w1 ⟨b0, rfl, rd, hb⟩; refine Hid.out ?_)
  refine Lib.hid ?_
  have B0 : Hid (Rd w1.heap.size w1 b0 n0 n0 l0) := rd
  replace R1 : Hid (Rd w1.heap.size w1 a1 n1 c1 l1) := R1.out.next hb
  replace R2 : Hid (Rd w1.heap.size w1 a2 n2 c2 l2) := R2.out.next hb
  have HB : Hid (Below w.heap.size w w1) := hb
  clear rd hb
  go_wp2_with (go_at_call 6; refine (clone_any a1 n1 c1 l1 w1 R1.out (by omega)).mono ?_; rintro e w2 ⟨b1, rfl, rd, hb⟩; refine Hid.out ?_)
  refine Lib.hid ?_
  have B1 : Hid (Rd w2.heap.size w2 b1 n1 n1 l1) := rd
  replace B0 : Hid (Rd w2.heap.size w2 b0 n0 n0 l0) := B0.out.next hb
  replace R2 : Hid (Rd w2.heap.size w2 a2 n2 c2 l2) := R2.out.next hb
  replace HB : Hid (Below w.heap.size w w2) := chain HB.out hb
  clear rd hb R1
  go_wp2_with (go_at_call 6; refine (clone_any a2 n2 c2 l2 w2 R2.out (by omega)).mono ?_; rintro e w3 ⟨b2, rfl, rd, hb⟩; refine Hid.out ?_)
  refine Lib.hid ?_
  have B2 : Hid (Rd w3.heap.size w3 b2 n2 n2 l2) := rd
  replace B0 : Hid (Rd w3.heap.size w3 b0 n0 n0 l0) := B0.out.next hb
  replace B1 : Hid (Rd w3.heap.size w3 b1 n1 n1 l1) := B1.out.next hb
  replace HB : Hid (Below w.heap.size w w3) := chain HB.out hb
  clear rd hb R2
  go_wp2_with (go_at_call 6; refine (clone_any b0 n0 n0 l0 w3 B0.out (by omega)).mono ?_; rintro e w4 ⟨d0, rfl, rd, hb⟩; refine Hid.out ?_)
  refine Lib.hid ?_
  have D0 : Hid (Rd w4.heap.size w4 d0 n0 n0 l0) := rd
  replace B0 : Hid (Rd w4.heap.size w4 b0 n0 n0 l0) := B0.out.next hb
  replace B1 : Hid (Rd w4.heap.size w4 b1 n1 n1 l1) := B1.out.next hb
  replace B2 : Hid (Rd w4.heap.size w4 b2 n2 n2 l2) := B2.out.next hb
  replace HB : Hid (Below w.heap.size w w4) := chain HB.out hb
  clear rd hb
  go_wp2_with (go_at_call 6; refine (clone_any b1 n1 n1 l1 w4 B1.out (by omega)).mono ?_; rintro e w5 ⟨d1, rfl, rd, hb⟩; refine Hid.out ?_)
  refine Lib.hid ?_
  have D1 : Hid (Rd w5.heap.size w5 d1 n1 n1 l1) := rd
  replace D0 : Hid (Rd w5.heap.size w5 d0 n0 n0 l0) := D0.out.next hb
  replace B0 : Hid (Rd w5.heap.size w5 b0 n0 n0 l0) := B0.out.next hb
  replace B1 : Hid (Rd w5.heap.size w5 b1 n1 n1 l1) := B1.out.next hb
  replace B2 : Hid (Rd w5.heap.size w5 b2 n2 n2 l2) := B2.out.next hb
  replace HB : Hid (Below w.heap.size w w5) := chain HB.out hb
  clear rd hb
  go_wp2_with (go_at_call 6; refine (clone_any b2 n2 n2 l2 w5 B2.out (by omega)).mono ?_; rintro e w6 ⟨d2, rfl, rd, hb⟩; refine Hid.out ?_)
  refine Lib.hid ?_
  have D2 : Hid (Rd w6.heap.size w6 d2 n2 n2 l2) := rd
  replace D1 : Hid (Rd w6.heap.size w6 d1 n1 n1 l1) := D1.out.next hb
  replace D0 : Hid (Rd w6.heap.size w6 d0 n0 n0 l0) := D0.out.next hb
  replace B0 : Hid (Rd w6.heap.size w6 b0 n0 n0 l0) := B0.out.next hb
  replace B1 : Hid (Rd w6.heap.size w6 b1 n1 n1 l1) := B1.out.next hb
  replace B2 : Hid (Rd w6.heap.size w6 b2 n2 n2 l2) := B2.out.next hb
  replace HB : Hid (Below w.heap.size w w6) := chain HB.out hb
  clear rd hb
  -- the first frame
  have HC : Hid (w.heap.size ≤ w6.heap.size) := HB.out.size
  go_wp2_with (go_at_call 7; refine (bulk_full w b0 n0 l0 b1 n1 n1 l1 w6 B0.out B1.out (by omega) (by omega) HB.out HT.out).mono ?_; rintro e w7 ⟨ax, nx, cx, rfl, lx, hnx, RX, OX, hb⟩; refine Hid.out ?_)
  refine Lib.hid ?_
  replace D2 : Hid (Rd w6.heap.size w7 d2 n2 n2 l2) := D2.out.below hb
  replace D1 : Hid (Rd w6.heap.size w7 d1 n1 n1 l1) := D1.out.below hb
  replace D0 : Hid (Rd w6.heap.size w7 d0 n0 n0 l0) := D0.out.below hb
  replace B2 : Hid (Rd w6.heap.size w7 b2 n2 n2 l2) := B2.out.below hb
  replace HB : Hid (Below w.heap.size w w7) := chain HB.out hb
  have hs7 : w6.heap.size ≤ w7.heap.size := hb.size
  clear hb B0 B1 RX
  -- the second frame
  go_wp2_with (go_at_call 7; refine (bulk_own w w6.heap.size ax nx cx (l0 ++ frame l1) b2 n2 n2 l2 w7 OX.out B2.out (by omega) (by omega) HC.out hs7 HB.out HT.out).mono ?_; rintro e w8 ⟨ay, ny, cy, rfl, ly, hny, RY, hb⟩; refine Hid.out ?_)
  refine Lib.hid ?_
  have hs8 : w6.heap.size ≤ w8.heap.size := by have := hb.size; omega
  replace D2 : Hid (Rd w8.heap.size w8 d2 n2 n2 l2) := (D2.out.below hb).mono hs8
  replace D1 : Hid (Rd w8.heap.size w8 d1 n1 n1 l1) := (D1.out.below hb).mono hs8
  replace D0 : Hid (Rd w8.heap.size w8 d0 n0 n0 l0) := (D0.out.below hb).mono hs8
  replace HB : Hid (Below w.heap.size w w8) := HB.out.trans (hb.mono HC.out)
  clear hb B2 OX hs7 hs8
  have HL0 : Hid (l0.length = n0) := D0.out.1
  have HL1 : Hid (l1.length = n1) := D1.out.1
  have HL2 : Hid (l2.length = n2) := D2.out.1
  have hfp := frame_length l1
  have npos : 0 < ny := by have := hny.out; have := hnx.out; omega
  clear hfp
  have clt : ny ≤ cy := RY.out.2.1
  have ccy : cy ≤ 9223372036854775807 := by have := RY.out.2.2.1; unfold maxLen at this; exact this
  obtain ⟨bx, ox, rfl, -, -⟩ := RY.out.at npos
  go_wp2_with (go_at_call 8; refine (hasPrefix_is true w8.heap.size _ d0 ny cy n0 n0 _ l0 w8 RY.out D0.out (decide_eq_true (by rw [List.append_assoc]; exact List.prefix_append _ _))).mono ?_; rintro e w9 ⟨rfl, j1, rfl⟩; refine Hid.out ?_)
  refine Lib.hid ?_
  have A1 := at_of (p := l0) (v := l1) (q := frame l2) RY.out (by rw [List.append_assoc]) (by rw [HL1.out]; omega)
  have A2 := at_of (p := l0 ++ frame l1) (v := l2) (q := []) RY.out (by rw [List.append_nil]) (by rw [HL2.out]; omega)
  have hf1 := frame_length l1
  have hf2 := frame_length l2
  rw [HL0.out] at A1
  rw [List.length_append, HL0.out] at A2
  rw [HL1.out] at A1 hf1
  rw [HL2.out] at A2 hf2
  have P1 : Hid (((l0 ++ frame l1 ++ frame l2).drop (n0 + 3 + (Lib.itoa (n1 : Int)).length)).take n1 = l1) := by
    have := payload l0 l1 (frame l2)
    rw [HL0.out, HL1.out, ← List.append_assoc] at this
    exact this
  have P2 : Hid (((l0 ++ frame l1 ++ frame l2).drop (n0 + (frame l1).length + 3 + (Lib.itoa (n2 : Int)).length)).take n2 = l2) := by
    have := payload (l0 ++ frame l1) l2 []
    rw [List.length_append, HL0.out, HL2.out, List.append_nil] at this
    exact this
  generalize (Lib.itoa (n1 : Int)).length = t1 at *
  generalize (Lib.itoa (n2 : Int)).length = t2 at *
  have AA1 := Lib.hid A1
  have AA2 := Lib.hid A2
  clear A1 A2
  have hny2 : ny = n0 + (5 + t1 + n1) + (5 + t2 + n2) := by have e1 := hny.out; have e2 := hnx.out; omega
  rw [hf1, show n0 + (5 + t1 + n1) = n0 + 5 + t1 + n1 by omega] at P2 AA2
  clear hf1 hf2 hnx hny
  have HN : Hid (ny = n0 + (5 + t1 + n1) + (5 + t2 + n2)) := hny2
  have hk1 : n0 + 5 + t1 + n1 ≤ ny := by omega
  have hk2 : n0 + 5 + t1 + n1 + 5 + t2 + n2 ≤ ny := by omega
  clear hny2
  go_wp2_with (go_at_call 9; refine (frame_at bx ox ny cy _ n0 t1 n1 _ _ (AA1.out.drewN _) (by omega)).mono ?_; rintro e w10 ⟨rfl, rfl⟩; refine Hid.out ?_)
  refine Lib.hid ?_
  have RC1 : Hid (Rd w8.heap.size w8 (some ⟨bx, ox + (n0 + 3 + t1), none⟩) n1 (cy - (n0 + 3 + t1)) l1) := by
    have := RY.out.cut (n0 + 3 + t1) (n0 + 3 + t1 + n1) (by omega) (by omega) n1 (cy - (n0 + 3 + t1)) (by omega) rfl
    rw [show n0 + 3 + t1 + n1 - (n0 + 3 + t1) = n1 by omega, P1.out] at this
    exact this
  go_wp2_with (go_at_call 10; refine (same_is true w8.heap.size _ d1 _ _ n1 n1 _ l1 (w8.drewN j1) (RC1.out.drewN _) (D1.out.drewN _) (decide_eq_true rfl)).mono ?_; rintro e w11 ⟨rfl, j2, rfl⟩; refine Hid.out ?_)
  refine Lib.hid ?_
  clear AA1 RC1 P1
  go_wp2_with (go_at_call 9; refine (frame_is bx ox ny cy _ _ (n0 + 5 + t1 + n1) t2 n2 _ _ (by omega) (AA2.out.drewN _) (by omega)).mono ?_; rintro e w10 ⟨rfl, rfl⟩; refine Hid.out ?_)
  refine Lib.hid ?_
  have RC2 : Hid (Rd w8.heap.size w8 (some ⟨bx, ox + (n0 + 5 + t1 + n1 + 3 + t2), none⟩) n2 (cy - (n0 + 5 + t1 + n1 + 3 + t2)) l2) := by
    have := RY.out.cut (n0 + 5 + t1 + n1 + 3 + t2) (n0 + 5 + t1 + n1 + 3 + t2 + n2) (by omega) (by omega) n2 (cy - (n0 + 5 + t1 + n1 + 3 + t2)) (by omega) rfl
    rw [show n0 + 5 + t1 + n1 + 3 + t2 + n2 - (n0 + 5 + t1 + n1 + 3 + t2) = n2 by omega, P2.out] at this
    exact this
  go_wp2_with (go_at_call 10; refine (same_is true w8.heap.size _ d2 _ _ n2 n2 _ l2 (w8.drewN (j1 + j2)) (RC2.out.drewN _) (D2.out.drewN _) (decide_eq_true rfl)).mono ?_; rintro e w12 ⟨rfl, j3, rfl⟩; refine Hid.out ?_)
  refine Lib.hid ?_
  have hend : ((n0 : Int) + 5 + t1 + n1 + 5 + t2 + n2 == (ny : Int)) = true := by
    have := HN.out
    rw [beq_iff_eq]
    omega
  clear RC2 P2 AA2
  go_wp2
  go_ret
  exact ⟨rfl, below_drewN HB.out _⟩

end Go.Proofs.Qxb6628687aDoor
