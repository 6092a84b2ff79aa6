/-
  SEAT b6628736a. THE FUNCTIONS THAT ONLY READ: zzBytes (5, 10), sameBytes (8).
-/
import Derived.Test.Qxb6628736aProg
import Derived.WalkKit
import Derived.WalkSpells
import Derived.WalkSmall
import Derived.Deep.QuietTactic
import Derived.BigQuiet
namespace Go.Proofs.Qxb6628736a
open Go.RowKit

/-- A slice value reads as the bytes l: its cells lie in one block with a number below B. -/
def Rd (B : Nat) (w : World) (a : Option Addr) (n c : Nat) (l : List UInt8) : Prop :=
  l.length = n ∧ n ≤ c ∧ c ≤ maxLen ∧ (a = none → c = 0) ∧
  ∀ i, i < n → ∃ b off, a = some ⟨b, off, none⟩ ∧ b < B ∧ w.cell? ⟨b, off + i, none⟩ = some (.int .u8 ((l.getD i 0).toNat : Int))

theorem Rd.mono {B B' : Nat} {w : World} {a : Option Addr} {n c : Nat} {l : List UInt8} (h : Rd B w a n c l) (hB : B ≤ B') : Rd B' w a n c l := by
  obtain ⟨h1, h2, h3, h4, h5⟩ := h
  refine ⟨h1, h2, h3, h4, fun i hi => ?_⟩
  obtain ⟨b, off, e, hb, hc⟩ := h5 i hi
  exact ⟨b, off, e, by omega, hc⟩

theorem Rd.below {B : Nat} {w w' : World} {a : Option Addr} {n c : Nat} {l : List UInt8} (h : Rd B w a n c l) (hb : Below B w w') : Rd B w' a n c l := by
  obtain ⟨h1, h2, h3, h4, h5⟩ := h
  refine ⟨h1, h2, h3, h4, fun i hi => ?_⟩
  obtain ⟨b, off, e, hlt, hc⟩ := h5 i hi
  exact ⟨b, off, e, hlt, by rw [hb.cell (p := ⟨b, off + i, none⟩) hlt]; exact hc⟩

theorem Rd.drewN {B : Nat} {w : World} {a : Option Addr} {n c : Nat} {l : List UInt8} (h : Rd B w a n c l) (k : Nat) : Rd B (w.drewN k) a n c l := h

/-- The cells under one address, where there is at least one. -/
theorem Rd.at {B : Nat} {w : World} {a : Option Addr} {n c : Nat} {l : List UInt8} (h : Rd B w a n c l) (h0 : 0 < n) :
    ∃ b off, a = some ⟨b, off, none⟩ ∧ b < B ∧ ∀ i, i < n → w.cell? ⟨b, off + i, none⟩ = some (.int .u8 ((l.getD i 0).toNat : Int)) := by
  obtain ⟨h1, h2, h3, h4, h5⟩ := h
  obtain ⟨b, off, rfl, hlt, _⟩ := h5 0 h0
  refine ⟨b, off, rfl, hlt, fun i hi => ?_⟩
  obtain ⟨b', off', e, _, hc⟩ := h5 i hi
  simp only [Option.some.injEq, Addr.mk.injEq] at e
  obtain ⟨rfl, rfl, _⟩ := e
  exact hc

/-- A slice value reads as the numbers l (uint64): its cells lie in one block with a number below B. -/
def Rq (B : Nat) (w : World) (a : Option Addr) (n c : Nat) (l : List Nat) : Prop :=
  l.length = n ∧ n ≤ c ∧ c ≤ maxLen ∧ (a = none → c = 0) ∧
  ∀ i, i < n → ∃ b off, a = some ⟨b, off, none⟩ ∧ b < B ∧ w.cell? ⟨b, off + i, none⟩ = some (.int .u64 ((l.getD i 0 : Nat) : Int))

theorem Rq.mono {B B' : Nat} {w : World} {a : Option Addr} {n c : Nat} {l : List Nat} (h : Rq B w a n c l) (hB : B ≤ B') : Rq B' w a n c l := by
  obtain ⟨h1, h2, h3, h4, h5⟩ := h
  refine ⟨h1, h2, h3, h4, fun i hi => ?_⟩
  obtain ⟨b, off, e, hb, hc⟩ := h5 i hi
  exact ⟨b, off, e, by omega, hc⟩

theorem Rq.below {B : Nat} {w w' : World} {a : Option Addr} {n c : Nat} {l : List Nat} (h : Rq B w a n c l) (hb : Below B w w') : Rq B w' a n c l := by
  obtain ⟨h1, h2, h3, h4, h5⟩ := h
  refine ⟨h1, h2, h3, h4, fun i hi => ?_⟩
  obtain ⟨b, off, e, hlt, hc⟩ := h5 i hi
  exact ⟨b, off, e, hlt, by rw [hb.cell (p := ⟨b, off + i, none⟩) hlt]; exact hc⟩

theorem Rq.drewN {B : Nat} {w : World} {a : Option Addr} {n c : Nat} {l : List Nat} (h : Rq B w a n c l) (k : Nat) : Rq B (w.drewN k) a n c l := h

theorem Rq.at {B : Nat} {w : World} {a : Option Addr} {n c : Nat} {l : List Nat} (h : Rq B w a n c l) (h0 : 0 < n) :
    ∃ b off, a = some ⟨b, off, none⟩ ∧ b < B ∧ ∀ i, i < n → w.cell? ⟨b, off + i, none⟩ = some (.int .u64 ((l.getD i 0 : Nat) : Int)) := by
  obtain ⟨h1, h2, h3, h4, h5⟩ := h
  obtain ⟨b, off, rfl, hlt, _⟩ := h5 0 h0
  refine ⟨b, off, rfl, hlt, fun i hi => ?_⟩
  obtain ⟨b', off', e, _, hc⟩ := h5 i hi
  simp only [Option.some.injEq, Addr.mk.injEq] at e
  obtain ⟨rfl, rfl, _⟩ := e
  exact hc

set_option maxHeartbeats 400000 in
theorem zz5 (a0 a1 : Option Addr) (n0 c0 n1 c1 : Nat) (s k : Int) (w : World) (h0 : n0 ≤ maxLen) (h1 : n1 ≤ maxLen) :
    Calls Try.prog 5 #[.slice a0 n0 c0, .slice a1 n1 c1, .int .i64 s, .int .i64 k] w fun e w' => ∃ r : Bool, e = .returned (.bool r) ∧ w = w' := by
  unfold maxLen at h0 h1
  go_enter Try.func5, Try.ntmps5
  go_wp2
  all_goals (go_ret; exact ⟨_, rfl, rfl⟩)

set_option maxHeartbeats 400000 in
theorem zz10 (a0 a1 : Option Addr) (n0 c0 n1 c1 : Nat) (s : Int) (w : World) (h0 : n0 ≤ maxLen) (h1 : n1 ≤ maxLen) :
    Calls Try.prog 10 #[.slice a0 n0 c0, .slice a1 n1 c1, .int .i64 s] w fun e w' => ∃ r : Bool, e = .returned (.bool r) ∧ w = w' := by
  unfold maxLen at h0 h1
  go_enter Try.func10, Try.ntmps10
  go_wp2
  all_goals (go_ret; exact ⟨_, rfl, rfl⟩)

theorem dd (w : World) (j k : Nat) : (w.drewN j).drewN k = w.drewN (j + k) := by simp

theorem ret_bool {a b : Bool} (h : a = b) : Ending.returned (.bool a) = .returned (.bool b) := by rw [h]

theorem byte_ne {l0 l1 : List UInt8} {k : Nat} {x y : Int} (hx : x = ((l0.getD k 0).toNat : Int)) (hy : y = ((l1.getD k 0).toNat : Int)) : x = y ↔ l0.getD k 0 = l1.getD k 0 := by
  subst hx; subst hy
  constructor
  · intro h
    exact UInt8.toNat_inj.1 (by omega)
  · intro h
    rw [h]

theorem prefix_of_agree {s p : List UInt8} (hl : p.length ≤ s.length) (h : ∀ t, t < p.length → s.getD t 0 = p.getD t 0) : p <+: s := by
  rw [List.prefix_iff_eq_take]
  apply List.ext_getElem
  · simp; omega
  · intro i h1 h2
    have := h i h1
    simp only [List.getD_eq_getElem?_getD] at this
    rw [List.getElem?_eq_getElem (by omega), List.getElem?_eq_getElem h1] at this
    simpa using this.symm

theorem agree_of_prefix {s p : List UInt8} (h : p <+: s) (t : Nat) (ht : t < p.length) : s.getD t 0 = p.getD t 0 := by
  obtain ⟨r, rfl⟩ := h
  simp [List.getElem?_append_left ht]

theorem eq_of_agree {s p : List UInt8} (hl : s.length = p.length) (h : ∀ t, t < s.length → s.getD t 0 = p.getD t 0) : s = p := by
  have := prefix_of_agree (s := s) (p := p) (by omega) (fun t ht => h t (by omega))
  exact (this.eq_of_length hl.symm).symm

set_option maxHeartbeats 800000 in
theorem same_any (B : Nat) (a0 a1 : Option Addr) (n0 c0 n1 c1 : Nat) (s p : List UInt8) (w : World) (r0 : Rd B w a0 n0 c0 s) (r1 : Rd B w a1 n1 c1 p) :
    Calls Try.prog 8 #[.slice a0 n0 c0, .slice a1 n1 c1] w fun e w' => e = .returned (.bool (decide (s = p))) ∧ ∃ j, w' = w.drewN j := by
  have hn0 : n0 ≤ 9223372036854775807 := by have := r0.2.1; have := r0.2.2.1; unfold maxLen at *; omega
  have hn1 : n1 ≤ 9223372036854775807 := by have := r1.2.1; have := r1.2.2.1; unfold maxLen at *; omega
  have HL0 : Hid (s.length = n0) := r0.1
  have HL1 : Hid (p.length = n1) := r1.1
  have R0 : Hid (Rd B w a0 n0 c0 s) := r0
  have R1 : Hid (Rd B w a1 n1 c1 p) := r1
  clear r0 r1
  by_cases hlen : n0 = n1
  · subst hlen
    go_enter Try.func8, Try.ntmps8
    go_wp2
    go_loopw [5] (fun i wr => ∃ k j : Nat, k ≤ n0 ∧ i = .int .i64 k ∧ wr = w.drewN j ∧ Hid (∀ t, t < k → s.getD t 0 = p.getD t 0)) (fun i _ => n0 - (intOf i).toNat)
    case atStart => exact ⟨0, 0, Nat.zero_le _, rfl, rfl, fun t ht => by omega⟩
    case round =>
      obtain ⟨k, j, hk, rfl, rfl, HA⟩ := hrel
      by_cases hlt : k < n0
      · obtain ⟨b0, o0, rfl, hb0, hc0⟩ := R0.out.at (by omega)
        obtain ⟨b1, o1, rfl, hb1, hc1⟩ := R1.out.at (by omega)
        have g0 := hc0 k (by omega)
        have g1 := hc1 k (by omega)
        clear hc0 hc1
        obtain ⟨x, hx⟩ : ∃ x : Int, x = ((s.getD k 0).toNat : Int) := ⟨_, rfl⟩
        obtain ⟨y, hy⟩ : ∃ y : Int, y = ((p.getD k 0).toNat : Int) := ⟨_, rfl⟩
        rw [← hx] at g0
        rw [← hy] at g1
        have HE : Hid (x = y ↔ s.getD k 0 = p.getD k 0) := byte_ne hx hy
        clear hx hy
        have i0 : (k : Int) < (n0 : Int) := by omega
        go_wp2
        go_quiet (fail)
        by_cases hxy : x = y
        · have hne : (x != y) = false := by simp [hxy]
          have HXY : Hid (x = y) := hxy
          clear hxy
          go_wp2
          go_roundw
          case rel =>
            refine ⟨k + 1, _, by omega, by go_num, rfl, fun t ht => ?_⟩
            rcases Nat.lt_or_ge t k with h | h
            · exact HA.out t h
            · obtain rfl : t = k := by omega
              exact HE.out.1 HXY.out
          case measure => simp [intOf]; omega
        · have hne : (x != y) = true := by simp [hxy]
          have HXY : Hid (¬ x = y) := hxy
          clear hxy
          go_wp2
          go_ret
          refine ⟨ret_bool (decide_eq_false (fun h => ?_)).symm, _, dd _ _ _⟩
          exact HXY.out (HE.out.2 (by rw [h]))
      · go_wp2
        go_ret
        refine ⟨ret_bool (decide_eq_true ?_).symm, _, rfl⟩
        refine eq_of_agree (by rw [HL0.out, HL1.out]) (fun t ht => HA.out t ?_)
        have := HL0.out
        omega
  · have hne : ((n0 : Int) != (n1 : Int)) = true := by rw [bne_iff_ne]; omega
    have HN : Hid (¬ n0 = n1) := hlen
    clear hlen
    go_enter Try.func8, Try.ntmps8
    go_wp2
    go_ret
    refine ⟨ret_bool (decide_eq_false (fun h => ?_)).symm, 0, rfl⟩
    have := HL0.out
    have := HL1.out
    rw [h] at *
    exact HN.out (by omega)

end Go.Proofs.Qxb6628736a
