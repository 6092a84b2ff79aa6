/-
  SEAT b6628763a. SLICES OF STRINGS, SLICES OF SUCH SLICES, AND THE FUNCTIONS THAT ONLY READ THEM: zzEq (17), zzHasPrefix (22), zzHasKey (23), zzHasPath (9), zzAnyKept (21).
-/
import Derived.Test.Qxb6628763aProg
import Derived.WalkKit
import Derived.WalkSpells
import Derived.WalkSmall
import Derived.WalkLawsBesides
import Derived.Deep.QuietTactic
import Derived.BigQuiet
import Derived.Lib.Hide
namespace Go.Proofs.Qxb6628763a
open Go.RowKit

/-- A key. -/
abbrev Key := ByteArray
/-- A path. -/
abbrev Path := List ByteArray

/-- A slice value reads as the strings l: its cells lie in one block with a number below B. -/
def RdS (B : Nat) (w : World) (a : Option Addr) (n c : Nat) (l : Path) : Prop :=
  l.length = n ∧ n ≤ c ∧ c ≤ maxLen ∧ (a = none → c = 0) ∧
  ∀ i, i < n → ∃ b off, a = some ⟨b, off, none⟩ ∧ b < B ∧ w.cell? ⟨b, off + i, none⟩ = some (.string (l.getD i ByteArray.empty))

theorem RdS.mono {B B' : Nat} {w : World} {a : Option Addr} {n c : Nat} {l : Path} (h : RdS B w a n c l) (hB : B ≤ B') : RdS B' w a n c l := by
  obtain ⟨h1, h2, h3, h4, h5⟩ := h
  refine ⟨h1, h2, h3, h4, fun i hi => ?_⟩
  obtain ⟨b, off, e, hb, hc⟩ := h5 i hi
  exact ⟨b, off, e, by omega, hc⟩

theorem RdS.below {B : Nat} {w w' : World} {a : Option Addr} {n c : Nat} {l : Path} (h : RdS B w a n c l) (hb : Below B w w') : RdS B w' a n c l := by
  obtain ⟨h1, h2, h3, h4, h5⟩ := h
  refine ⟨h1, h2, h3, h4, fun i hi => ?_⟩
  obtain ⟨b, off, e, hlt, hc⟩ := h5 i hi
  exact ⟨b, off, e, hlt, by rw [hb.cell (p := ⟨b, off + i, none⟩) hlt]; exact hc⟩

theorem RdS.drewN {B : Nat} {w : World} {a : Option Addr} {n c : Nat} {l : Path} (h : RdS B w a n c l) (k : Nat) : RdS B (w.drewN k) a n c l := h

theorem RdS.at {B : Nat} {w : World} {a : Option Addr} {n c : Nat} {l : Path} (h : RdS B w a n c l) (h0 : 0 < n) :
    ∃ b off, a = some ⟨b, off, none⟩ ∧ b < B ∧ ∀ i, i < n → w.cell? ⟨b, off + i, none⟩ = some (.string (l.getD i ByteArray.empty)) := by
  obtain ⟨h1, h2, h3, h4, h5⟩ := h
  obtain ⟨b, off, rfl, hlt, _⟩ := h5 0 h0
  refine ⟨b, off, rfl, hlt, fun i hi => ?_⟩
  obtain ⟨b', off', e, _, hc⟩ := h5 i hi
  simp only [Option.some.injEq, Addr.mk.injEq] at e
  obtain ⟨rfl, rfl, _⟩ := e
  exact hc

theorem RdS.take {B : Nat} {w : World} {a : Option Addr} {n c : Nat} {l : Path} (h : RdS B w a n c l) (k : Nat) (hk : k ≤ n) : RdS B w a k c (l.take k) := by
  obtain ⟨h1, h2, h3, h4, h5⟩ := h
  refine ⟨by simp; omega, by omega, h3, h4, fun i hi => ?_⟩
  obtain ⟨b, off, e, hb, hc⟩ := h5 i (by omega)
  refine ⟨b, off, e, hb, ?_⟩
  rw [hc]
  simp [hi]

theorem rdS_nil (B : Nat) (w : World) : RdS B w none 0 0 [] := ⟨rfl, Nat.le_refl _, by unfold maxLen; omega, fun _ => rfl, fun i hi => absurd hi (by omega)⟩

/-- A slice value reads as the paths L. -/
def RdP (B : Nat) (w : World) (a : Option Addr) (n c : Nat) (L : List Path) : Prop :=
  L.length = n ∧ n ≤ c ∧ c ≤ maxLen ∧ (a = none → c = 0) ∧
  ∀ i, i < n → ∃ b off ai ni ci, a = some ⟨b, off, none⟩ ∧ b < B ∧ w.cell? ⟨b, off + i, none⟩ = some (.slice ai ni ci) ∧ RdS B w ai ni ci (L.getD i [])

theorem RdP.mono {B B' : Nat} {w : World} {a : Option Addr} {n c : Nat} {L : List Path} (h : RdP B w a n c L) (hB : B ≤ B') : RdP B' w a n c L := by
  obtain ⟨h1, h2, h3, h4, h5⟩ := h
  refine ⟨h1, h2, h3, h4, fun i hi => ?_⟩
  obtain ⟨b, off, ai, ni, ci, e, hb, hc, hr⟩ := h5 i hi
  exact ⟨b, off, ai, ni, ci, e, by omega, hc, hr.mono hB⟩

theorem RdP.below {B : Nat} {w w' : World} {a : Option Addr} {n c : Nat} {L : List Path} (h : RdP B w a n c L) (hb : Below B w w') : RdP B w' a n c L := by
  obtain ⟨h1, h2, h3, h4, h5⟩ := h
  refine ⟨h1, h2, h3, h4, fun i hi => ?_⟩
  obtain ⟨b, off, ai, ni, ci, e, hlt, hc, hr⟩ := h5 i hi
  exact ⟨b, off, ai, ni, ci, e, hlt, by rw [hb.cell (p := ⟨b, off + i, none⟩) hlt]; exact hc, hr.below hb⟩

theorem RdP.drewN {B : Nat} {w : World} {a : Option Addr} {n c : Nat} {L : List Path} (h : RdP B w a n c L) (k : Nat) : RdP B (w.drewN k) a n c L := h

theorem RdP.at {B : Nat} {w : World} {a : Option Addr} {n c : Nat} {L : List Path} (h : RdP B w a n c L) (h0 : 0 < n) :
    ∃ b off, a = some ⟨b, off, none⟩ ∧ b < B ∧ ∀ i, i < n → ∃ ai ni ci, w.cell? ⟨b, off + i, none⟩ = some (.slice ai ni ci) ∧ RdS B w ai ni ci (L.getD i []) := by
  obtain ⟨h1, h2, h3, h4, h5⟩ := h
  obtain ⟨b, off, _, _, _, rfl, hlt, _⟩ := h5 0 h0
  refine ⟨b, off, rfl, hlt, fun i hi => ?_⟩
  obtain ⟨b', off', ai, ni, ci, e, _, hc, hr⟩ := h5 i hi
  simp only [Option.some.injEq, Addr.mk.injEq] at e
  obtain ⟨rfl, rfl, _⟩ := e
  exact ⟨ai, ni, ci, hc, hr⟩

theorem dd (w : World) (j k : Nat) : (w.drewN j).drewN k = w.drewN (j + k) := by simp

theorem ret_bool {a b : Bool} (h : a = b) : Ending.returned (.bool a) = .returned (.bool b) := by rw [h]

theorem str_eq (s t : ByteArray) : (s.toList == t.toList) = decide (s = t) := by
  rw [Bool.eq_iff_iff]
  simp only [beq_iff_eq, decide_eq_true_iff]
  constructor
  · intro h
    rw [ByteArray.toList_eq, ByteArray.toList_eq] at h
    exact ByteArray.ext (Array.ext' h)
  · rintro rfl; rfl

theorem prefix_of_agree {s p : Path} (hl : p.length ≤ s.length) (h : ∀ t, t < p.length → s.getD t ByteArray.empty = p.getD t ByteArray.empty) : p <+: s := by
  rw [List.prefix_iff_eq_take]
  apply List.ext_getElem
  · simp; omega
  · intro i h1 h2
    have := h i h1
    simp only [List.getD_eq_getElem?_getD] at this
    rw [List.getElem?_eq_getElem (by omega), List.getElem?_eq_getElem h1] at this
    simpa using this.symm

theorem agree_of_prefix {s p : Path} (h : p <+: s) (t : Nat) (ht : t < p.length) : s.getD t ByteArray.empty = p.getD t ByteArray.empty := by
  obtain ⟨r, rfl⟩ := h
  simp [List.getElem?_append_left ht]

theorem eq_of_agree {s p : Path} (hl : s.length = p.length) (h : ∀ t, t < s.length → s.getD t ByteArray.empty = p.getD t ByteArray.empty) : s = p := by
  have := prefix_of_agree (s := s) (p := p) (by omega) (fun t ht => h t (by omega))
  exact (this.eq_of_length hl.symm).symm

set_option maxHeartbeats 800000 in
theorem hasPrefix_any (B : Nat) (a0 a1 : Option Addr) (n0 c0 n1 c1 : Nat) (s p : Path) (w : World) (r0 : RdS B w a0 n0 c0 s) (r1 : RdS B w a1 n1 c1 p) :
    Calls Try.prog 22 #[.slice a0 n0 c0, .slice a1 n1 c1] w fun e w' => e = .returned (.bool (decide (p <+: s))) ∧ ∃ j, w' = w.drewN j := by
  have hn0 : n0 ≤ 9223372036854775807 := by have := r0.2.1; have := r0.2.2.1; unfold maxLen at *; omega
  have hn1 : n1 ≤ 9223372036854775807 := by have := r1.2.1; have := r1.2.2.1; unfold maxLen at *; omega
  have HL0 : Hid (s.length = n0) := r0.1
  have HL1 : Hid (p.length = n1) := r1.1
  have R0 : Hid (RdS B w a0 n0 c0 s) := r0
  have R1 : Hid (RdS B w a1 n1 c1 p) := r1
  clear r0 r1
  by_cases hlen : n0 < n1
  · go_enter Try.func22, Try.ntmps22
    go_wp2
    go_ret
    refine ⟨ret_bool (decide_eq_false (fun h => ?_)).symm, 0, rfl⟩
    have := h.length_le
    have := HL0.out
    have := HL1.out
    omega
  · have hd : decide (n0 < n1) = false := decide_eq_false hlen
    go_enter Try.func22, Try.ntmps22
    go_wp2
    go_loopw [5] (fun i wr => ∃ k j : Nat, k ≤ n1 ∧ i = .int .i64 k ∧ wr = w.drewN j ∧ Hid (∀ t, t < k → s.getD t ByteArray.empty = p.getD t ByteArray.empty)) (fun i _ => n1 - (intOf i).toNat)
    case atStart => exact ⟨0, 0, Nat.zero_le _, rfl, rfl, fun t ht => by omega⟩
    case round =>
      obtain ⟨k, j, hk, rfl, rfl, HA⟩ := hrel
      by_cases hlt : k < n1
      · obtain ⟨b0, o0, rfl, hb0, hc0⟩ := R0.out.at (by omega)
        obtain ⟨b1, o1, rfl, hb1, hc1⟩ := R1.out.at (by omega)
        have g0 := hc0 k (by omega)
        have g1 := hc1 k (by omega)
        clear hc0 hc1
        obtain ⟨x, hx⟩ : ∃ x : ByteArray, x = s.getD k ByteArray.empty := ⟨_, rfl⟩
        obtain ⟨y, hy⟩ : ∃ y : ByteArray, y = p.getD k ByteArray.empty := ⟨_, rfl⟩
        rw [← hx] at g0
        rw [← hy] at g1
        have HX := Lib.hid hx
        have HY := Lib.hid hy
        clear hx hy
        have i0 : (k : Int) < (n0 : Int) := by omega
        have i1 : (k : Int) < (n1 : Int) := by omega
        by_cases hxy : x = y
        · have hne : (x.toList == y.toList) = true := by rw [str_eq]; exact decide_eq_true hxy
          have HXY := Lib.hid hxy
          clear hxy
          go_wp2
          go_quiet (fail)
          go_wp2
          go_roundw
          case rel =>
            refine ⟨k + 1, _, by omega, by go_num, rfl, fun t ht => ?_⟩
            rcases Nat.lt_or_ge t k with h | h
            · exact HA.out t h
            · obtain rfl : t = k := by omega
              rw [← HX.out, ← HY.out]; exact HXY.out
          case measure => simp [intOf]; omega
        · have hne : (x.toList == y.toList) = false := by rw [str_eq]; exact decide_eq_false hxy
          have HXY := Lib.hid hxy
          clear hxy
          go_wp2
          go_quiet (fail)
          go_wp2
          go_ret
          refine ⟨ret_bool (decide_eq_false (fun h => ?_)).symm, _, dd _ _ _⟩
          exact HXY.out (by rw [HX.out, HY.out]; exact agree_of_prefix h k (by rw [HL1.out]; exact hlt))
      · go_wp2
        go_ret
        refine ⟨ret_bool (decide_eq_true ?_).symm, _, rfl⟩
        refine prefix_of_agree (by rw [HL0.out, HL1.out]; omega) (fun t ht => HA.out t ?_)
        have := HL1.out
        omega

set_option maxHeartbeats 800000 in
theorem eq_any (B : Nat) (a0 a1 : Option Addr) (n0 c0 n1 c1 : Nat) (s p : Path) (w : World) (r0 : RdS B w a0 n0 c0 s) (r1 : RdS B w a1 n1 c1 p) :
    Calls Try.prog 17 #[.slice a0 n0 c0, .slice a1 n1 c1] w fun e w' => e = .returned (.bool (decide (s = p))) ∧ ∃ j, w' = w.drewN j := by
  have hn0 : n0 ≤ 9223372036854775807 := by have := r0.2.1; have := r0.2.2.1; unfold maxLen at *; omega
  have hn1 : n1 ≤ 9223372036854775807 := by have := r1.2.1; have := r1.2.2.1; unfold maxLen at *; omega
  have HL0 : Hid (s.length = n0) := r0.1
  have HL1 : Hid (p.length = n1) := r1.1
  have R0 : Hid (RdS B w a0 n0 c0 s) := r0
  have R1 : Hid (RdS B w a1 n1 c1 p) := r1
  clear r0 r1
  by_cases hlen : n0 = n1
  · subst hlen
    go_enter Try.func17, Try.ntmps17
    go_wp2
    go_loopw [5] (fun i wr => ∃ k j : Nat, k ≤ n0 ∧ i = .int .i64 k ∧ wr = w.drewN j ∧ Hid (∀ t, t < k → s.getD t ByteArray.empty = p.getD t ByteArray.empty)) (fun i _ => n0 - (intOf i).toNat)
    case atStart => exact ⟨0, 0, Nat.zero_le _, rfl, rfl, fun t ht => by omega⟩
    case round =>
      obtain ⟨k, j, hk, rfl, rfl, HA⟩ := hrel
      by_cases hlt : k < n0
      · obtain ⟨b0, o0, rfl, hb0, hc0⟩ := R0.out.at (by omega)
        obtain ⟨b1, o1, rfl, hb1, hc1⟩ := R1.out.at (by omega)
        have g0 := hc0 k (by omega)
        have g1 := hc1 k (by omega)
        clear hc0 hc1
        obtain ⟨x, hx⟩ : ∃ x : ByteArray, x = s.getD k ByteArray.empty := ⟨_, rfl⟩
        obtain ⟨y, hy⟩ : ∃ y : ByteArray, y = p.getD k ByteArray.empty := ⟨_, rfl⟩
        rw [← hx] at g0
        rw [← hy] at g1
        have HX := Lib.hid hx
        have HY := Lib.hid hy
        clear hx hy
        have i0 : (k : Int) < (n0 : Int) := by omega
        have i1 := i0
        by_cases hxy : x = y
        · have hne : (x.toList == y.toList) = true := by rw [str_eq]; exact decide_eq_true hxy
          have HXY := Lib.hid hxy
          clear hxy
          go_wp2
          go_quiet (fail)
          go_wp2
          go_roundw
          case rel =>
            refine ⟨k + 1, _, by omega, by go_num, rfl, fun t ht => ?_⟩
            rcases Nat.lt_or_ge t k with h | h
            · exact HA.out t h
            · obtain rfl : t = k := by omega
              rw [← HX.out, ← HY.out]; exact HXY.out
          case measure => simp [intOf]; omega
        · have hne : (x.toList == y.toList) = false := by rw [str_eq]; exact decide_eq_false hxy
          have HXY := Lib.hid hxy
          clear hxy
          go_wp2
          go_quiet (fail)
          go_wp2
          go_ret
          refine ⟨ret_bool (decide_eq_false (fun h => ?_)).symm, _, dd _ _ _⟩
          exact HXY.out (by rw [HX.out, HY.out]; exact by rw [h])
      · go_wp2
        go_ret
        refine ⟨ret_bool (decide_eq_true ?_).symm, _, rfl⟩
        refine eq_of_agree (by rw [HL0.out, HL1.out]) (fun t ht => HA.out t ?_)
        have := HL0.out
        omega
  · have hne : ((n0 : Int) != (n1 : Int)) = true := by rw [bne_iff_ne]; omega
    have HN : Hid (¬ n0 = n1) := hlen
    clear hlen
    go_enter Try.func17, Try.ntmps17
    go_wp2
    go_ret
    refine ⟨ret_bool (decide_eq_false (fun h => ?_)).symm, 0, rfl⟩
    have := HL0.out
    have := HL1.out
    rw [h] at *
    exact HN.out (by omega)

set_option maxHeartbeats 800000 in
theorem hasKey_is (r : Bool) (B : Nat) (a0 : Option Addr) (n0 c0 : Nat) (s : Path) (y : ByteArray) (w : World) (r0 : RdS B w a0 n0 c0 s) (hr : r = true ↔ y ∈ s) :
    Calls Try.prog 23 #[.slice a0 n0 c0, .string y] w fun e w' => e = .returned (.bool r) ∧ w = w' := by
  have HR := Lib.hid hr
  clear hr
  have hn0 : n0 ≤ 9223372036854775807 := by have := r0.2.1; have := r0.2.2.1; unfold maxLen at *; omega
  have HL0 : Hid (s.length = n0) := r0.1
  have R0 : Hid (RdS B w a0 n0 c0 s) := r0
  clear r0
  go_enter Try.func23, Try.ntmps23
  go_wp2
  go_loop [5] (fun i => ∃ k : Nat, k ≤ n0 ∧ i = .int .i64 k ∧ Hid (∀ t, t < k → s.getD t ByteArray.empty ≠ y)) (fun i => n0 - (intOf i).toNat)
  case atStart => exact ⟨0, Nat.zero_le _, rfl, fun t ht => by omega⟩
  case round =>
    obtain ⟨k, hk, rfl, HA⟩ := hrel
    by_cases hlt : k < n0
    · obtain ⟨b0, o0, rfl, hb0, hc0⟩ := R0.out.at (by omega)
      have g0 := hc0 k (by omega)
      clear hc0
      obtain ⟨x, hx⟩ : ∃ x : ByteArray, x = s.getD k ByteArray.empty := ⟨_, rfl⟩
      rw [← hx] at g0
      have HX := Lib.hid hx
      clear hx
      have i0 : (k : Int) < (n0 : Int) := by omega
      by_cases hxy : x = y
      · have hne : (x.toList == y.toList) = true := by rw [str_eq]; exact decide_eq_true hxy
        have HXY := Lib.hid hxy
        clear hxy
        go_wp2
        go_ret
        refine ⟨ret_bool (HR.out.2 ?_).symm, rfl⟩
        have hk' : k < s.length := by rw [HL0.out]; exact hlt
        have e : s.getD k ByteArray.empty = s[k] := by simp [hk']
        rw [← HXY.out, HX.out, e]
        exact List.getElem_mem _
      · have hne : (x.toList == y.toList) = false := by rw [str_eq]; exact decide_eq_false hxy
        have HXY := Lib.hid hxy
        clear hxy
        go_wp2
        go_round
        case rel =>
          refine ⟨k + 1, by omega, by go_num, fun t ht => ?_⟩
          rcases Nat.lt_or_ge t k with h | h
          · exact HA.out t h
          · obtain rfl : t = k := by omega
            rw [← HX.out]; exact HXY.out
        case measure => simp [intOf]; omega
    · go_wp2
      go_ret
      refine ⟨ret_bool (Bool.eq_false_iff.2 (fun h => ?_)).symm, rfl⟩
      obtain ⟨t, ht, e⟩ := List.getElem_of_mem (HR.out.1 h)
      exact HA.out t (by have := HL0.out; omega) (by simpa [ht] using e)

theorem hasPrefix_is (r : Bool) (B : Nat) (a0 a1 : Option Addr) (n0 c0 n1 c1 : Nat) (s p : Path) (w : World) (r0 : RdS B w a0 n0 c0 s) (r1 : RdS B w a1 n1 c1 p) (h : r = true ↔ p <+: s) :
    Calls Try.prog 22 #[.slice a0 n0 c0, .slice a1 n1 c1] w fun e w' => e = .returned (.bool r) ∧ ∃ j, w' = w.drewN j := by
  have e : decide (p <+: s) = r := by rw [Bool.eq_iff_iff, h]; simp
  rw [← e]
  exact hasPrefix_any B a0 a1 n0 c0 n1 c1 s p w r0 r1

theorem eq_is (r : Bool) (B : Nat) (a0 a1 : Option Addr) (n0 c0 n1 c1 : Nat) (s p : Path) (w : World) (r0 : RdS B w a0 n0 c0 s) (r1 : RdS B w a1 n1 c1 p) (h : r = true ↔ s = p) :
    Calls Try.prog 17 #[.slice a0 n0 c0, .slice a1 n1 c1] w fun e w' => e = .returned (.bool r) ∧ ∃ j, w' = w.drewN j := by
  have e : decide (s = p) = r := by rw [Bool.eq_iff_iff, h]; simp
  rw [← e]
  exact eq_any B a0 a1 n0 c0 n1 c1 s p w r0 r1

/-- A slice value reads as the bools l. -/
def RdB (B : Nat) (w : World) (a : Option Addr) (n c : Nat) (l : List Bool) : Prop :=
  l.length = n ∧ n ≤ c ∧ c ≤ maxLen ∧ (a = none → c = 0) ∧
  ∀ i, i < n → ∃ b off, a = some ⟨b, off, none⟩ ∧ b < B ∧ w.cell? ⟨b, off + i, none⟩ = some (.bool (l.getD i false))

theorem RdB.mono {B B' : Nat} {w : World} {a : Option Addr} {n c : Nat} {l : List Bool} (h : RdB B w a n c l) (hB : B ≤ B') : RdB B' w a n c l := by
  obtain ⟨h1, h2, h3, h4, h5⟩ := h
  refine ⟨h1, h2, h3, h4, fun i hi => ?_⟩
  obtain ⟨b, off, e, hb, hc⟩ := h5 i hi
  exact ⟨b, off, e, by omega, hc⟩

theorem RdB.below {B : Nat} {w w' : World} {a : Option Addr} {n c : Nat} {l : List Bool} (h : RdB B w a n c l) (hb : Below B w w') : RdB B w' a n c l := by
  obtain ⟨h1, h2, h3, h4, h5⟩ := h
  refine ⟨h1, h2, h3, h4, fun i hi => ?_⟩
  obtain ⟨b, off, e, hlt, hc⟩ := h5 i hi
  exact ⟨b, off, e, hlt, by rw [hb.cell (p := ⟨b, off + i, none⟩) hlt]; exact hc⟩

theorem RdB.at {B : Nat} {w : World} {a : Option Addr} {n c : Nat} {l : List Bool} (h : RdB B w a n c l) (h0 : 0 < n) :
    ∃ b off, a = some ⟨b, off, none⟩ ∧ b < B ∧ ∀ i, i < n → w.cell? ⟨b, off + i, none⟩ = some (.bool (l.getD i false)) := by
  obtain ⟨h1, h2, h3, h4, h5⟩ := h
  obtain ⟨b, off, rfl, hlt, _⟩ := h5 0 h0
  refine ⟨b, off, rfl, hlt, fun i hi => ?_⟩
  obtain ⟨b', off', e, _, hc⟩ := h5 i hi
  simp only [Option.some.injEq, Addr.mk.injEq] at e
  obtain ⟨rfl, rfl, _⟩ := e
  exact hc

set_option maxHeartbeats 800000 in
/-- zzHasPath. -/
theorem hasPath_is (r : Bool) (B : Nat) (a0 a1 : Option Addr) (n0 c0 n1 c1 : Nat) (L : List Path) (p : Path) (w : World) (r0 : RdP B w a0 n0 c0 L) (r1 : RdS B w a1 n1 c1 p) (hr : r = true ↔ p ∈ L) :
    Calls Try.prog 9 #[.slice a0 n0 c0, .slice a1 n1 c1] w fun e w' => e = .returned (.bool r) ∧ ∃ j, w' = w.drewN j := by
  have hn0 : n0 ≤ 9223372036854775807 := by have := r0.2.1; have := r0.2.2.1; unfold maxLen at *; omega
  have HR := Lib.hid hr
  have HL0 : Hid (L.length = n0) := r0.1
  have R0 : Hid (RdP B w a0 n0 c0 L) := r0
  have R1 : Hid (RdS B w a1 n1 c1 p) := r1
  clear r0 r1 hr
  go_enter Try.func9, Try.ntmps9
  go_wp2_with fail
  go_loopw [5] (fun i wr => ∃ k j : Nat, k ≤ n0 ∧ i = .int .i64 k ∧ wr = w.drewN j ∧ Hid (∀ t, t < k → L.getD t [] ≠ p)) (fun i _ => n0 - (intOf i).toNat)
  case atStart => exact ⟨0, 0, Nat.zero_le _, rfl, rfl, fun t ht => by omega⟩
  case round =>
    obtain ⟨k, j, hk, rfl, rfl, HA⟩ := hrel
    by_cases hlt : k < n0
    · obtain ⟨b0, o0, rfl, hb0, hc0⟩ := R0.out.at (by omega)
      obtain ⟨ai, ni, ci, g0, hr0⟩ := hc0 k (by omega)
      have RI := Lib.hid hr0
      clear hc0 hr0
      have i0 : (k : Int) < (n0 : Int) := by omega
      by_cases hxy : L.getD k [] = p
      · have HE : Hid (true = true ↔ L.getD k [] = p) := ⟨fun _ => hxy, fun _ => rfl⟩
        have HXY := Lib.hid hxy
        clear hxy
        go_wp2_with (go_at_call 17; refine (eq_is true B ai a1 ni ci n1 c1 _ p _ (RI.out.drewN j) (R1.out.drewN j) HE.out).mono ?_; rintro e w7 ⟨rfl, j1, rfl⟩)
        go_ret
        refine ⟨ret_bool (HR.out.2 ?_).symm, _, rfl⟩
        have hk' : k < L.length := by rw [HL0.out]; exact hlt
        have e : L.getD k [] = L[k] := by simp [hk']
        rw [← HXY.out, e]
        exact List.getElem_mem _
      · have HE : Hid (false = true ↔ L.getD k [] = p) := ⟨(fun h => by cases h), fun h => absurd h hxy⟩
        have HXY := Lib.hid hxy
        clear hxy
        go_wp2_with (go_at_call 17; refine (eq_is false B ai a1 ni ci n1 c1 _ p _ (RI.out.drewN j) (R1.out.drewN j) HE.out).mono ?_; rintro e w7 ⟨rfl, j1, rfl⟩)
        go_roundw
        case rel =>
          refine ⟨k + 1, _, by omega, by go_num, rfl, fun t ht => ?_⟩
          rcases Nat.lt_or_ge t k with h | h
          · exact HA.out t h
          · obtain rfl : t = k := by omega
            exact HXY.out
        case measure => simp [intOf]; omega
    · go_wp2_with fail
      go_ret
      refine ⟨ret_bool (Bool.eq_false_iff.2 (fun h => ?_)).symm, _, rfl⟩
      obtain ⟨t, ht, e⟩ := List.getElem_of_mem (HR.out.1 h)
      exact HA.out t (by have := HL0.out; omega) (by simpa [ht] using e)

set_option maxHeartbeats 800000 in
/-- zzAnyKept. -/
theorem anyKept_is (r : Bool) (B : Nat) (a0 a1 a2 : Option Addr) (n0 c0 c1 n2 c2 : Nat) (L : List Path) (keep : List Bool) (q : Path) (w : World) (r0 : RdP B w a0 n0 c0 L) (r1 : RdB B w a1 n0 c1 keep) (r2 : RdS B w a2 n2 c2 q)
    (hr : r = true ↔ ∃ i, i < n0 ∧ keep.getD i false = true ∧ q <+: L.getD i []) :
    Calls Try.prog 21 #[.slice a0 n0 c0, .slice a1 n0 c1, .slice a2 n2 c2] w fun e w' => e = .returned (.bool r) ∧ ∃ j, w' = w.drewN j := by
  have hn0 : n0 ≤ 9223372036854775807 := by have := r0.2.1; have := r0.2.2.1; unfold maxLen at *; omega
  have HR := Lib.hid hr
  have R0 : Hid (RdP B w a0 n0 c0 L) := r0
  have R1 : Hid (RdB B w a1 n0 c1 keep) := r1
  have R2 : Hid (RdS B w a2 n2 c2 q) := r2
  clear r0 r1 r2 hr
  go_enter Try.func21, Try.ntmps21
  go_wp2_with fail
  go_loopw [7] (fun i wr => ∃ k j : Nat, k ≤ n0 ∧ i = .int .i64 k ∧ wr = w.drewN j ∧ Hid (∀ t, t < k → ¬ (keep.getD t false = true ∧ q <+: L.getD t []))) (fun i _ => n0 - (intOf i).toNat)
  case atStart => exact ⟨0, 0, Nat.zero_le _, rfl, rfl, fun t ht => by omega⟩
  case round =>
    obtain ⟨k, j, hk, rfl, rfl, HA⟩ := hrel
    by_cases hlt : k < n0
    · obtain ⟨b0, o0, rfl, hb0, hc0⟩ := R0.out.at (by omega)
      obtain ⟨ai, ni, ci, g0, hr0⟩ := hc0 k (by omega)
      obtain ⟨b1, o1, rfl, hb1, hc1⟩ := R1.out.at (by omega)
      have g1 := hc1 k (by omega)
      have RI := Lib.hid hr0
      clear hc0 hr0 hc1
      have i0 : (k : Int) < (n0 : Int) := by omega
      obtain ⟨kp, hkp⟩ : ∃ kp, kp = keep.getD k false := ⟨_, rfl⟩
      rw [← hkp] at g1
      have HKP := Lib.hid hkp
      clear hkp
      have hstep : Hid (¬ (kp = true ∧ q <+: L.getD k []) → ∀ t, t < k + 1 → ¬ (keep.getD t false = true ∧ q <+: L.getD t [])) := by
        intro h t ht
        rcases Nat.lt_or_ge t k with h1 | h1
        · exact HA.out t h1
        · obtain rfl : t = k := by omega
          rw [← HKP.out]; exact h
      cases kp with
      | false =>
        have HS := Lib.hid (hstep.out (fun h => by cases h.1))
        go_wp2_with fail
        go_roundw
        case rel => exact ⟨k + 1, _, by omega, by go_num, rfl, HS⟩
        case measure => simp [intOf]; omega
      | true =>
        by_cases hxy : q <+: L.getD k []
        · have HE : Hid (true = true ↔ q <+: L.getD k []) := ⟨fun _ => hxy, fun _ => rfl⟩
          have HRT : Hid (r = true) := HR.out.2 ⟨k, hlt, HKP.out.symm, hxy⟩
          clear hxy
          go_wp2_with (go_at_call 22; refine (hasPrefix_is true B ai a2 ni ci n2 c2 _ q _ (RI.out.drewN j) (R2.out.drewN j) HE.out).mono ?_; rintro e w7 ⟨rfl, j1, rfl⟩)
          go_ret
          exact ⟨ret_bool HRT.out.symm, _, rfl⟩
        · have HE : Hid (false = true ↔ q <+: L.getD k []) := ⟨(fun h => by cases h), fun h => absurd h hxy⟩
          have HS := Lib.hid (hstep.out (fun h => hxy h.2))
          clear hxy
          go_wp2_with (go_at_call 22; refine (hasPrefix_is false B ai a2 ni ci n2 c2 _ q _ (RI.out.drewN j) (R2.out.drewN j) HE.out).mono ?_; rintro e w7 ⟨rfl, j1, rfl⟩)
          go_roundw
          case rel => exact ⟨k + 1, _, by omega, by go_num, rfl, HS⟩
          case measure => simp [intOf]; omega
    · go_wp2_with fail
      go_ret
      refine ⟨ret_bool (Bool.eq_false_iff.2 (fun h => ?_)).symm, _, rfl⟩
      obtain ⟨t, ht, h1, h2⟩ := HR.out.1 h
      exact HA.out t (by omega) ⟨h1, h2⟩

end Go.Proofs.Qxb6628763a
