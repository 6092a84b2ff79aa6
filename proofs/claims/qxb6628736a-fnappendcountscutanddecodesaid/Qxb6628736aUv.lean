/-
  SEAT b6628736a. readUvarint (13), where a varint stands.
-/
import Derived.Test.Qxb6628736aSkip
import Derived.Lib.VarintBits
namespace Go.Proofs.Qxb6628736a
open Go.RowKit

/-- What the walk asks of the bytes: a varint of len bytes stands at pos; V k: what the first k bytes spell. -/
structure UvAt (b off n : Nat) (w : World) (pos len : Nat) (C V : Nat → Int) (z : Int) : Prop where
  room : pos + len ≤ n
  pos1 : 1 ≤ len
  ten : len ≤ 10
  cell : ∀ k, k < len → w.cell? ⟨b, off + (pos + k), none⟩ = some (.int .u8 (C k))
  last : ∀ k, k + 1 = len → 0 ≤ C k ∧ C k < 128
  more : ∀ k, k + 1 < len → 128 ≤ C k ∧ C k < 256
  step : ∀ k, k < len → bits .or .u64 (V k) (IntKind.u64.wrap (IntKind.u64.wrap (bits .and .u8 (C k) 127) * 2 ^ (7 * k))) = V (k + 1)
  start : V 0 = 0
  stop : V len = z

set_option maxHeartbeats 1600000 in
set_option maxRecDepth 100000 in
theorem read_at (b off n c : Nat) (w : World) (p : Int) (pos len : Nat) (C V : Nat → Int) (z : Int) (hp : p = (pos : Int)) (hn : n ≤ 16777216) (h : UvAt b off n w pos len C V z) :
    Calls Try.prog 13 #[.slice (some ⟨b, off, none⟩) n c, .int .i64 p] w fun e w' => e = .returned (.tuple #[.int .u64 z, .int .i64 ((pos + len : Nat) : Int), .bool true]) ∧ w' = w := by
  subst hp
  have H := Lib.hid h
  have hroom := h.room
  have hpos := h.pos1
  have hlen := h.ten
  clear h
  go_enter Try.func13, Try.ntmps13
  go_wp2
  go_loop [1, 7, 8, 9] (fun p x s j => ∃ k : Nat, k < len ∧ p = .int .i64 ((pos : Int) + k) ∧ x = .int .u64 (V k) ∧ s = .int .u64 ((7 * k : Nat) : Int) ∧ j = .int .i64 k) (fun _ _ _ j => 10 - (intOf j).toNat)
  case atStart => exact ⟨0, by omega, by simp, by rw [H.out.start], rfl, rfl⟩
  case round =>
    obtain ⟨k, hk, rfl, rfl, rfl, rfl⟩ := hrel
    have g1 := H.out.cell k hk
    have hst := H.out.step k hk
    have i1 : (pos : Int) + (k : Int) < (n : Int) := by omega
    have hk10 : (k : Int) < 10 := by omega
    have hd : decide ((n : Int) ≤ (pos : Int) + (k : Int)) = false := decide_eq_false (by omega)
    by_cases hl : k + 1 = len
    · obtain ⟨hx0, hx1⟩ := H.out.last k hl
      have hz := H.out.stop
      rw [← hl] at hz
      rw [hz] at hst
      clear hz
      generalize C k = x at *
      generalize V k = y at *
      have HL := Lib.hid hl
      clear hl
      go_wp2
      refine bodyPost_ret (v := .tuple #[.int .u64 z, .int .i64 ((pos : Int) + k + 1), .bool true]) (by simp [results, Try.results13, go_sem]) rfl ⟨?_, rfl⟩
      have e : (pos : Int) + k + 1 = (pos : Int) + len := by have := HL.out; omega
      rw [e]
    · obtain ⟨hx0, hx1⟩ := H.out.more k (by omega)
      generalize C k = x at *
      generalize V k = y at *
      generalize hv2 : V (k + 1) = y2 at *
      have HV2 := Lib.hid hv2
      clear hv2
      go_wp2
      go_round
      case rel =>
        exact ⟨k + 1, by omega, by go_num, by rw [HV2.out], by go_num, by go_num⟩
      case measure => simp [intOf]; omega

/-! ### The plain part -/

theorem uv_lt (z : Nat) : z < 128 ^ (Lib.uvarint z).length := by
  induction z using Nat.strongRecOn with
  | _ z ih =>
    by_cases h : z < 128
    · rw [Lib.uvarint_small h]; simpa using h
    · rw [Lib.uvarint_big (by omega), List.length_cons, Nat.pow_succ]
      have := ih (z / 128) (by omega)
      omega

theorem u8_nat (d : Nat) (h : d < 256) : (d.toUInt8).toNat = d := by
  show (UInt8.ofNat d).toNat = d
  rw [UInt8.toNat_ofNat']
  omega

theorem uv_byte (z k : Nat) (hk : k < (Lib.uvarint z).length) : ((Lib.uvarint z).getD k 0).toNat = z / 128 ^ k % 128 + if k + 1 = (Lib.uvarint z).length then 0 else 128 := by
  induction z using Nat.strongRecOn generalizing k with
  | _ z ih =>
    by_cases h : z < 128
    · rw [Lib.uvarint_small h] at hk ⊢
      have hk0 : k = 0 := by simpa using hk
      subst hk0
      simp only [List.getD_cons_zero, List.length_singleton, Nat.pow_zero, Nat.div_one, if_true]
      rw [u8_nat z (by omega)]
      omega
    · rw [Lib.uvarint_big (by omega)] at hk ⊢
      rw [List.length_cons] at hk ⊢
      have hp := Lib.uvarint_pos (z / 128)
      cases k with
      | zero =>
        simp only [List.getD_cons_zero, Nat.pow_zero, Nat.div_one]
        rw [u8_nat _ (by omega), if_neg (by omega)]
      | succ k =>
        simp only [List.getD_cons_succ]
        rw [ih (z / 128) (by omega) k (by omega), Nat.pow_succ, Nat.div_div_eq_div_mul, Nat.mul_comm 128]
        congr 1
        by_cases h2 : k + 1 = (Lib.uvarint (z / 128)).length
        · rw [if_pos h2, if_pos (by omega)]
        · rw [if_neg h2, if_neg (by omega)]

theorem or_step (z k : Nat) (hz : z < 18446744073709551616) (c : Int) (h0 : 0 ≤ c) (h1 : c < 256) (hc : c % 128 = ((z / 128 ^ k % 128 : Nat) : Int)) :
    bits .or .u64 ((z % 128 ^ k : Nat) : Int) (IntKind.u64.wrap (IntKind.u64.wrap (bits .and .u8 c 127) * 2 ^ (7 * k))) = ((z % 128 ^ (k + 1) : Nat) : Int) := by
  have e7 : (2 : Nat) ^ (7 * k) = 128 ^ k := by rw [Nat.pow_mul]
  have e7i : (2 : Int) ^ (7 * k) = ((128 ^ k : Nat) : Int) := by rw [← e7]; push_cast; rfl
  have hpos : 0 < 128 ^ k := Nat.pow_pos (by decide)
  have hle : (z / 128 ^ k % 128) * 128 ^ k ≤ z := Nat.le_trans (Nat.mul_le_mul_right _ (Nat.mod_le _ _)) (Nat.div_mul_le_self z (128 ^ k))
  have hmod : z % 128 ^ (k + 1) = z % 128 ^ k + (z / 128 ^ k % 128) * 128 ^ k := by
    rw [Nat.pow_succ, Nat.mod_mul, Nat.mul_comm (128 ^ k)]
  have hlt : z % 128 ^ k < 128 ^ k := Nat.mod_lt _ hpos
  have hzm : z % 128 ^ k ≤ z := Nat.mod_le _ _
  rw [u8_and127 c h0 h1, hc, e7i]
  rw [IntKind.wrap_u64, IntKind.wrap_u64]
  generalize hD : z / 128 ^ k % 128 = D at *
  have hD2 : D < 128 := by rw [← hD]; exact Nat.mod_lt _ (by decide)
  have e1 : ((D : Nat) : Int) % 18446744073709551616 = D := by omega
  rw [e1, ← Int.natCast_mul]
  have e2 : ((D * 128 ^ k : Nat) : Int) % 18446744073709551616 = ((D * 128 ^ k : Nat) : Int) := by omega
  rw [e2]
  rw [bits_join_low .u64 64 (by decide) wraps_u64 (7 * k) _ _ (by omega) (by rw [e7i]; omega) (by omega) (by omega) (by rw [e7i]; rw [← Int.natCast_emod]; simp) (by omega)]
  rw [hmod]
  omega

theorem getD_app (p r : List UInt8) (j : Nat) : (p ++ r).getD (p.length + j) 0 = r.getD j 0 := by
  simp [List.getD_eq_getElem?_getD, List.getElem?_append_right]

theorem uvAt_of {B : Nat} {w : World} {b off n c : Nat} {p q L : List UInt8} {z : Nat} (h : Rd B w (some ⟨b, off, none⟩) n c L) (hL : L = p ++ (Lib.uvarint z ++ q)) (hz : z < 18446744073709551616) :
    UvAt b off n w p.length (Lib.uvarint z).length (fun k => (((Lib.uvarint z).getD k 0).toNat : Int)) (fun k => ((z % 128 ^ k : Nat) : Int)) (z : Int) := by
  have hlen := h.1
  have hroom : p.length + (Lib.uvarint z).length ≤ n := by rw [← hlen, hL]; simp
  have hpos := Lib.uvarint_pos z
  have hten := Lib.uvarint_length64 hz
  refine ⟨hroom, hpos, hten, ?_, ?_, ?_, ?_, ?_, ?_⟩
  · intro k hk
    obtain ⟨b', off', e, _, hc⟩ := h.2.2.2.2 (p.length + k) (by omega)
    simp only [Option.some.injEq, Addr.mk.injEq] at e
    obtain ⟨rfl, rfl, _⟩ := e
    rw [hc, hL, getD_app, getD_app_left _ _ _ hk]
  · intro k hk
    have := uv_byte z k (by omega)
    rw [if_pos hk] at this
    omega
  · intro k hk
    have := uv_byte z k (by omega)
    rw [if_neg (by omega)] at this
    omega
  · intro k hk
    have := uv_byte z k hk
    refine or_step z k hz _ (by omega) (by split at this <;> omega) ?_
    split at this <;> omega
  · simp [Nat.mod_one]
  · have := uv_lt z
    rw [Nat.mod_eq_of_lt this]

theorem UvAt.drewN {b off n : Nat} {w : World} {pos len : Nat} {C V : Nat → Int} {z : Int} (h : UvAt b off n w pos len C V z) (j : Nat) : UvAt b off n (w.drewN j) pos len C V z :=
  ⟨h.room, h.pos1, h.ten, h.cell, h.last, h.more, h.step, h.start, h.stop⟩

theorem encF_split (skip : Int) : ∀ (xs ys : List Nat) (i : Nat), encF skip i (xs ++ ys) = encF skip i xs ++ encF skip (i + xs.length) ys
  | [], ys, i => by simp [encF]
  | x :: xs, ys, i => by
    rw [List.cons_append, encF, encF, encF_split skip xs ys (i + 1), List.append_assoc, List.length_cons, show i + 1 + xs.length = i + (xs.length + 1) by omega]

/-- The k-th number's varint within all. -/
theorem encF_at (skip : Int) (zs : List Nat) (k : Nat) (hk : k < zs.length) (hs : (k : Int) ≠ skip) :
    encF skip 0 zs = encF skip 0 (zs.take k) ++ (Lib.uvarint (zs.getD k 0) ++ encF skip (k + 1) (zs.drop (k + 1))) := by
  have e : zs = zs.take k ++ (zs.getD k 0 :: zs.drop (k + 1)) := by
    have e1 : zs.getD k 0 = zs[k] := by simp [hk]
    rw [e1, ← List.drop_eq_getElem_cons hk, List.take_append_drop]
  have e2 := encF_split skip (zs.take k) (zs.getD k 0 :: zs.drop (k + 1)) 0
  rw [← e] at e2
  rw [e2, List.length_take, Nat.min_eq_left (by omega), Nat.zero_add, encF, if_neg hs]

end Go.Proofs.Qxb6628736a
