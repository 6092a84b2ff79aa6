/-
  SEAT b6628687aD. FROM BYTES TO WHAT bulkFrame's WALK ASKS.
-/
import Derived.Test.Qxb6628687aDoorFrame
namespace Go.Proofs.Qxb6628687aDoor
open Go.RowKit

theorem getD_app (p r : List UInt8) (j : Nat) : (p ++ r).getD (p.length + j) 0 = r.getD j 0 := by
  simp [List.getD_eq_getElem?_getD, List.getElem?_append_right]

theorem getD_app_left (p r : List UInt8) (j : Nat) (h : j < p.length) : (p ++ r).getD j 0 = p.getD j 0 := by
  simp [List.getD_eq_getElem?_getD, List.getElem?_append_left h]

theorem dec_head (u : Nat) (h : 10 ≤ u) : (Lib.decDigits u).getD 0 0 ≠ 48 := by
  induction u using Nat.strongRecOn with
  | _ u ih =>
    rw [Lib.decDigits, dif_neg (by omega)]
    have hlen : 0 < (Lib.decDigits (u / 10)).length := by rw [Lib.decDigits_length]; exact Lib.nDigits_pos _
    rw [getD_app_left _ _ _ hlen]
    by_cases h2 : u / 10 < 10
    · rw [Lib.decDigits_one h2]
      intro e
      have := congrArg UInt8.toNat e
      simp only [List.getD_cons_zero] at this
      rw [digit_toNat _ h2] at this
      simp at this
      omega
    · exact ih (u / 10) (by omega) (by omega)

theorem val_take_succ (l : List UInt8) (k : Nat) (h : k < l.length) : val (l.take (k + 1)) = val (l.take k) * 10 + ((l.getD k 0).toNat - 48) := by
  rw [List.take_succ_eq_append_getElem h, val_snoc]
  simp [h]

theorem val_take_le (l : List UInt8) : ∀ k, k ≤ l.length → val (l.take k) ≤ val l := by
  intro k hk
  have key : ∀ j, k + j ≤ l.length → val (l.take k) ≤ val (l.take (k + j)) := by
    intro j
    induction j with
    | zero => intro _; exact Nat.le_refl _
    | succ j ih =>
      intro hj
      have h1 := ih (by omega)
      have h2 := val_take_succ l (k + j) (by omega)
      rw [Nat.add_assoc] at h2
      omega
  have := key (l.length - k) (by omega)
  rwa [show k + (l.length - k) = l.length by omega, List.take_length] at this

/-- A frame stands at p's end. -/
theorem at_of {B : Nat} {w : World} {b off n c : Nat} {p v q L : List UInt8} (h : Rd B w (some ⟨b, off, none⟩) n c L) (hL : L = p ++ (frame v ++ q)) (hm : v.length ≤ 1048576) :
    At b off n w p.length (Lib.itoa (v.length : Int)).length v.length (fun k => (((Lib.itoa (v.length : Int)).getD k 0).toNat : Int)) (fun k => (val ((Lib.itoa (v.length : Int)).take k) : Int)) := by
  have hlen := h.1
  have hcell : ∀ t, t < n → w.cell? ⟨b, off + t, none⟩ = some (.int .u8 ((L.getD t 0).toNat : Int)) := by
    intro t ht
    obtain ⟨b', off', e, _, hc⟩ := h.2.2.2.2 t ht
    simp only [Option.some.injEq, Addr.mk.injEq] at e
    obtain ⟨rfl, rfl, _⟩ := e
    exact hc
  rw [Lib.itoa_nonneg]
  have hdl : (Lib.decDigits v.length).length = Lib.nDigits v.length := Lib.decDigits_length _
  have hpos := Lib.nDigits_pos v.length
  have hval := val_dec v.length
  have hdig := dec_digits v.length
  have hhead := dec_head v.length
  have hsm : v.length < 10 → Lib.nDigits v.length = 1 := fun h => Lib.nDigits_small h
  have hf : frame v = 36 :: (Lib.decDigits v.length ++ (13 :: 10 :: (v ++ [13, 10]))) := by unfold frame; rw [Lib.itoa_nonneg]
  generalize Lib.decDigits v.length = ds at *
  have hn : n = p.length + (5 + ds.length + v.length + q.length) := by rw [← hlen, hL, hf]; simp; omega
  have get : ∀ j, L.getD (p.length + j) 0 = (36 :: (ds ++ (13 :: 10 :: (v ++ 13 :: 10 :: q)))).getD j 0 := by
    intro j
    rw [hL, getD_app, hf]
    simp
  have g2 : ∀ j, L.getD (p.length + (1 + j)) 0 = (ds ++ (13 :: 10 :: (v ++ 13 :: 10 :: q))).getD j 0 := by
    intro j
    rw [get, Nat.add_comm 1 j]
    simp
  have g3 : ∀ j, L.getD (p.length + (1 + (ds.length + j))) 0 = (13 :: 10 :: (v ++ 13 :: 10 :: q)).getD j 0 := by
    intro j
    rw [g2, getD_app]
  have g4 : ∀ j, L.getD (p.length + (1 + (ds.length + (2 + (v.length + j))))) 0 = (13 :: 10 :: q).getD j 0 := by
    intro j
    rw [g3, Nat.add_comm 2]
    simp only [List.getD_cons_succ]
    rw [getD_app]
  refine ⟨by omega, by omega, ?_, ?_, ?_, ?_, ?_, ?_, ?_, ?_, ?_, ?_⟩
  · rw [hcell _ (by omega)]
    have := get 0
    rw [Nat.add_zero] at this
    rw [this]
    rfl
  · intro k hk
    have hmem : ds.getD k 0 ∈ ds := by
      have e : ds.getD k 0 = ds[k] := by simp [hk]
      rw [e]
      exact List.getElem_mem _
    have hd := hdig _ hmem
    refine ⟨?_, by omega, by omega, ?_⟩
    · rw [hcell _ (by omega), show p.length + 1 + k = p.length + (1 + k) by omega, g2, getD_app_left _ _ _ hk]
    · have := val_take_succ ds k hk
      omega
  · intro k hk
    have := val_take_le ds k hk
    omega
  · simp [val]
  · simp only [List.take_length]
    omega
  · intro h1
    have hne := hhead (by
      rcases Nat.lt_or_ge v.length 10 with h2 | h2
      · have := hsm h2; omega
      · exact h2)
    rw [beq_eq_false_iff_ne]
    intro e
    exact hne (UInt8.toNat_inj.1 (by have : (48 : UInt8).toNat = 48 := rfl; omega))
  · rw [hcell _ (by omega), show p.length + 1 + ds.length = p.length + (1 + (ds.length + 0)) by omega, g3]
    rfl
  · rw [hcell _ (by omega), show p.length + 2 + ds.length = p.length + (1 + (ds.length + 1)) by omega, g3]
    rfl
  · rw [hcell _ (by omega), show p.length + 3 + ds.length + v.length = p.length + (1 + (ds.length + (2 + (v.length + 0)))) by omega, g4]
    rfl
  · rw [hcell _ (by omega), show p.length + 4 + ds.length + v.length = p.length + (1 + (ds.length + (2 + (v.length + 1)))) by omega, g4]
    rfl

/-- The payload's bytes. -/
theorem payload (p v q : List UInt8) : ((p ++ (frame v ++ q)).drop (p.length + 3 + (Lib.itoa (v.length : Int)).length)).take v.length = v := by
  have e : p ++ (frame v ++ q) = (p ++ (36 :: (Lib.itoa (v.length : Int) ++ [13, 10]))) ++ (v ++ ([13, 10] ++ q)) := by simp [frame]
  rw [e, List.drop_left' (by simp; omega), List.take_left' rfl]

end Go.Proofs.Qxb6628687aDoor
