/-
  SEAT b6628687aD. THE PLAIN LAWS OF A FRAME: no program in this text.
-/
import Derived.Test.Qxb6628687aDoorBulk
namespace Go.Proofs.Qxb6628687aDoor

/-- The number that a list of digits says. -/
def val (l : List UInt8) : Nat := l.foldl (fun a b => a * 10 + (b.toNat - 48)) 0

theorem val_snoc (l : List UInt8) (b : UInt8) : val (l ++ [b]) = val l * 10 + (b.toNat - 48) := by simp [val, List.foldl_append]

theorem digit_toNat (d : Nat) (h : d < 10) : (UInt8.ofNat (48 + d)).toNat = 48 + d := by
  rw [UInt8.toNat_ofNat']
  omega

theorem val_dec (u : Nat) : val (Lib.decDigits u) = u := by
  induction u using Nat.strongRecOn with
  | _ u ih =>
    rw [Lib.decDigits]
    by_cases h : u < 10
    · rw [dif_pos h]
      simp only [val, List.foldl_cons, List.foldl_nil]
      rw [digit_toNat u h]
      omega
    · rw [dif_neg h, val_snoc, ih (u / 10) (by omega), digit_toNat _ (by omega)]
      omega

theorem dec_digits (u : Nat) : ∀ b ∈ Lib.decDigits u, 48 ≤ b.toNat ∧ b.toNat ≤ 57 := by
  induction u using Nat.strongRecOn with
  | _ u ih =>
    rw [Lib.decDigits]
    by_cases h : u < 10
    · rw [dif_pos h]
      intro b hb
      simp only [List.mem_singleton] at hb
      rw [hb, digit_toNat u h]
      omega
    · rw [dif_neg h]
      intro b hb
      rcases List.mem_append.1 hb with h1 | h1
      · exact ih (u / 10) (by omega) b h1
      · simp only [List.mem_singleton] at h1
        rw [h1, digit_toNat _ (by omega)]
        omega

theorem dec_inj {u v : Nat} (h : Lib.decDigits u = Lib.decDigits v) : u = v := by
  have := congrArg val h
  rwa [val_dec, val_dec] at this

theorem no13 (u : Nat) : (13 : UInt8) ∉ Lib.decDigits u := by
  intro h
  have := (dec_digits u 13 h).1
  simp at this

theorem split13 : ∀ (D1 D2 R1 R2 : List UInt8), (13 : UInt8) ∉ D1 → (13 : UInt8) ∉ D2 → (D1 ++ 13 :: R1) <+: (D2 ++ 13 :: R2) → D1 = D2 ∧ R1 <+: R2
  | [], [], R1, R2, _, _, h => by
    refine ⟨rfl, ?_⟩
    simpa using h
  | [], d :: D2, R1, R2, _, h2, h => by
    simp only [List.nil_append, List.cons_append, List.cons_prefix_cons] at h
    exact absurd (h.1 ▸ List.mem_cons_self) h2
  | d :: D1, [], R1, R2, h1, _, h => by
    simp only [List.nil_append, List.cons_append, List.cons_prefix_cons] at h
    exact absurd (h.1 ▸ List.mem_cons_self) h1
  | d :: D1, e :: D2, R1, R2, h1, h2, h => by
    simp only [List.cons_append, List.cons_prefix_cons] at h
    obtain ⟨rfl, h⟩ := h
    obtain ⟨e1, e2⟩ := split13 D1 D2 R1 R2 (fun hm => h1 (List.mem_cons_of_mem _ hm)) (fun hm => h2 (List.mem_cons_of_mem _ hm)) h
    exact ⟨by rw [e1], e2⟩

/-- One frame never reads as the start of another. -/
theorem frame_prefix {v1 v2 : List UInt8} : frame v1 <+: frame v2 ↔ v1 = v2 := by
  constructor
  · intro h
    unfold frame at h
    rw [Lib.itoa_nonneg, Lib.itoa_nonneg] at h
    simp only [List.cons_prefix_cons, true_and] at h
    obtain ⟨e1, e2⟩ := split13 _ _ _ _ (no13 _) (no13 _) h
    have hl : v1.length = v2.length := dec_inj e1
    simp only [List.cons_prefix_cons, true_and] at e2
    have e3 := e2.eq_of_length (by simp [hl])
    exact List.append_cancel_right e3
  · rintro rfl
    exact List.prefix_rfl

end Go.Proofs.Qxb6628687aDoor
