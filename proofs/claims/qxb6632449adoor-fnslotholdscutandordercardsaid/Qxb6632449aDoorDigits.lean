import Derived.Lib.ItoaMem
import Derived.Lib.ItoaNum
namespace Go.Proofs.Qxb6632449aDoor
open Go.Lib
set_option linter.unusedVariables false

theorem byte_inj {a b : Nat} (ha : a < 256) (hb : b < 256) (h : UInt8.ofNat a = UInt8.ofNat b) : a = b := by
  have := congrArg UInt8.toNat h
  simp at this
  omega

theorem decDigits_pos (u : Nat) : 1 ≤ (decDigits u).length := by rw [decDigits_length]; exact nDigits_pos u

theorem decDigits_inj : ∀ (u v : Nat), decDigits u = decDigits v → u = v := by
  intro u
  induction u using Nat.strongRecOn with
  | ind u ih =>
    intro v h
    by_cases hu : u < 10
    · by_cases hv : v < 10
      · rw [decDigits_one hu, decDigits_one hv] at h
        simp only [List.cons.injEq, and_true] at h
        have := byte_inj (by omega) (by omega) h
        omega
      · rw [decDigits_one hu, decDigits.eq_def v, dif_neg hv] at h
        have := congrArg List.length h
        simp at this
        have := decDigits_pos (v / 10)
        simp [*] at this
    · by_cases hv : v < 10
      · rw [decDigits_one hv, decDigits.eq_def u, dif_neg hu] at h
        have := congrArg List.length h
        simp at this
        have := decDigits_pos (u / 10)
        simp [*] at this
      · rw [decDigits.eq_def u, decDigits.eq_def v, dif_neg hu, dif_neg hv] at h
        obtain ⟨h1, h2⟩ := List.append_inj' h rfl
        have h3 := ih (u / 10) (by omega) (v / 10) h1
        simp only [List.cons.injEq, and_true] at h2
        have := byte_inj (by omega) (by omega) h2
        omega

theorem decDigits_ge (u : Nat) : ∀ b ∈ decDigits u, 48 ≤ b.toNat := by
  induction u using Nat.strongRecOn with
  | ind u ih =>
    intro b hb
    by_cases hu : u < 10
    · rw [decDigits_one hu] at hb
      simp at hb
      subst hb
      simp
      omega
    · rw [decDigits.eq_def u, dif_neg hu] at hb
      simp only [List.mem_append, List.mem_singleton] at hb
      rcases hb with hb | hb
      · exact ih (u / 10) (by omega) b hb
      · subst hb
        simp
        omega

theorem minus_ne (l : List UInt8) (u : Nat) : 45 :: l ≠ decDigits u := by
  intro h
  have := decDigits_ge u 45 (by rw [← h]; simp)
  simp at this

theorem itoa_inj {a b : Int} (h : itoa a = itoa b) : a = b := by
  unfold itoa at h
  by_cases ha : a < 0
  · rw [if_pos ha] at h
    by_cases hb : b < 0
    · rw [if_pos hb] at h
      simp only [List.cons.injEq, true_and] at h
      have := decDigits_inj _ _ h
      omega
    · rw [if_neg hb] at h
      exact absurd h (minus_ne _ _)
  · rw [if_neg ha] at h
    by_cases hb : b < 0
    · rw [if_pos hb] at h
      exact absurd h.symm (minus_ne _ _)
    · rw [if_neg hb] at h
      have := decDigits_inj _ _ h
      omega

end Go.Proofs.Qxb6632449aDoor
