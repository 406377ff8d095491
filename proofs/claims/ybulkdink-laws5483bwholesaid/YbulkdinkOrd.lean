import Derived.Test.YbulkdinkEq
namespace Go.Proofs.Ybulkdink
open Go.ChangeShapes Go.WideShapes Go.ChangeAt Go.RowKit
set_option linter.unusedVariables false

theorem cmpV_neg (a b : V) : cmpV a b < 0 ↔ (a.s < b.s ∨ a.s = b.s ∧ (a.t < b.t ∨ a.t = b.t ∧ (a.src < b.src ∨ a.src = b.src ∧ a.tgt < b.tgt))) := by
  unfold cmpV cor c1
  rcases Int.lt_trichotomy a.s b.s with h | h | h
  · simp [h]
  · rcases Int.lt_trichotomy a.t b.t with h1 | h1 | h1
    · simp [h, h1]
    · rcases Nat.lt_trichotomy a.src b.src with h2 | h2 | h2
      · simp [h, h1, h2]
      · rcases Nat.lt_trichotomy a.tgt b.tgt with h3 | h3 | h3
        · simp [h, h1, h2, h3]
        · simp [h, h1, h2, h3]
        · have h4 : ¬ a.tgt < b.tgt := by omega
          simp [h, h1, h2, h3, h4]
      · have h4 : ¬ a.src < b.src := by omega
        have h5 : ¬ a.src = b.src := by omega
        simp [h, h1, h2, h4, h5]
    · have h4 : ¬ a.t < b.t := by omega
      have h5 : ¬ a.t = b.t := by omega
      simp [h, h1, h4, h5]
  · have h4 : ¬ a.s < b.s := by omega
    have h5 : ¬ a.s = b.s := by omega
    simp [h, h4, h5]

theorem cmpV_zero (a b : V) : cmpV a b = 0 ↔ (a.s = b.s ∧ a.t = b.t ∧ a.src = b.src ∧ a.tgt = b.tgt) := by
  by_cases h0 : a.s = b.s
  · by_cases h1 : a.t = b.t
    · by_cases h2 : a.src = b.src
      · by_cases h3 : a.tgt = b.tgt
        · rw [cmpV_eq h0 h1 h2 h3]; simp [h0, h1, h2, h3]
        · rw [cmpV_tgt h0 h1 h2 h3]; split <;> simp [h3]
      · rw [cmpV_src h0 h1 h2]; split <;> simp [h2]
    · rw [cmpV_t h0 h1]; split <;> simp [h1]
  · rw [cmpV_s h0]; split <;> simp [h0]

theorem cmpV_swap (a b : V) : cmpV a b > 0 ↔ cmpV b a < 0 := by
  have h1 := cmpV_neg a b
  have h2 := cmpV_neg b a
  have h3 := cmpV_zero a b
  constructor
  · intro h
    rw [h2]
    have n1 : ¬ cmpV a b < 0 := by omega
    have n2 : ¬ cmpV a b = 0 := by omega
    rw [h1] at n1
    rw [h3] at n2
    omega
  · intro h
    rw [h2] at h
    have n1 : ¬ cmpV a b < 0 := by rw [h1]; omega
    have n2 : ¬ cmpV a b = 0 := by rw [h3]; omega
    omega

theorem cmpV_trans {a b c : V} (h1 : cmpV a b < 0) (h2 : cmpV b c ≤ 0) : cmpV a c < 0 := by
  rw [cmpV_neg] at h1 ⊢
  have h3 : cmpV b c < 0 ∨ cmpV b c = 0 := by omega
  rw [cmpV_neg, cmpV_zero] at h3
  omega

theorem cmpV_trans' {a b c : V} (h1 : cmpV a b ≤ 0) (h2 : cmpV b c < 0) : cmpV a c < 0 := by
  rw [cmpV_neg] at h2 ⊢
  have h3 : cmpV a b < 0 ∨ cmpV a b = 0 := by omega
  rw [cmpV_neg, cmpV_zero] at h3
  omega

end Go.Proofs.Ybulkdink
