/-
  B5p: numbers for nat.sub.
-/
import Derived.Test.YbulkdirsB4
namespace Go.Proofs.Ybulkdirs
set_option linter.unusedSimpArgs false
set_option linter.unusedVariables false
set_option linter.unnecessarySimpa false
open Go Go.RowKit V
set_option maxRecDepth 100000

theorem pS11 {X Y : Nat} (hX : X < B) (h : Y ≤ X) : (X + B - Y - 0) % B = X - Y := by
  simp only [B] at *
  omega
theorem pS21 {X Y b0 : Nat} (hB : B ≤ X) (hX : X < B * B) (hY : Y < B) (hb : b0 = if X % B < Y + 0 then 1 else 0) : ¬ (X / B < b0) ∧ (X % B + B - Y - 0) % B + ((X / B + B - b0) % B) * B = X - Y := by
  by_cases h : X % B < Y + 0
  · rw [if_pos h] at hb
    simp only [B] at *
    omega
  · rw [if_neg h] at hb
    simp only [B] at *
    omega
theorem pS22 {X Y b0 : Nat} (hX : X < B * B) (hB : B ≤ Y) (h0 : Y ≤ X) (hb : b0 = if X % B < Y % B + 0 then 1 else 0) : ¬ (X / B < Y / B + b0) ∧ (X % B + B - Y % B - 0) % B + ((X / B + B - Y / B - b0) % B) * B = X - Y := by
  by_cases h : X % B < Y % B + 0
  · rw [if_pos h] at hb
    simp only [B] at *
    omega
  · rw [if_neg h] at hb
    simp only [B] at *
    omega
theorem B_pos : 0 < B := by simp [B]

end Go.Proofs.Ybulkdirs
