/-
  B13p: ^x and x >> 63 at 64 bits; the sum in two words, two's complement.
-/
import Derived.Test.YbulkdirsB12
namespace Go.Proofs.Ybulkdirs
set_option linter.unusedSimpArgs false
set_option linter.unusedVariables false
set_option linter.unnecessarySimpa false
open Go Go.RowKit V
set_option maxRecDepth 100000

theorem V.p_notU {P : Program} {l : Env} {h : Heap} {ty t : TypeId} {x : Operand} {a : Nat} (hx : ev l x = some (.int .u64 (a : Int))) (ha : a < B) : Pur P (.unOp .xor t x) ty l h (.int .u64 ((B - 1 - a : Nat) : Int)) := by
  refine ⟨fun ρ w d p af g hρ hw => ?_⟩
  have h2 : (BitVec.ofInt 64 (a : Int)).toNat = a := by
    rw [BitVec.ofInt_natCast, BitVec.toNat_ofNat]; exact Nat.mod_eq_of_lt (by simp only [B] at ha; omega)
  have h1 : BitVec.ofInt 64 (IntKind.u64.max) = BitVec.allOnes 64 := by decide
  have h3 : (BitVec.ofInt 64 (IntKind.u64.max) ^^^ BitVec.ofInt 64 (a : Int)).toNat = B - 1 - a := by
    rw [h1, BitVec.allOnes_xor, BitVec.toNat_not, h2]; rfl
  have h4 : (Op.unary .xor (.int .u64 (a : Int))).run P w = .ok (.int .u64 ((B - 1 - a : Nat) : Int)) w := by
    show Sem.run P (pure (Value.int .u64 (IntKind.u64.wrap ((BitVec.ofInt 64 (IntKind.u64.max) ^^^ BitVec.ofInt 64 (a : Int)).toNat : Int)))) w = _
    rw [h3, wrapU64_eq (by omega) (by simp only [B]; omega)]
    rfl
  simp [execOp, hρ _ _ hx, h4]
theorem V.p_shr63 {P : Program} {l : Env} {h : Heap} {ty t t2 : TypeId} {x y : Operand} {a : Nat} (hx : ev l x = some (.int .u64 (a : Int))) (hy : ev l y = some (.int .u64 63)) : Pur P (.binOp .shr t x y t2) ty l h (.int .u64 ((a / 9223372036854775808 : Nat) : Int)) := by
  refine ⟨fun ρ w d p af g hρ hw => ?_⟩
  have h4 : (Op.shift .shr .u64 (a : Int) .u64 63).run P w = .ok (.int .u64 ((a / 9223372036854775808 : Nat) : Int)) w := by
    rw [shift_shr_any .u64 .u64 (a : Int) 63 (by omega)]
    rfl
  simp [execOp, hρ _ _ hx, hρ _ _ hy, eqGuard, binOp, h4]

/-- 2^128. -/
def M2 : Int := 340282366920938463463374607431768211456
def tc (z : Int) : Nat := (z % M2).toNat
theorem tc_lt (z : Int) : tc z < B * B := by
  have h1 : 0 ≤ z % M2 := Int.emod_nonneg _ (by simp [M2])
  have h2 : z % M2 < M2 := Int.emod_lt_of_pos _ (by simp [M2])
  simp only [tc, B, M2] at *
  omega
theorem tc_step (z v : Int) (h1 : -9223372036854775808 ≤ v) (h2 : v ≤ 9223372036854775807) :
    tc (z + v) % B = (tc z % B + (v % 18446744073709551616).toNat + 0) % B ∧
    tc (z + v) / B = (tc z / B + (if v < 0 then 18446744073709551615 else 0) + (tc z % B + (v % 18446744073709551616).toNat + 0) / B) % B := by
  have e : (z + v) % M2 = (z % M2 + v) % M2 := by rw [Int.emod_add_emod]
  have h3 : 0 ≤ z % M2 := Int.emod_nonneg _ (by simp [M2])
  have h4 : z % M2 < M2 := Int.emod_lt_of_pos _ (by simp [M2])
  unfold tc
  rw [e]
  generalize z % M2 = t at h3 h4
  obtain ⟨n, rfl⟩ := Int.eq_ofNat_of_zero_le h3
  clear e h3
  by_cases hv : v < 0
  · rw [if_pos hv]
    by_cases hc : (n : Int) + v < 0
    · have e2 : ((n : Int) + v) % M2 = n + v + M2 := by rw [← Int.add_emod_right]; exact Int.emod_eq_of_lt (by simp only [M2] at *; omega) (by omega)
      rw [e2]
      simp only [M2, B] at *
      omega
    · have e2 : ((n : Int) + v) % M2 = n + v := Int.emod_eq_of_lt (by omega) (by omega)
      rw [e2]
      simp only [M2, B] at *
      omega
  · rw [if_neg hv]
    by_cases hc : (n : Int) + v < M2
    · have e2 : ((n : Int) + v) % M2 = n + v := Int.emod_eq_of_lt (by omega) hc
      rw [e2]
      simp only [M2, B] at *
      omega
    · have e2 : ((n : Int) + v) % M2 = n + v - M2 := by rw [← Int.sub_emod_right]; exact Int.emod_eq_of_lt (by omega) (by simp only [M2] at *; omega)
      rw [e2]
      simp only [M2, B] at *
      omega
end Go.Proofs.Ybulkdirs
