/-
  Flt: whole numbers below 2^53 as doubles: conversion, product, sum and order are exact. Plain: no Go in sight. Own work of this seat.
-/
import Ieee.Arith
namespace Go.Proofs.Ybulkdiqq
set_option linter.unusedSimpArgs false
set_option linter.unusedVariables false
set_option linter.unnecessarySimpa false
namespace Flt
open Ieee

/-- The word x stands for the whole number n. -/
def IsI (x : Nat) (n : Int) : Prop :=
  ∃ (s : Bool) (m k : Nat), double.read x = .number s m (-(k : Int)) ∧ m = n.natAbs * 2 ^ k ∧ (s = true → n ≤ 0) ∧ (s = false → 0 ≤ n)

theorem two_pow_ne (k : Nat) : 2 ^ k ≠ 0 := Nat.ne_of_gt (Nat.pow_pos (by decide))

theorem log2_mul_pow (N k : Nat) (h : N ≠ 0) : (N * 2 ^ k).log2 = N.log2 + k := by
  have h0 : N * 2 ^ k ≠ 0 := Nat.mul_ne_zero h (two_pow_ne _)
  rw [Nat.log2_eq_iff h0]
  have h1 := (Nat.log2_eq_iff h).1 rfl
  constructor
  · rw [Nat.pow_add]; exact Nat.mul_le_mul_right _ h1.1
  · rw [show N.log2 + k + 1 = (N.log2 + 1) + k by omega, Nat.pow_add]; exact Nat.mul_lt_mul_of_pos_right h1.2 (Nat.pow_pos (by omega))

theorem cut_exact (neg : Bool) (n drop q : Nat) (hn : n ≠ 0) (hd : n = q * 2 ^ drop) : Toward.even.cut neg n drop = q := by
  have hq : q ≠ 0 := by intro e; subst e; simp at hd; exact hn hd
  have hl : n.log2 = q.log2 + drop := by rw [hd]; exact log2_mul_pow q drop hq
  have hm : min drop (n.log2 + 2) = drop := by omega
  have hp : 0 < 2 ^ drop := Nat.pow_pos (by omega)
  unfold Toward.cut
  simp only [hm, Nat.one_shiftLeft]
  have e1 : n / 2 ^ drop = q := by rw [hd]; exact Nat.mul_div_cancel _ hp
  have e2 : n % 2 ^ drop = 0 := by rw [hd]; exact Nat.mul_mod_left _ _
  rw [e1, e2]
  have e3 : (2 ^ drop == 2 * 0) = false := by simp
  simp

theorem least : double.leastPlace = -1074 := by decide
theorem binade : double.binade = 4503599627370496 := by decide
theorem infRung : double.infRung = 2047 * 4503599627370496 := by decide
theorem signW : double.signWeight = 9223372036854775808 := by decide

theorem read_write (neg : Bool) (N k : Nat) (h0 : N ≠ 0) (h1 : N < 2 ^ 53) :
    double.read (double.nearest neg (N * 2 ^ k) (-(k : Int))) = .number neg (N * 2 ^ (52 - N.log2)) (-((52 - N.log2 : Nat) : Int)) := by
  have hl := log2_mul_pow N k h0
  have hL := (Nat.log2_eq_iff h0).1 rfl
  generalize hLe : N.log2 = L at *
  have hL52 : L ≤ 52 := by
    rcases Nat.lt_or_ge 52 L with h | h
    · have : 2 ^ 53 ≤ 2 ^ L := Nat.pow_le_pow_right (by omega) h
      omega
    · exact h
  have hmag : N * 2 ^ k ≠ 0 := Nat.mul_ne_zero h0 (two_pow_ne _)
  -- the kept digits
  have hM1 : 2 ^ 52 ≤ N * 2 ^ (52 - L) := by
    have : 2 ^ L * 2 ^ (52 - L) ≤ N * 2 ^ (52 - L) := Nat.mul_le_mul_right _ hL.1
    rw [← Nat.pow_add, show L + (52 - L) = 52 by omega] at this
    exact this
  have hM2 : N * 2 ^ (52 - L) < 2 ^ 53 := by
    have : N * 2 ^ (52 - L) < 2 ^ (L + 1) * 2 ^ (52 - L) := Nat.mul_lt_mul_of_pos_right hL.2 (Nat.pow_pos (by omega))
    rw [← Nat.pow_add, show L + 1 + (52 - L) = 53 by omega] at this
    exact this
  have hkept : Toward.even.cut neg ((N * 2 ^ k) <<< (-(k : Int) - ((L : Int) - 52)).toNat) (((L : Int) - 52) - -(k : Int)).toNat = N * 2 ^ (52 - L) := by
    rcases Nat.lt_or_ge 52 (k + L) with hc | hc
    · have e1 : (-(k : Int) - ((L : Int) - 52)).toNat = 0 := by omega
      have e2 : (((L : Int) - 52) - -(k : Int)).toNat = k + L - 52 := by omega
      rw [e1, e2, Nat.shiftLeft_zero]
      refine cut_exact _ _ _ _ hmag ?_
      rw [Nat.mul_assoc, ← Nat.pow_add, show 52 - L + (k + L - 52) = k by omega]
    · have e1 : (-(k : Int) - ((L : Int) - 52)).toNat = 52 - L - k := by omega
      have e2 : (((L : Int) - 52) - -(k : Int)).toNat = 0 := by omega
      rw [e1, e2]
      refine cut_exact _ _ _ _ ?_ ?_
      · rw [Nat.shiftLeft_eq]; exact Nat.mul_ne_zero hmag (two_pow_ne _)
      · rw [Nat.shiftLeft_eq, Nat.mul_assoc, ← Nat.pow_add, show k + (52 - L - k) = 52 - L by omega]; simp
  generalize hMe : N * 2 ^ (52 - L) = M at *
  have hnear : double.nearest neg (N * 2 ^ k) (-(k : Int)) = double.word neg ((L + 1022) * 4503599627370496 + M) := by
    have hfb : (double.fractionBits : Int) = 52 := rfl
    have hmax : max (-(k : Int) + ((L + k : Nat) : Int) - 52) (-1074) = (L : Int) - 52 := by omega
    have ht : ((L : Int) - 52 - -1074).toNat = L + 1022 := by omega
    have hmin : min ((L + 1022) * 4503599627370496 + M) (2047 * 4503599627370496) = (L + 1022) * 4503599627370496 + M := Nat.min_eq_left (by omega)
    unfold Format.nearest
    rw [if_neg hmag, hl, least, binade, infRung, hfb]
    dsimp only
    rw [hmax, hkept, ht, hmin]
  rw [hnear]
  unfold Format.read Format.word
  rw [least, binade, infRung, signW]
  have key : ∀ r : Nat, r = (L + 1022) * 4503599627370496 + M → (if r < 4503599627370496 then Datum.number neg r (-1074) else if r < 2047 * 4503599627370496 then
      Datum.number neg (4503599627370496 + r % 4503599627370496) (-1074 + ((r / 4503599627370496 - 1 : Nat) : Int)) else if r = 2047 * 4503599627370496 then Datum.infinity neg else Datum.nan neg (r - 2047 * 4503599627370496)) =
      Datum.number neg M (-((52 - L : Nat) : Int)) := by
    intro r hr
    rw [if_neg (by omega), if_pos (by omega)]
    have a1 : 4503599627370496 + r % 4503599627370496 = M := by omega
    have a2 : (-1074 + ((r / 4503599627370496 - 1 : Nat) : Int)) = -((52 - L : Nat) : Int) := by omega
    rw [a1, a2]
  cases neg with
  | true =>
    simp only [if_true]
    have b1 : (9223372036854775808 + ((L + 1022) * 4503599627370496 + M)) / 9223372036854775808 % 2 = 1 := by omega
    have b2 : (9223372036854775808 + ((L + 1022) * 4503599627370496 + M)) % 9223372036854775808 = (L + 1022) * 4503599627370496 + M := by omega
    rw [b1, b2]
    exact key _ rfl
  | false =>
    simp only [Bool.false_eq_true, if_false]
    have b1 : ((L + 1022) * 4503599627370496 + M) / 9223372036854775808 % 2 = 0 := by omega
    have b2 : ((L + 1022) * 4503599627370496 + M) % 9223372036854775808 = (L + 1022) * 4503599627370496 + M := by omega
    rw [b1, b2]
    exact key _ rfl

theorem write_zero (neg : Bool) (p : Int) : IsI (double.nearest neg 0 p) 0 := by
  have e : double.nearest neg 0 p = double.word neg 0 := by unfold Format.nearest; rw [if_pos rfl]
  rw [e]
  refine ⟨neg, 0, 1074, ?_, ?_, fun _ => Int.le_refl _, fun _ => Int.le_refl _⟩
  · cases neg <;> decide +kernel
  · generalize 1074 = k; simp

theorem write_int (neg : Bool) (n : Int) (k : Nat) (h1 : n.natAbs < 2 ^ 53) (ht : n ≠ 0 → neg = true → n ≤ 0) (hf : n ≠ 0 → neg = false → 0 ≤ n) :
    IsI (double.nearest neg (n.natAbs * 2 ^ k) (-(k : Int))) n := by
  by_cases h0 : n = 0
  · subst h0
    simpa using write_zero neg (-(k : Int))
  · exact ⟨neg, _, _, read_write neg n.natAbs k (by omega) h1, rfl, ht h0, hf h0⟩

theorem signed_eq {s : Bool} {m k K : Nat} {n : Int} (hm : m = n.natAbs * 2 ^ k) (ht : s = true → n ≤ 0) (hf : s = false → 0 ≤ n) (hk : k ≤ K) : signed s m (K - k) = n * 2 ^ K := by
  have hsh : (m <<< (K - k) : Nat) = n.natAbs * 2 ^ K := by
    rw [Nat.shiftLeft_eq, hm, Nat.mul_assoc, ← Nat.pow_add, show k + (K - k) = K by omega]
  unfold signed
  rw [hsh]
  cases s with
  | true =>
    have := ht rfl
    simp only [if_true]
    rw [Int.natCast_mul, Int.natCast_pow]
    have e : (n.natAbs : Int) = -n := by omega
    rw [e, Int.neg_mul, Int.neg_neg]
    rfl
  | false =>
    have := hf rfl
    simp only [Bool.false_eq_true, if_false]
    rw [Int.natCast_mul, Int.natCast_pow]
    have e : (n.natAbs : Int) = n := by omega
    rw [e]
    rfl

theorem base_eq (i j : Nat) : min (-(i : Int)) (-(j : Int)) = -((max i j : Nat) : Int) := by omega

theorem add_int {x y : Nat} {a b : Int} (hx : IsI x a) (hy : IsI y b) (h : (a + b).natAbs < 2 ^ 53) : ∃ z, double.add x y = some z ∧ IsI z (a + b) := by
  obtain ⟨s, m, i, rx, hm, hs1, hs2⟩ := hx
  obtain ⟨t, n, j, ry, hn, ht1, ht2⟩ := hy
  have e1 : (-(i : Int) - -((max i j : Nat) : Int)).toNat = max i j - i := by omega
  have e2 : (-(j : Int) - -((max i j : Nat) : Int)).toNat = max i j - j := by omega
  have htot : signed s m (max i j - i) + signed t n (max i j - j) = (a + b) * 2 ^ (max i j) := by
    rw [signed_eq hm hs1 hs2 (by omega), signed_eq hn ht1 ht2 (by omega), Int.add_mul]
  have hp : (0 : Int) < 2 ^ (max i j) := Int.pow_pos (by omega)
  refine ⟨_, ?_, write_int (if (a + b) * 2 ^ (max i j) = 0 then s && t else decide ((a + b) * 2 ^ (max i j) < 0)) (a + b) (max i j) h ?_ ?_⟩
  · unfold Format.add
    rw [rx, ry]
    simp only [Datum.sum, base_eq, e1, e2, htot, Option.map_some, Format.write]
    congr 2
    rw [Int.natAbs_mul, Int.natAbs_pow]
    rfl
  · intro hne ht
    have : (a + b) * 2 ^ (max i j) ≠ 0 := Int.mul_ne_zero hne (by omega)
    rw [if_neg this] at ht
    have h2 := of_decide_eq_true ht
    rcases Int.lt_or_le 0 (a + b) with h3 | h3
    · have := Int.mul_pos h3 hp; omega
    · exact h3
  · intro hne hf
    have : (a + b) * 2 ^ (max i j) ≠ 0 := Int.mul_ne_zero hne (by omega)
    rw [if_neg this] at hf
    have h2 := of_decide_eq_false hf
    rcases Int.lt_or_le (a + b) 0 with h3 | h3
    · have := Int.mul_neg_of_neg_of_pos h3 hp; omega
    · exact h3

theorem mul_int {x y : Nat} {a b : Int} (hx : IsI x a) (hy : IsI y b) (h : (a * b).natAbs < 2 ^ 53) : ∃ z, double.mul x y = some z ∧ IsI z (a * b) := by
  obtain ⟨s, m, i, rx, hm, hs1, hs2⟩ := hx
  obtain ⟨t, n, j, ry, hn, ht1, ht2⟩ := hy
  refine ⟨_, ?_, write_int (s ^^ t) (a * b) (i + j) h ?_ ?_⟩
  · unfold Format.mul
    rw [rx, ry]
    simp only [Datum.product, Option.map_some, Format.write]
    rw [hm, hn, Int.natAbs_mul]
    congr 2
    · rw [Nat.pow_add, Nat.mul_assoc, Nat.mul_assoc, Nat.mul_left_comm (2 ^ i)]
    · omega
  · intro _ hx
    cases s <;> cases t <;> simp at hx
    · exact Int.mul_nonpos_of_nonneg_of_nonpos (hs2 rfl) (ht1 rfl)
    · exact Int.mul_nonpos_of_nonpos_of_nonneg (hs1 rfl) (ht2 rfl)
  · intro _ hx
    cases s <;> cases t <;> simp at hx
    · exact Int.mul_nonneg (hs2 rfl) (ht2 rfl)
    · exact Int.mul_nonneg_of_nonpos_of_nonpos (hs1 rfl) (ht1 rfl)

theorem order_int {x y : Nat} {a b : Int} (hx : IsI x a) (hy : IsI y b) : double.order x y = some (compare a b) := by
  obtain ⟨s, m, i, rx, hm, hs1, hs2⟩ := hx
  obtain ⟨t, n, j, ry, hn, ht1, ht2⟩ := hy
  have e1 : (-(i : Int) - -((max i j : Nat) : Int)).toNat = max i j - i := by omega
  have e2 : (-(j : Int) - -((max i j : Nat) : Int)).toNat = max i j - j := by omega
  unfold Format.order
  rw [rx, ry]
  simp only [Datum.order, base_eq, e1, e2]
  rw [signed_eq hm hs1 hs2 (by omega), signed_eq hn ht1 ht2 (by omega)]
  congr 1
  have hp : (0 : Int) < 2 ^ (max i j) := Int.pow_pos (by omega)
  generalize (2 : Int) ^ (max i j) = p at hp
  rcases Int.lt_trichotomy a b with h | h | h
  · have h2 := Int.mul_lt_mul_of_pos_right h hp
    rw [show compare a b = .lt from by simp [compare, compareOfLessAndEq, h], show compare (a * p) (b * p) = .lt from by simp [compare, compareOfLessAndEq, h2]]
  · subst h; simp
  · have h2 := Int.mul_lt_mul_of_pos_right h hp
    have n1 : ¬ a < b := by omega
    have n2 : ¬ a = b := by omega
    have n3 : ¬ a * p < b * p := by omega
    have n4 : ¬ a * p = b * p := by omega
    simp only [compare, compareOfLessAndEq, n1, n2, n3, n4, if_false]

theorem of_int (n : Int) (h : n.natAbs < 2 ^ 53) : IsI (double.nearest (decide (n < 0)) n.natAbs 0) n := by
  have := write_int (decide (n < 0)) n 0 h (fun _ ht => by have := of_decide_eq_true ht; omega) (fun _ hf => by have := of_decide_eq_false hf; omega)
  simpa using this
end Flt
end Go.Proofs.Ybulkdiqq
