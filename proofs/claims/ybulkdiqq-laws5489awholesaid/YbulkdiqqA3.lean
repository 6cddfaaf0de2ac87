/-
  A3: cmp.Compare at float64, and the closure of settle: walks with the world said exactly.
-/
import Derived.Test.YbulkdiqqA2
import Derived.BigQuiet
import Derived.Deep.QuietTactic
namespace Go.Proofs.Ybulkdiqq
set_option linter.unusedSimpArgs false
set_option linter.unusedVariables false
set_option linter.unnecessarySimpa false
open Go Go.RowKit Flt
set_option maxRecDepth 100000

set_option maxHeartbeats 400000 in
theorem isNaN_w (x : Nat) (m : Int) (hx : IsI x m) (w : World) :
    Calls Yba.prog 40 #[.float .f64 x] w fun e w' => e = .returned (.bool false) ∧ w' = w := by
  have ho : (FloatKind.f64.format.order x x != some Ordering.eq) = false := by
    have := order_int hx hx
    show (Ieee.double.order x x != some Ordering.eq) = false
    rw [this]; simp
  go_enter Yba.func40, Yba.ntmps40
  go_wp2
  go_ret
  exact ⟨rfl, rfl⟩

def cmpI (m n : Int) : Int := if m < n then -1 else if n < m then 1 else 0

set_option maxHeartbeats 400000 in
theorem compare_w (x y : Nat) (m n : Int) (hx : IsI x m) (hy : IsI y n) (w : World) :
    Calls Yba.prog 26 #[.float .f64 x, .float .f64 y] w fun e w' => e = .returned (.int .i64 (cmpI m n)) ∧ w' = w := by
  have ho := order_int hx hy
  have h1 : (FloatKind.f64.format.order x y == some Ordering.lt) = decide (m < n) := by
    show (Ieee.double.order x y == _) = _
    rw [ho, V.cmp_lt]
  have h2 : (FloatKind.f64.format.order x y == some Ordering.gt) = decide (n < m) := by
    show (Ieee.double.order x y == _) = _
    rw [ho, V.cmp_gt]
  clear ho
  by_cases c1 : m < n
  · have e : cmpI m n = -1 := by simp [cmpI, c1]
    rw [decide_eq_true c1] at h1
    rw [decide_eq_false (show ¬ n < m by omega)] at h2
    rw [e]
    go_enter Yba.func26, Yba.ntmps26
    go_wp2_with (go_at_call 40; first | (refine (isNaN_w _ _ hx _).mono ?_; rintro e w' ⟨rfl, rfl⟩) | (refine (isNaN_w _ _ hy _).mono ?_; rintro e w' ⟨rfl, rfl⟩))
    go_ret
    exact ⟨rfl, rfl⟩
  · by_cases c2 : n < m
    · have e : cmpI m n = 1 := by simp [cmpI, c1, c2]
      rw [decide_eq_false c1] at h1
      rw [decide_eq_true c2] at h2
      rw [e]
      go_enter Yba.func26, Yba.ntmps26
      go_wp2_with (go_at_call 40; first | (refine (isNaN_w _ _ hx _).mono ?_; rintro e w' ⟨rfl, rfl⟩) | (refine (isNaN_w _ _ hy _).mono ?_; rintro e w' ⟨rfl, rfl⟩))
      go_ret
      exact ⟨rfl, rfl⟩
    · have e : cmpI m n = 0 := by simp [cmpI, c1, c2]
      rw [decide_eq_false c1] at h1
      rw [decide_eq_false c2] at h2
      rw [e]
      go_enter Yba.func26, Yba.ntmps26
      go_wp2_with (go_at_call 40; first | (refine (isNaN_w _ _ hx _).mono ?_; rintro e w' ⟨rfl, rfl⟩) | (refine (isNaN_w _ _ hy _).mono ?_; rintro e w' ⟨rfl, rfl⟩))
      go_ret
      exact ⟨rfl, rfl⟩

set_option maxHeartbeats 400000 in
/-- The closure of settle: keys is captured in a box. -/
theorem closure_w (bx kb ko n c i j x y : Nat) (m k : Int) (w : World) (hbox : w.cell? ⟨bx, 0, none⟩ = some (.slice (some ⟨kb, ko, none⟩) n c)) (hi : (i : Int) < (n : Int)) (hj : (j : Int) < (n : Int))
    (hx : w.cell? ⟨kb, ko + i, none⟩ = some (.float .f64 x)) (hy : w.cell? ⟨kb, ko + j, none⟩ = some (.float .f64 y)) (ix : IsI x m) (iy : IsI y k) :
    Calls Yba.prog 25 #[.int .i64 i, .int .i64 j, .pointer (some ⟨bx, 0, none⟩)] w fun e w' => e = .returned (.int .i64 (cmpI m k)) ∧ ∃ q, w' = w.drewN q := by
  have hc := fun w => compare_w x y m k ix iy w
  have H : Hid (∀ w, Calls Yba.prog 26 #[.float .f64 x, .float .f64 y] w fun e w' => e = .returned (.int .i64 (cmpI m k)) ∧ w' = w) := hc
  clear hc ix iy
  generalize cmpI m k = r at H ⊢
  have hi0 : (0 : Int) ≤ (i : Int) := by omega
  have hj0 : (0 : Int) ≤ (j : Int) := by omega
  go_enter Yba.func25, Yba.ntmps25
  go_wp2_with fail
  go_quiet ((go_at_call 26; exact Calls.quiet_of_same (H.out _)))
  go_wp2_with fail
  go_ret
  exact ⟨rfl, _, rfl⟩
end Go.Proofs.Ybulkdiqq
