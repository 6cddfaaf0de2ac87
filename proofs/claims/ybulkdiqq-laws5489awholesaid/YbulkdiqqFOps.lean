/-
  FOps: operations on float64 that stand for whole numbers. Own work of this seat.
-/
import Derived.Test.YbulkdiqqEff
import Derived.Test.YbulkdiqqFlt
namespace Go.Proofs.Ybulkdiqq
set_option linter.unusedSimpArgs false
set_option linter.unusedVariables false
set_option linter.unnecessarySimpa false
namespace V
open Go Go.RowKit Flt
variable {P : Program} {l : Env} {h : Heap} {ty : TypeId} {x y : Operand} {t t2 : TypeId} {a b : Nat} {m n : Int}

theorem p_fmul {c : Nat} (hx : ev l x = some (.float .f64 a)) (hy : ev l y = some (.float .f64 b)) (hz : Ieee.double.mul a b = some c) : Pur P (.binOp .mul t x y t2) ty l h (.float .f64 c) := by
  refine ⟨fun ρ w d p af g hρ hw => ?_⟩; simp [execOp, hρ _ _ hx, hρ _ _ hy, eqGuard, binOp, Op.floatArith, FloatKind.format, hz]
theorem p_fadd {c : Nat} (hx : ev l x = some (.float .f64 a)) (hy : ev l y = some (.float .f64 b)) (hz : Ieee.double.add a b = some c) : Pur P (.binOp .add t x y t2) ty l h (.float .f64 c) := by
  refine ⟨fun ρ w d p af g hρ hw => ?_⟩; simp [execOp, hρ _ _ hx, hρ _ _ hy, eqGuard, binOp, Op.floatArith, FloatKind.format, hz]
theorem cmp_lt (m n : Int) : (some (compare m n) == some Ordering.lt) = decide (m < n) := by
  rcases Int.lt_trichotomy m n with h | h | h
  · simp [compare, compareOfLessAndEq, h]
  · subst h; simp
  · have n1 : ¬ m < n := by omega
    have n2 : ¬ m = n := by omega
    simp [compare, compareOfLessAndEq, n1, n2]
theorem cmp_gt (m n : Int) : (some (compare m n) == some Ordering.gt) = decide (n < m) := by
  rcases Int.lt_trichotomy m n with h | h | h
  · have n1 : ¬ n < m := by omega
    simp [compare, compareOfLessAndEq, h, n1]
  · subst h; simp
  · have n1 : ¬ m < n := by omega
    have n2 : ¬ m = n := by omega
    simp [compare, compareOfLessAndEq, n1, n2, h]
theorem cmp_eq (m n : Int) : (some (compare m n) == some Ordering.eq) = decide (m = n) := by
  rcases Int.lt_trichotomy m n with h | h | h
  · have n1 : ¬ m = n := by omega
    simp [compare, compareOfLessAndEq, h, n1]
  · subst h; simp
  · have n1 : ¬ m < n := by omega
    have n2 : ¬ m = n := by omega
    simp [compare, compareOfLessAndEq, n1, n2]
theorem p_flss (hx : ev l x = some (.float .f64 a)) (hy : ev l y = some (.float .f64 b)) (ha : IsI a m) (hb : IsI b n) : Pur P (.binOp .lss t x y t2) ty l h (.bool (decide (m < n))) := by
  refine ⟨fun ρ w d p af g hρ hw => ?_⟩
  have ho := order_int ha hb
  have := cmp_lt m n
  simp [execOp, hρ _ _ hx, hρ _ _ hy, eqGuard, binOp, Op.floatCmp, FloatKind.format, ho, this]
theorem p_flssT (hx : ev l x = some (.float .f64 a)) (hy : ev l y = some (.float .f64 b)) (ha : IsI a m) (hb : IsI b n) (hq : m < n) : Pur P (.binOp .lss t x y t2) ty l h (.bool true) := by
  have := p_flss (P := P) (h := h) (ty := ty) (t := t) (t2 := t2) hx hy ha hb; rw [decide_eq_true hq] at this; exact this
theorem p_flssF (hx : ev l x = some (.float .f64 a)) (hy : ev l y = some (.float .f64 b)) (ha : IsI a m) (hb : IsI b n) (hq : ¬ m < n) : Pur P (.binOp .lss t x y t2) ty l h (.bool false) := by
  have := p_flss (P := P) (h := h) (ty := ty) (t := t) (t2 := t2) hx hy ha hb; rw [decide_eq_false hq] at this; exact this
theorem p_fgtr (hx : ev l x = some (.float .f64 a)) (hy : ev l y = some (.float .f64 b)) (ha : IsI a m) (hb : IsI b n) : Pur P (.binOp .gtr t x y t2) ty l h (.bool (decide (n < m))) := by
  refine ⟨fun ρ w d p af g hρ hw => ?_⟩
  have ho := order_int ha hb
  have := cmp_gt m n
  simp [execOp, hρ _ _ hx, hρ _ _ hy, eqGuard, binOp, Op.floatCmp, FloatKind.format, ho, this]
theorem p_fgtrT (hx : ev l x = some (.float .f64 a)) (hy : ev l y = some (.float .f64 b)) (ha : IsI a m) (hb : IsI b n) (hq : n < m) : Pur P (.binOp .gtr t x y t2) ty l h (.bool true) := by
  have := p_fgtr (P := P) (h := h) (ty := ty) (t := t) (t2 := t2) hx hy ha hb; rw [decide_eq_true hq] at this; exact this
theorem p_fgtrF (hx : ev l x = some (.float .f64 a)) (hy : ev l y = some (.float .f64 b)) (ha : IsI a m) (hb : IsI b n) (hq : ¬ n < m) : Pur P (.binOp .gtr t x y t2) ty l h (.bool false) := by
  have := p_fgtr (P := P) (h := h) (ty := ty) (t := t) (t2 := t2) hx hy ha hb; rw [decide_eq_false hq] at this; exact this
theorem p_fneqF (hx : ev l x = some (.float .f64 a)) (hy : ev l y = some (.float .f64 b)) (ha : IsI a m) (hb : IsI b n) (hq : m = n) : Pur P (.binOp .neq t x y t2) ty l h (.bool false) := by
  refine ⟨fun ρ w d p af g hρ hw => ?_⟩
  have ho := order_int ha hb
  have := cmp_eq m n
  rw [decide_eq_true hq] at this
  simp [execOp, hρ _ _ hx, hρ _ _ hy, eqGuard, binOp, Op.floatCmp, FloatKind.format, ho, bne, this]
theorem p_fneq (hx : ev l x = some (.float .f64 a)) (hy : ev l y = some (.float .f64 b)) (ha : IsI a m) (hb : IsI b n) : Pur P (.binOp .neq t x y t2) ty l h (.bool (!decide (m = n))) := by
  refine ⟨fun ρ w d p af g hρ hw => ?_⟩
  have ho := order_int ha hb
  have := cmp_eq m n
  simp [execOp, hρ _ _ hx, hρ _ _ hy, eqGuard, binOp, Op.floatCmp, FloatKind.format, ho, bne, this]
theorem p_feql (hx : ev l x = some (.float .f64 a)) (hy : ev l y = some (.float .f64 b)) (ha : IsI a m) (hb : IsI b n) : Pur P (.binOp .eql t x y t2) ty l h (.bool (decide (m = n))) := by
  refine ⟨fun ρ w d p af g hρ hw => ?_⟩
  have ho := order_int ha hb
  have := cmp_eq m n
  simp [execOp, hρ _ _ hx, hρ _ _ hy, eqGuard, binOp, Op.floatCmp, FloatKind.format, ho, this]
theorem p_convF {k : IntKind} {src dst : TypeId} {d' : TypeDesc} (hx : ev l x = some (.int k m)) (hs : P.underlying src = some d') (hu : P.underlying dst = some (.float .f64)) : Pur P (.convert src dst x) ty l h (.float .f64 (Ieee.double.nearest (decide (m < 0)) m.natAbs 0)) := by
  refine ⟨fun ρ w d p af g hρ hw => ?_⟩
  simp [execOp, hρ _ _ hx, convert, run_underlying hs, run_underlying hu, Conv.intToFloat, FloatKind.nearest, FloatKind.encode, FloatKind.format, Ieee.Format.write]
end V
end Go.Proofs.Ybulkdiqq
