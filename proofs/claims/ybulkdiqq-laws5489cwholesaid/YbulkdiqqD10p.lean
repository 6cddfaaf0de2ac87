/-
  D10p: structs compared with themselves.
-/
import Derived.Test.YbulkdiqqD9
import Derived.Laws.StructEq
namespace Go.Proofs.Ybulkdiqq
set_option linter.unusedSimpArgs false
set_option linter.unusedVariables false
set_option linter.unnecessarySimpa false
open Go Go.RowKit V
set_option maxRecDepth 100000

theorem fields80 : Yba.prog.underlying 80 = some (.struct (Yba.prog.fieldsOf 80)) := by rw [Yba.underlying80]; unfold Program.fieldsOf; rw [Yba.underlying80]
theorem fields78 : Yba.prog.underlying 78 = some (.struct (Yba.prog.fieldsOf 78)) := by rw [Yba.underlying78]; unfold Program.fieldsOf; rw [Yba.underlying78]
theorem fields64 : Yba.prog.underlying 64 = some (.struct (Yba.prog.fieldsOf 64)) := by rw [Yba.underlying64]; unfold Program.fieldsOf; rw [Yba.underlying64]
theorem fields62 : Yba.prog.underlying 62 = some (.struct (Yba.prog.fieldsOf 62)) := by rw [Yba.underlying62]; unfold Program.fieldsOf; rw [Yba.underlying62]
theorem fields84 : Yba.prog.underlying 84 = some (.struct (Yba.prog.fieldsOf 84)) := by rw [Yba.underlying84]; unfold Program.fieldsOf; rw [Yba.underlying84]

section
variable (w : World) (n : Nat)
theorem eqI (t : TypeId) (k : IntKind) (a : Int) (ht : Yba.prog.underlying t = some (.int k)) : (Op.equalIn (n + 1) t (.int k a) (.int k a)).run Yba.prog w = .ok true w := by
  rw [run_equalIn_int w n t k k a a ht]; simp
theorem eqB (b : Bool) : (Op.equalIn (n + 1) 4 (.bool b) (.bool b)).run Yba.prog w = .ok true w := by
  simp [Op.equalIn, run_underlying Yba.underlying4]
theorem eqP : (Op.equalIn (n + 1) 76 (.pointer none) (.pointer none)).run Yba.prog w = .ok true w := by
  simp [Op.equalIn, run_underlying Yba.underlying76]
theorem eq62 (a b : Int) : (Op.equalIn (n + 1 + 1) 62 (.agg [.int .u64 a, .int .u64 b].toArray) (.agg [.int .u64 a, .int .u64 b].toArray)).run Yba.prog w = .ok true w := by
  have hs : Yba.prog.stoodInHeld 62 = false := by kernel_rfl
  rw [run_equalIn_struct w (n + 1) 62 _ _ fields62 hs]
  unfold Program.fieldsOf
  rw [Yba.underlying62]
  simp [Op.eqFields, part, Yba.isAgg50, eqI w n 50 .u64 _ Yba.underlying50]
theorem eq64 (a b c : Int) : (Op.equalIn (n + 1 + 1 + 1) 64 (.agg [.int .u64 a, .int .u64 b, .int .u64 c].toArray) (.agg [.int .u64 a, .int .u64 b, .int .u64 c].toArray)).run Yba.prog w = .ok true w := by
  have hs : Yba.prog.stoodInHeld 64 = false := by kernel_rfl
  have h62 := eq62 w n a b
  rw [run_equalIn_struct w (n + 1 + 1) 64 _ _ fields64 hs]
  unfold Program.fieldsOf
  rw [Yba.underlying64]
  simp [Op.eqFields, part, Yba.isAgg50, Yba.isAgg62, Yba.sizeOf62, eqI w (n + 1) 50 .u64 _ Yba.underlying50] at h62 ⊢
  simp [h62, eqI w (n + 1) 50 .u64 _ Yba.underlying50]
theorem eq84 (a b c : Int) : (Op.equalIn (n + 1 + 1) 84 (.agg [.int .i64 a, .int .i64 b, .int .i64 c].toArray) (.agg [.int .i64 a, .int .i64 b, .int .i64 c].toArray)).run Yba.prog w = .ok true w := by
  have hs : Yba.prog.stoodInHeld 84 = false := by kernel_rfl
  rw [run_equalIn_struct w (n + 1) 84 _ _ fields84 hs]
  unfold Program.fieldsOf
  rw [Yba.underlying84]
  simp [Op.eqFields, part, Yba.isAgg2, eqI w n 2 .i64 _ Yba.underlying2]
theorem eq78 : (Op.equalIn (n + 1 + 1 + 1) 78 (.agg #[.int .u8 0, .int .u8 0, .int .u8 0, .bool false, .bool false, .bool false, .int .u64 0, .int .u64 0, .int .u64 0, .int .u32 0, .bool false, .pointer none]) (.agg #[.int .u8 0, .int .u8 0, .int .u8 0, .bool false, .bool false, .bool false, .int .u64 0, .int .u64 0, .int .u64 0, .int .u32 0, .bool false, .pointer none])).run Yba.prog w = .ok true w := by
  have hs : Yba.prog.stoodInHeld 78 = false := by kernel_rfl
  have h62 := eq62 w n 0 0
  rw [run_equalIn_struct w (n + 1 + 1) 78 _ _ fields78 hs]
  unfold Program.fieldsOf
  rw [Yba.underlying78]
  simp [Op.eqFields, part, Yba.isAgg50, Yba.isAgg72, Yba.isAgg73, Yba.isAgg74, Yba.isAgg75, Yba.isAgg4, Yba.isAgg76, Yba.isAgg62, Yba.sizeOf62, eqI w (n + 1) 50 .u64 _ Yba.underlying50, eqI w (n + 1) 72 .u8 _ Yba.underlying72, eqI w (n + 1) 73 .u8 _ Yba.underlying73, eqI w (n + 1) 74 .u8 _ Yba.underlying74, eqI w (n + 1) 75 .u32 _ Yba.underlying75, eqB w (n + 1), eqP w (n + 1)] at h62 ⊢
  simp [h62, eqI w (n + 1) 75 .u32 _ Yba.underlying75, eqB w (n + 1), eqP w (n + 1)]
theorem eq80 (x : Dlv) : (Op.equalIn (n + 1 + 1 + 1 + 1) 80 (.agg (dl x).toArray) (.agg (dl x).toArray)).run Yba.prog w = .ok true w := by
  have hs : Yba.prog.stoodInHeld 80 = false := by kernel_rfl
  have h78 := eq78 w n
  have h64 := eq64 w n 0 0 0
  rw [run_equalIn_struct w (n + 1 + 1 + 1) 80 _ _ fields80 hs]
  unfold Program.fieldsOf
  rw [Yba.underlying80]
  unfold dl
  simp [Op.eqFields, part, Yba.isAgg50, Yba.isAgg2, Yba.isAgg71, Yba.isAgg78, Yba.isAgg64, Yba.sizeOf78, Yba.sizeOf64, eqI w (n + 1 + 1) 50 .u64 _ Yba.underlying50, eqI w (n + 1 + 1) 2 .i64 _ Yba.underlying2, eqI w (n + 1 + 1) 71 .u8 _ Yba.underlying71] at h78 h64 ⊢
  simp [h78, h64]
end

theorem p_neqS {l : Env} {h : Heap} {ty t t2 : TypeId} {x y : Operand} {vs : Array Value} (hx : ev l x = some (.agg vs)) (hy : ev l y = some (.agg vs)) (hg : Yba.prog.eqGuardType Yba.prog.depth t = false) (he : ∀ w, (Op.equalIn 10000 t (.agg vs) (.agg vs)).run Yba.prog w = .ok true w) :
    Pur Yba.prog (.binOp .neq t x y t2) ty l h (.bool false) := by
  refine ⟨fun ρ w d p af g hρ hw => ?_⟩
  simp only [execOp, hρ _ _ hx, hρ _ _ hy, Sem.run_bind, run_eqGuard_agg w .neq t x y _ _ hg, Result.andThen_ok, run_neq_struct, he]
  rfl
theorem p_neq80 {l : Env} {h : Heap} {ty t2 : TypeId} {x y : Operand} {d : Dlv} (hx : ev l x = some (.agg (dl d).toArray)) (hy : ev l y = some (.agg (dl d).toArray)) : Pur Yba.prog (.binOp .neq 80 x y t2) ty l h (.bool false) :=
  p_neqS hx hy (by kernel_rfl) (fun w => eq80 w 9996 d)
theorem p_neq84 {l : Env} {h : Heap} {ty t2 : TypeId} {x y : Operand} {a b c : Int} (hx : ev l x = some (.agg [.int .i64 a, .int .i64 b, .int .i64 c].toArray)) (hy : ev l y = some (.agg [.int .i64 a, .int .i64 b, .int .i64 c].toArray)) : Pur Yba.prog (.binOp .neq 84 x y t2) ty l h (.bool false) :=
  p_neqS hx hy (by kernel_rfl) (fun w => eq84 w 9998 a b c)
theorem p_neq62 {l : Env} {h : Heap} {ty t2 : TypeId} {x y : Operand} {a b : Int} (hx : ev l x = some (.agg [.int .u64 a, .int .u64 b].toArray)) (hy : ev l y = some (.agg [.int .u64 a, .int .u64 b].toArray)) : Pur Yba.prog (.binOp .neq 62 x y t2) ty l h (.bool false) :=
  p_neqS hx hy (by kernel_rfl) (fun w => eq62 w 9998 a b)
theorem p_neq64 {l : Env} {h : Heap} {ty t2 : TypeId} {x y : Operand} {a b c : Int} (hx : ev l x = some (.agg [.int .u64 a, .int .u64 b, .int .u64 c].toArray)) (hy : ev l y = some (.agg [.int .u64 a, .int .u64 b, .int .u64 c].toArray)) : Pur Yba.prog (.binOp .neq 64 x y t2) ty l h (.bool false) :=
  p_neqS hx hy (by kernel_rfl) (fun w => eq64 w 9997 a b c)
end Go.Proofs.Ybulkdiqq
