/-
  B15p: a holding against its copy; copy of elements of many cells.
-/
import Derived.Test.YbulkdirsB14
import Derived.Laws.StructEq
namespace Go.Proofs.Ybulkdirs
set_option linter.unusedSimpArgs false
set_option linter.unusedVariables false
set_option linter.unnecessarySimpa false
open Go Go.RowKit V
set_option maxRecDepth 100000

theorem fields27 : Yba.prog.underlying 27 = some (.struct (Yba.prog.fieldsOf 27)) := by
  rw [Yba.underlying27]; unfold Program.fieldsOf; rw [Yba.underlying27]

theorem p_neq27 {l : Env} {h : Heap} {ty t2 : TypeId} {x y : Operand} {s t : ByteArray} {a b : Int} (hx : ev l x = some (.agg [.string s, .string t, .int .i64 a, .int .i64 b].toArray)) (hy : ev l y = some (.agg [.string s, .string t, .int .i64 a, .int .i64 b].toArray)) :
    Pur Yba.prog (.binOp .neq 27 x y t2) ty l h (.bool false) := by
  refine ⟨fun ρ w d p af g hρ hw => ?_⟩
  have hg : Yba.prog.eqGuardType Yba.prog.depth 27 = false := by kernel_rfl
  have hs : Yba.prog.stoodInHeld 27 = false := by kernel_rfl
  have he : (Op.equalIn 10000 27 (.agg [.string s, .string t, .int .i64 a, .int .i64 b].toArray) (.agg [.string s, .string t, .int .i64 a, .int .i64 b].toArray)).run Yba.prog w = .ok true w := by
    rw [run_equalIn_struct w 9999 27 _ _ fields27 hs]
    unfold Program.fieldsOf
    rw [Yba.underlying27]
    simp [Op.eqFields, part, Yba.isAgg9, Yba.isAgg2, Yba.isAgg3, run_equalIn_string w 9998 9 _ _ Yba.underlying9, run_equalIn_int w 9998 2 .i64 .i64 _ _ Yba.underlying2, run_equalIn_int w 9998 3 .i64 .i64 _ _ Yba.underlying3]
  simp only [execOp, hρ _ _ hx, hρ _ _ hy, Sem.run_bind, run_eqGuard_agg w .neq 27 x y _ _ hg, Result.andThen_ok, run_neq_struct, he]
  rfl

/-- copy of n elements of many cells into a new row of as many. -/
theorem V.e_copyN {P : Program} {l : Env} {h : Heap} {ty : TypeId} {x y : Operand} {t e : TypeId} {g n dC sC size : Nat} {ad : Addr} {cur : Array Value} {et : TypeId} {cs : List Value} (hx : ev l x = some (.slice (some ⟨g, 0, none⟩) n dC)) (hy : ev l y = some (.slice (some ad) n sC)) (hu : P.underlying t = some (.slice e))
    (hs : ∀ w, (sizeOf e).run P w = .ok size w) (hg : h[g]? = some (.cells cur et (0, 0))) (hn : cs.length = n * size) (hsrc : ∀ j v, cs[j]? = some v → (mkW h).cell? (ad.add j) = some v) (hfit : cs.length = cur.size) (h1 : ∀ v ∈ cs, v.oneCell' = true) :
    Eff P (.call { callee := .builtin .copy, args := #[x, y], argTypes := #[t, t] }) ty l h (fun _ h' => Upd h h' g (.cells cs.toArray et (0, 0))) := by
  refine ⟨fun ρ w d p af g' hρ hw => ?_⟩
  subst hw
  have hl := run_loadCells_list (P := P) w ad cs (fun j v hj => hsrc j v hj)
  have hst := run_storeCells_at (P := P) g 0 et cs 0 cur w hg (by omega) h1
  have he : (cur.toList.take (0 + 0) ++ cs ++ cur.toList.drop (0 + 0 + cs.length)).toArray = cs.toArray := by
    have : cur.toList.drop (0 + 0 + cs.length) = [] := List.drop_eq_nil_of_le (by simp; omega)
    rw [this]; simp
  rw [he] at hst
  rw [hn] at hl
  have hmin : Nat.min n n = n := Nat.min_self n
  have hr : (Builtin.copy_ #[t, t] ty #[.slice (some ⟨g, 0, none⟩) n dC, .slice (some ad) n sC]).run P w = .ok (goInt n) (w.setRow g cs.toArray) := by
    simp [Builtin.copy_, run_underlying hu, Builtin.lenOf, Builtin.firstCells, hs, hmin, hl, hst]
  refine ⟨goInt n, w.setRow g cs.toArray, .inl ?_, ⟨?_, ?_, ?_⟩, rfl, rfl, rfl⟩
  · simp [execOp, resolve, invoke, builtin, hρ _ _ hx, hρ _ _ hy, hr]
  · simp [World.setRow]
  · exact setRow_heap w g cur _ et _ hg
  · intro k hk
    simp only [World.setRow, Array.getElem?_modify]
    rw [if_neg (by omega)]
end Go.Proofs.Ybulkdirs
