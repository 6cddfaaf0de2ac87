/-
  C4: the key of a block; what the cache holds in memory.
-/
import Derived.Test.YbulkdireC3
import Derived.Laws.StructEq
namespace Go.Proofs.Ybulkdire
set_option linter.unusedSimpArgs false
set_option linter.unusedVariables false
set_option linter.unnecessarySimpa false
open Go Go.RowKit V
set_option maxRecDepth 100000

theorem fields39 : Yba.prog.underlying 39 = some (.struct (Yba.prog.fieldsOf 39)) := by
  rw [Yba.underlying39]; unfold Program.fieldsOf; rw [Yba.underlying39]
theorem eq39 (a b : Int × Int) (w : World) : (Op.equal 39 (keyV a) (keyV b)).run Yba.prog w = .ok (decide (a = b)) w := by
  have hs : Yba.prog.stoodInHeld 39 = false := by kernel_rfl
  have he : (Op.equalIn 10000 39 (keyV a) (keyV b)).run Yba.prog w = .ok (decide (a = b)) w := by
    unfold keyV
    rw [run_equalIn_struct w 9999 39 _ _ fields39 hs]
    unfold Program.fieldsOf
    rw [Yba.underlying39]
    by_cases h1 : a.1 = b.1
    · by_cases h2 : a.2 = b.2
      · have : a = b := Prod.ext h1 h2
        subst this
        simp [Op.eqFields, part, Yba.isAgg23, Yba.isAgg2, run_equalIn_int w 9998 23 .u64 .u64 _ _ Yba.underlying23, run_equalIn_int w 9998 2 .i64 .i64 _ _ Yba.underlying2]
      · have : ¬ a = b := fun e => h2 (by rw [e])
        simp [Op.eqFields, part, Yba.isAgg23, Yba.isAgg2, run_equalIn_int w 9998 23 .u64 .u64 _ _ Yba.underlying23, run_equalIn_int w 9998 2 .i64 .i64 _ _ Yba.underlying2, h1, h2, this]
    · have : ¬ a = b := fun e => h1 (by rw [e])
      simp [Op.eqFields, part, Yba.isAgg23, Yba.isAgg2, run_equalIn_int w 9998 23 .u64 .u64 _ _ Yba.underlying23, run_equalIn_int w 9998 2 .i64 .i64 _ _ Yba.underlying2, h1, this]
  simpa [Op.equal, Op.maxDepth] using he

theorem keyEnc : KeyEnc Yba.prog 39 keyV where
  check w em x := by
    have c1 : ∀ (n : Nat) (z : Int), (Instr.checkKey em (n + 1) 23 (.int .u64 z)).run Yba.prog w = .ok () w := fun n z => by
      unfold Instr.checkKey
      simp [run_underlying Yba.underlying23]
    have c2 : ∀ (n : Nat) (z : Int), (Instr.checkKey em (n + 1) 2 (.int .i64 z)).run Yba.prog w = .ok () w := fun n z => by
      unfold Instr.checkKey
      simp [run_underlying Yba.underlying2]
    have c3 : ∀ n : Nat, (Instr.checkKey em (n + 1 + 1) 39 (keyV x)).run Yba.prog w = .ok () w := fun n => by
      unfold Instr.checkKey keyV
      simp [run_underlying Yba.underlying39, part, Yba.isAgg23, Yba.isAgg2, c1, c2]
    exact c3 9998
  find w x L es h := by
    have ask : ∀ (es : List MapEntry) (L : List ((Int × Int) × Value)) (i : Nat), es.map (fun e => (e.key, e.val)) = L.map (fun p => (keyV p.1, p.2)) → (Instr.findAsking 39 (keyV x) es i).run Yba.prog w = .ok (posM L x i) w := by
      intro es
      induction es with
      | nil => intro L i h; cases L with
        | nil => simp [Instr.findAsking, posM]
        | cons p L => simp at h
      | cons e es ih =>
        intro L i h
        cases L with
        | nil => simp at h
        | cons p L =>
          obtain ⟨k, v⟩ := p
          simp only [List.map_cons, List.cons.injEq, Prod.mk.injEq] at h
          obtain ⟨⟨hk, hv⟩, ht⟩ := h
          unfold Instr.findAsking posM
          simp only [Sem.run_bind, hk, eq39, Result.andThen_ok]
          by_cases e1 : k = x
          · subst e1; simp [hv]
          · have e2 : ¬ x = k := fun e => e1 e.symm
            simp [e1, e2, ih L (i + 1) ht]
    cases es with
    | nil => cases L with
      | nil => simp [Instr.findKey, run_underlying Yba.underlying39, Instr.findNow, posM]
      | cons p L => simp at h
    | cons e es =>
      have hk : Instr.findNow (TypeDesc.struct (Yba.prog.fieldsOf 39)) (keyV x) (e :: es) 0 = none := by
        unfold Instr.findNow
        simp [Instr.sameNow]
      simp [Instr.findKey, run_underlying fields39, hk, ask (e :: es) L 0 h]
  stays w x := by
    have c1 : ∀ n : Nat, Instr.sameBits (n + 1 + 1) (keyV x) (keyV x) = true := fun n => by
      simp [keyV, Instr.sameBits]
    unfold Instr.keyThatStays
    rw [if_pos (c1 9998)]
    rfl
end Go.Proofs.Ybulkdire
