/-
  C0: the lock's functions in this dump; deferred calls.
-/
import Derived.Test.YbulkdireMap
import Derived.Test.YbulkdireProg
import Derived.Conc.RwLib
import Derived.Conc.MuLone
import Derived.Defers
import Derived.KernelRfl
namespace Go.Proofs.Ybulkdire
set_option linter.unusedSimpArgs false
set_option linter.unusedVariables false
set_option linter.unnecessarySimpa false
open Go Go.RowKit

abbrev muLink : Go.Conc.Locks.MuLink := { lock := 10, unlock := 11, ilock := 17, iunlock := 18, lockSlow := 23, unlockSlow := 26, disable := 19, enable := 21, acquire := 22, relMerge := 24, cas32 := 20, add32 := 25, tMutex := 48, tIMutex := 46, tPMutex := 65, tPIMutex := 67, tPI32 := 69, tUP := 71, tNoCopy := 43, tU32 := 44 }
theorem muLib : Go.Conc.Locks.MuLib Yba.prog muLink :=
  ⟨Yba.func10, Yba.func11, Yba.func17, Yba.func18, Yba.func19, Yba.func21, Yba.func22, Yba.func24, Yba.func20, Yba.func25, Yba.underlying46, Yba.runUnderlying46, Yba.sizeOf46, Yba.isAgg46, Yba.zeroValue46, Yba.underlying48, Yba.runUnderlying48, Yba.sizeOf48, Yba.isAgg48, Yba.zeroValue48, Yba.underlying65, Yba.runUnderlying65, Yba.sizeOf65, Yba.isAgg65, Yba.zeroValue65, Yba.underlying67, Yba.runUnderlying67, Yba.sizeOf67, Yba.isAgg67, Yba.zeroValue67, Yba.underlying69, Yba.runUnderlying69, Yba.sizeOf69, Yba.isAgg69, Yba.zeroValue69, Yba.underlying71, Yba.runUnderlying71, Yba.sizeOf71, Yba.isAgg71, Yba.zeroValue71, Yba.underlying43, Yba.runUnderlying43, Yba.sizeOf43, Yba.isAgg43, Yba.zeroValue43, Yba.underlying21, Yba.runUnderlying21, Yba.sizeOf21, Yba.isAgg21, Yba.zeroValue21, by kernel_rfl⟩

namespace V
/-! ### deferred calls -/
section
variable {P : Program} {N : Nt} {w0 : World} {l : Env} {h : Heap} {Q : Exit → Act → World → Prop} {ops : Array Oper} {rest : List Oper}
theorem s_defer {f : Nat} {xs : List Operand} {ats : Array TypeId} {ty : TypeId} {p : String} {af : Array Edge} {vs : List Value} (hx : evl l xs = some vs)
    (k : Fin ⟨N.n, ⟨.fn (.func f) #[], vs.toArray⟩ :: N.ds⟩ w0 (LW P ops Q rest) l h) :
    Fin N w0 (LW P ops Q (⟨none, .defer { callee := .value (.func f), args := xs.toArray, argTypes := ats }, ty, p, af, none⟩ :: rest)) l h := by
  refine ⟨fun a w ha hw => ⟨?_⟩⟩
  refine wpList_plain rfl fun K hK => ?_
  have hm := evl_map ha.evOk xs vs hx
  have hrun : (execOp a.eval ⟨none, .defer { callee := .value (.func f), args := xs.toArray, argTypes := ats }, ty, p, af, none⟩).run P w = .ok (.defer ⟨.fn (.func f) #[], vs.toArray⟩) w := by
    simp only [execOp, resolve, Sem.run_bind, Act.eval, Deferred.ofValue, Sem.run_pure, Result.andThen_ok, List.map_toArray, Array.empty_append, Array.append_empty]
    rw [show xs.map a.eval = vs from hm]
  unfold Oper.wp
  rw [hrun, Oper.upon_defer]
  refine hK _ _ (k.out _ _ ⟨?_, ?_, ?_⟩ hw).out
  · exact ha.size
  · show _ :: a.defers = _ :: N.ds
    rw [ha.defers]
  · exact ha.slot

theorem calls_of_d {f : FuncId} {fn : Func} {c : Code} {args : Array Value} {n : Nat} {R : Value → Heap → Prop} (l : Env)
    (hf : P.funcs[f]? = some fn) (hb : fn.body = some c) (hn : fn.ntmps = n) (ha : args.size ≤ n) (hl : ArgsAre args l)
    (k : ∀ w0, w0.heap = h → Fin ⟨n, []⟩ w0 (CW P c (bodyPostD P fn (PostR w0 R))) l h) : CallsH P f args h R := by
  refine ⟨fun w hw => ?_⟩
  refine calls_of_wp_defers hf hb ((k w hw).out _ w ⟨?_, rfl, ?_⟩ ⟨hw, rfl, rfl, rfl⟩).out
  · simp [hn]; omega
  · intro t v ht
    have h1 := hl t v ht
    have h2 : t < args.size := (Array.getElem?_eq_some_iff.1 h1).1
    simp only [Array.getD_eq_getD_getElem?, Array.getElem?_append_left h2, h1, Option.getD_some]

/-- The end of such a function, ahead of any deferral. -/
theorem retE {n : Nat} {fn : Func} {R : Value → Heap → Prop} {v : Value} {x : Exit} (hx : x = .ret ∨ x = .normal) (hres : ∀ a w, Rep ⟨n, []⟩ a l → (results fn a.tmps).run P w = .ok v w) (hR : R v h) : Fin ⟨n, []⟩ w0 (XW (bodyPostD P fn (PostR w0 R)) x) l h := by
  refine ⟨fun a w ha hw => ⟨?_⟩⟩
  have hd : a.defers = [] := ha.defers
  have : Leaves P fn a.tmps (PostR w0 R) a.defers .returning w := by
    rw [hd]
    exact ⟨v, hres a w ha, v, rfl, by rw [hw.heap]; exact hR, hw.os, hw.tape, hw.output⟩
  rcases hx with rfl | rfl <;> exact this
end
end V
open V

theorem res2 {n : Nat} {ds : List Deferred} {P : Program} {fn : Func} {l : Env} {t u : Nat} {v v' : Value} (hres : fn.results = #[.tmp t, .tmp u]) (hv : V.look l t = some v) (hu : V.look l u = some v') (a : Act) (w : World) (ha : Rep ⟨n, ds⟩ a l) : (results fn a.tmps).run P w = .ok (.tuple #[v, v']) w := by
  rw [results_tmp2 hres, ha.slot t v hv, ha.slot u v' hu]
theorem res0 {n : Nat} {ds : List Deferred} {P : Program} {fn : Func} {l : Env} (hres : fn.results = #[]) (a : Act) (w : World) (ha : Rep ⟨n, ds⟩ a l) : (results fn a.tmps).run P w = .ok (.tuple #[]) w := results_none hres _ _ _

/-- The end: the lock is let go. -/
theorem retU {n : Nat} {w0 : World} {l : Env} {h : Heap} {fn : Func} {R : Value → Heap → Prop} {v : Value} {x : Exit} {b o : Nat} {c : Array Value} {e : TypeId} (hx : x = .ret ∨ x = .normal)
    (hres : ∀ a w, Rep ⟨n, [⟨.fn (.func 11) #[], #[.pointer (some ⟨b, o, none⟩)]⟩]⟩ a l → (results fn a.tmps).run Yba.prog w = .ok v w) (hb : h[b]? = some (.cells c e (0, 0))) (ho : c[o]? = some (.int .i32 1))
    (hR : ∀ h', Upd h h' b (.cells (c.setIfInBounds o (.int .i32 0)) e (0, 0)) → R v h') :
    V.Fin ⟨n, [⟨.fn (.func 11) #[], #[.pointer (some ⟨b, o, none⟩)]⟩]⟩ w0 (XW (bodyPostD Yba.prog fn (PostR w0 R)) x) l h := by
  refine ⟨fun a w ha hw => ⟨?_⟩⟩
  have hd : a.defers = [⟨.fn (.func 11) #[], #[.pointer (some ⟨b, o, none⟩)]⟩] := ha.defers
  have hb' : w.heap[b]? = some (.cells c e (0, 0)) := by rw [hw.heap]; exact hb
  have hcell : w.cell? ⟨b, o, none⟩ = some (.int .i32 1) := by rw [cell_hc, hc_of hb']; exact ho
  have hfr : w.frozen? ⟨b, o, none⟩ = false := by simp [World.frozen?, hb']
  have : Leaves Yba.prog fn a.tmps (PostR w0 R) a.defers .returning w := by
    rw [hd]
    refine leaves_cons (f := 11) (args := #[.pointer (some ⟨b, o, none⟩)]) (by simp) ?_ ?_
    · simp only [invoke, List.map_toArray, Array.empty_append, Array.append_empty]
      exact Yba.call11 _ _
    · refine (Go.MuLone.unlock_deferred muLib ⟨b, o, none⟩ .returning w hcell hfr).mono ?_
      rintro e' u' w'' ⟨rfl, rfl, rfl⟩
      refine ⟨v, hres a _ ha, v, rfl, ?_, hw.os, hw.tape, hw.output⟩
      have := upd_set (o := o) (v := .int .i32 0) hb'
      rw [hw.heap] at this
      exact hR _ this
  rcases hx with rfl | rfl <;> exact this

theorem lock_ok {h : Heap} {b o : Nat} {c : Array Value} {e : TypeId} (hb : h[b]? = some (.cells c e (0, 0))) (ho : c[o]? = some (.int .i32 0)) :
    CallsH Yba.prog 10 #[.pointer (some ⟨b, o, none⟩)] h (fun u h' => u = .tuple #[] ∧ Upd h h' b (.cells (c.setIfInBounds o (.int .i32 1)) e (0, 0))) := by
  refine ⟨fun w hw => ?_⟩
  have hb' : w.heap[b]? = some (.cells c e (0, 0)) := by rw [hw]; exact hb
  have hcell : w.cell? ⟨b, o, none⟩ = some (.int .i32 0) := by rw [cell_hc, hc_of hb']; exact ho
  have hfr : w.frozen? ⟨b, o, none⟩ = false := by simp [World.frozen?, hb']
  refine (Go.MuLone.lock_free muLib ⟨b, o, none⟩ w hcell hfr).mono ?_
  rintro e' w' ⟨rfl, rfl⟩
  have := upd_set (o := o) (v := .int .i32 1) hb'
  rw [hw] at this
  exact ⟨_, rfl, ⟨rfl, this⟩, rfl, rfl, rfl⟩
end Go.Proofs.Ybulkdire
