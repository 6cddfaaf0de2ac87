/-
  Agg: variables of many cells; pointers compared; guarded operations in a region that draws its order. Own work of this seat. Generic: over any program.
-/
import Derived.Test.YbulkdiqqHeld
import Derived.Laws.CopyRow
namespace Go.Proofs.Ybulkdiqq
set_option linter.unusedSimpArgs false
set_option linter.unusedVariables false
set_option linter.unnecessarySimpa false
namespace V
open Go Go.RowKit
section
variable {P : Program} {l : Env} {h : Heap} {ty : TypeId}

theorem e_alloc {t : TypeId} {z : Value} (hz : ∀ w, (zeroValue t).run P w = .ok z w) :
    Eff P (.alloc t) ty l h (fun u h' => u = .pointer (some ⟨h.size, 0, none⟩) ∧ New h h' (.cells z.cells t)) := by
  refine ⟨fun ρ w d p af g hρ hw => ?_⟩
  refine ⟨.pointer (some ⟨h.size, 0, none⟩), w.alloc (.cells z.cells t), .inl ?_, ⟨rfl, ?_⟩, rfl, rfl, rfl⟩
  · simp [execOp, Instr.alloc, hz, newVar, newRow, hw]
  · rw [← hw]; exact New.push _ _

/-- A store that lays a whole block anew. -/
theorem e_storeAll {x y : Operand} {t e : TypeId} {b n : Nat} {cur : Array Value} {vs : List Value} (hx : ev l x = some (.pointer (some ⟨b, 0, none⟩))) (hy : ev l y = some (.agg vs.toArray)) (hs : ∀ w, (sizeOf t).run P w = .ok n w)
    (hn : vs.length = n) (hb : h[b]? = some (.cells cur e (0, 0))) (hc : cur.size = n) (h1 : ∀ v ∈ vs, v.oneCell' = true) :
    Eff P (.store t x y) ty l h (fun _ h' => Upd h h' b (.cells vs.toArray e (0, 0))) := by
  refine ⟨fun ρ w d p af g hρ hw => ?_⟩
  have hb' : w.heap[b]? = some (.cells cur e (0, 0)) := by rw [hw]; exact hb
  have hst := run_storeCells_at (P := P) b 0 e vs 0 cur w hb' (by omega) h1
  have he : (cur.toList.take (0 + 0) ++ vs ++ cur.toList.drop (0 + 0 + vs.length)).toArray = vs.toArray := by
    have : cur.toList.drop (0 + 0 + vs.length) = [] := List.drop_eq_nil_of_le (by simp; omega)
    rw [this]; simp
  rw [he] at hst
  refine ⟨undef, w.setRow b vs.toArray, .inr ⟨?_, rfl⟩, ⟨?_, ?_, ?_⟩, rfl, rfl, rfl⟩
  · simp [execOp, hρ _ _ hx, hρ _ _ hy, Instr.storeAt, Instr.sureAddr, storeVar, Value.cells, hs, hn, hst]
  · rw [← hw]; simp [World.setRow]
  · exact setRow_heap w b cur _ e _ hb'
  · intro k hk
    rw [← hw]
    simp only [World.setRow, Array.getElem?_modify]
    rw [if_neg (by omega)]

/-- The whole of an array behind a pointer, as a slice. -/
theorem p_sliceArr {x : Operand} {t e : TypeId} {b o n size : Nat} (hx : ev l x = some (.pointer (some ⟨b, o, none⟩))) (hu : P.underlying t = some (.array n e)) (hs : ∀ w, (sizeOf e).run P w = .ok size w) :
    Pur P (.slice t x none none none) ty l h (.slice (some ⟨b, o, none⟩) n n) := by
  refine ⟨fun ρ w d p af g hρ hw => ?_⟩
  simp only [execOp, hρ _ _ hx, Instr.sliceAt, Instr.sureAddr, Sem.run_bind, run_underlying hu, Result.andThen_ok, Option.map_none, Instr.sliceBounds, Instr.sliceBound, Sem.run_pure, Option.isSome_none]
  simp [hs, add_none]

theorem p_pnil {x y : Operand} {t t2 e : TypeId} {a : Option Addr} (hx : ev l x = some (.pointer a)) (hy : ev l y = some (.pointer none)) (hu : P.underlying t = some (.pointer e)) :
    Pur P (.binOp .eql t x y t2) ty l h (.bool a.isNone) := by
  refine ⟨fun ρ w d p af g hρ hw => ?_⟩
  have he : (Op.equal t (.pointer a) (.pointer none)).run P w = .ok a.isNone w := run_equal fun d => by
    cases a <;> simp [Op.equalIn, run_underlying hu]
  simp [execOp, hρ _ _ hx, hρ _ _ hy, eqGuard, binOp, he]
theorem p_pneqF {x y : Operand} {t t2 e : TypeId} {a : Option Addr} {size : Nat} (hx : ev l x = some (.pointer a)) (hy : ev l y = some (.pointer a)) (hu : P.underlying t = some (.pointer e)) (hs : ∀ w, (sizeOf e).run P w = .ok (size + 1) w) :
    Pur P (.binOp .neq t x y t2) ty l h (.bool false) := by
  refine ⟨fun ρ w d p af g hρ hw => ?_⟩
  have he : (Op.equal t (.pointer a) (.pointer a)).run P w = .ok true w := run_equal fun d => by
    cases a <;> simp [Op.equalIn, run_underlying hu, hs, sameAddr]
  simp [execOp, hρ _ _ hx, hρ _ _ hy, eqGuard, binOp, he]

theorem retCell {m : Nat} {w0 : World} {fn : Func} {R : Value → Heap → Prop} {t b n : Nat} {tt : TypeId} {vs : List Value} {x : Exit} (hx : x = .ret ∨ x = .normal) (hres : fn.results = #[.cell t tt]) (hv : look l t = some (.pointer (some ⟨b, 0, none⟩)))
    (ha : ∀ w, (isAgg tt).run P w = .ok true w) (hs : ∀ w, (sizeOf tt).run P w = .ok n w) (hl : vs.length = n) (hc : ∀ j, j < n → hc h b (0 + j) = vs[j]?) (hR : R (.agg vs.toArray) h) :
    Fin ⟨m, []⟩ w0 (XW (bodyPost P fn (PostR w0 R)) x) l h := by
  refine ⟨fun a w ha' hw => ?_⟩
  have hld := loadFrom (P := P) w b 0 n 0 #[] vs hl (fun j hj => by rw [cell_hc, hw.heap]; simpa using hc j hj)
  have hrun : (results fn a.tmps).run P w = .ok (.agg vs.toArray) w := by
    have hsl := ha'.slot t _ hv
    rw [Array.getD_eq_getD_getElem?] at hsl
    simp [results, hres, hsl, asAddr, loadVar, ha, hs, loadCells, hld]
  rcases hx with rfl | rfl
  · exact ⟨ha'.defers, _, hrun, _, rfl, by rw [hw.heap]; exact hR, hw.os, hw.tape, hw.output⟩
  · exact ⟨ha'.defers, _, hrun, _, rfl, by rw [hw.heap]; exact hR, hw.os, hw.tape, hw.output⟩
end

section drive
variable {P : Program} {N : Nt} {w0 : World} {l : Env} {h : Heap} {Q : Exit → Act → World → Prop} {ops : Array Oper} {fuel : Nat} {listed : Array Bool}
theorem h_any_g (i : Nat) {d j : Nat} {want : Bool} {o : Op} {ty : TypeId} {p : String} {af : Array Edge} {v : Value} {listed' : Array Bool} (hi : ops[i]? = some ⟨some d, o, ty, p, af, some (j, want)⟩)
    (hb : (Region.noSelect ops && Region.free .any ops listed i && (Region.ready .any ops listed).contains i) = true) (hl : listed.setIfInBounds i true = listed') (hg : gd ops l j = some want)
    (hp : ∀ h, Pur P o ty l h v) (hd : Nat.blt d N.n = true)
    (k : Fin N w0 (HW P ops Q fuel listed') ((d, v) :: l) h) : Fin N w0 (HW P ops Q (fuel + 1) listed) l h := by
  subst hl
  simp only [Bool.and_eq_true] at hb
  refine ⟨fun a w ha hw => ⟨wpAny_take hi hb.1.1 hb.1.2 hb.2 (fun _ _ _ hq => hq.elim) (.inl ⟨by simp [Region.wanted, yielded_of ha hg], fun w' => (hp w'.heap).out a.eval w' _ _ _ _ ha.evOk rfl⟩) ?_⟩⟩
  exact (k.out _ _ (ha.put (lt_of_blt hd) v) hw).out
theorem h_skip_g (i : Nat) {d j : Nat} {b want : Bool} {o : Op} {ty : TypeId} {p : String} {af : Array Edge} {listed' : Array Bool} (hi : ops[i]? = some ⟨some d, o, ty, p, af, some (j, want)⟩)
    (hb : (Region.noSelect ops && Region.free .any ops listed i && (Region.ready .any ops listed).contains i) = true) (hl : listed.setIfInBounds i true = listed') (hg : gd ops l j = some b) (hne : (b == want) = false) (hd : Nat.blt d N.n = true)
    (k : Fin N w0 (HW P ops Q fuel listed') ((d, undef) :: l) h) : Fin N w0 (HW P ops Q (fuel + 1) listed) l h := by
  subst hl
  simp only [Bool.and_eq_true] at hb
  refine ⟨fun a w ha hw => ⟨wpAny_take hi hb.1.1 hb.1.2 hb.2 (fun _ _ _ hq => hq.elim) (.inr ⟨by simp only [Region.wanted, yielded_of ha hg]; simpa using hne, rfl⟩) ?_⟩⟩
  exact (k.out _ _ (ha.put (lt_of_blt hd) undef) hw).out
/-- Number i alone can come: a call that is wanted. -/
theorem h_call_g (i : Nat) {d f j : Nat} {want : Bool} {xs : List Operand} {ats : Array TypeId} {ty : TypeId} {p : String} {af : Array Edge} {vs : List Value} {R : Value → Heap → Prop} {listed' : Array Bool}
    (hi : ops[i]? = some ⟨some d, .call { callee := .value (.func f), args := xs.toArray, argTypes := ats }, ty, p, af, some (j, want)⟩)
    (hr : Region.ready .any ops listed = [i]) (hl : listed.setIfInBounds i true = listed') (hg : gd ops l j = some want)
    (hcall : ∀ args w, (callFunc f args).run P w = .ok (.enter f args) w) (hx : evl l xs = some vs) (hd : Nat.blt d N.n = true) (hc : CallsH P f vs.toArray h R)
    (k : ∀ v h', R v h' → Fin N w0 (HW P ops Q fuel listed') ((d, v) :: l) h') : Fin N w0 (HW P ops Q (fuel + 1) listed) l h := by
  subst hl
  refine ⟨fun a w ha hw => ⟨wpAny_all hr (by simp) fun j' hj => ?_⟩⟩
  obtain rfl : j' = i := by simpa using hj
  have hm := evl_map ha.evOk xs vs hx
  have hrun : (execOp a.eval ⟨some d, .call { callee := .value (.func f), args := xs.toArray, argTypes := ats }, ty, p, af, some (j, want)⟩).run P w = .ok (.enter f vs.toArray) w := by
    simp only [execOp, resolve, Sem.run_bind, Act.eval, Deferred.ofValue, Sem.run_pure, Result.andThen_ok, invoke, List.map_toArray, Array.empty_append, Array.append_empty]
    rw [show xs.map a.eval = vs from hm]
    exact hcall _ _
  have hw' : Region.wanted ⟨some d, .call { callee := .value (.func f), args := xs.toArray, argTypes := ats }, ty, p, af, some (j, want)⟩ (yielded ops a.tmps) = true := by simp [Region.wanted, yielded_of ha hg]
  unfold wpOp
  simp only [hi, hw', if_true, Oper.wp]
  refine .inl ?_
  rw [hrun, Oper.upon_enter]
  refine (hc.out w hw.heap).mono ?_
  rintro e w' ⟨v, rfl, hR, h1, h2, h3⟩
  exact ((k v _ hR).out _ _ (ha.put (lt_of_blt hd) v) (hw.same h1 h2 h3)).out
/-- Number i alone can come: it is not wanted. -/
theorem h_skip1 (i : Nat) {d j : Nat} {b want : Bool} {o : Op} {ty : TypeId} {p : String} {af : Array Edge} {listed' : Array Bool} (hi : ops[i]? = some ⟨some d, o, ty, p, af, some (j, want)⟩)
    (hr : Region.ready .any ops listed = [i]) (hl : listed.setIfInBounds i true = listed') (hg : gd ops l j = some b) (hne : (b == want) = false) (hd : Nat.blt d N.n = true)
    (k : Fin N w0 (HW P ops Q fuel listed') ((d, undef) :: l) h) : Fin N w0 (HW P ops Q (fuel + 1) listed) l h := by
  subst hl
  refine ⟨fun a w ha hw => ⟨wpAny_all hr (by simp) fun j' hj => ?_⟩⟩
  obtain rfl : j' = i := by simpa using hj
  have hw' : Region.wanted ⟨some d, o, ty, p, af, some (j, want)⟩ (yielded ops a.tmps) = false := by
    simp only [Region.wanted, yielded_of ha hg]; simpa using hne
  unfold wpOp
  simp only [hi, hw', Bool.false_eq_true, if_false]
  exact (k.out _ _ (ha.put (lt_of_blt hd) undef) hw).out
end drive
end V
end Go.Proofs.Ybulkdiqq
