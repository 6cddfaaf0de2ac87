/-
  Pick: in a region that draws its order, whichever comes. Own work of this seat. Generic: over any program.
-/
import Derived.Test.YbulkdiqqWr
namespace Go.Proofs.Ybulkdiqq
set_option linter.unusedSimpArgs false
set_option linter.unusedVariables false
set_option linter.unnecessarySimpa false
namespace V
open Go Go.RowKit
/-- Number i has come. -/
structure HO (P : Program) (ops : Array Oper) (Q : Exit → Act → World → Prop) (fuel : Nat) (listed : Array Bool) (i : Nat) (a : Act) (w : World) : Prop where
  out : wpOp P ops (NP Q) i (wpAny P .any ops (NP Q) fuel (listed.setIfInBounds i true)) a w
section
variable {P : Program} {N : Nt} {w0 : World} {l : Env} {h : Heap} {Q : Exit → Act → World → Prop} {ops : Array Oper} {fuel : Nat} {listed : Array Bool}
theorem h_pick (rs : List Nat) (hr : Region.ready .any ops listed = rs) (hne : rs ≠ []) (k : ∀ i, i ∈ rs → Fin N w0 (HO P ops Q fuel listed i) l h) : Fin N w0 (HW P ops Q (fuel + 1) listed) l h :=
  ⟨fun a w ha hw => ⟨wpAny_all hr hne fun i hi => ((k i hi).out a w ha hw).out⟩⟩
theorem h_pick2 (i j : Nat) (hr : Region.ready .any ops listed = [i, j]) (ki : Fin N w0 (HO P ops Q fuel listed i) l h) (kj : Fin N w0 (HO P ops Q fuel listed j) l h) : Fin N w0 (HW P ops Q (fuel + 1) listed) l h :=
  h_pick [i, j] hr (by simp) fun x hx => by
    simp at hx
    rcases hx with rfl | rfl
    · exact ki
    · exact kj
theorem h_pick3 (i j m : Nat) (hr : Region.ready .any ops listed = [i, j, m]) (ki : Fin N w0 (HO P ops Q fuel listed i) l h) (kj : Fin N w0 (HO P ops Q fuel listed j) l h) (km : Fin N w0 (HO P ops Q fuel listed m) l h) : Fin N w0 (HW P ops Q (fuel + 1) listed) l h :=
  h_pick [i, j, m] hr (by simp) fun x hx => by
    simp at hx
    rcases hx with rfl | rfl | rfl
    · exact ki
    · exact kj
    · exact km
theorem o_pur {i d : Nat} {o : Op} {ty : TypeId} {p : String} {af : Array Edge} {v : Value} {listed' : Array Bool} (hi : ops[i]? = some ⟨some d, o, ty, p, af, none⟩) (hl : listed.setIfInBounds i true = listed') (hp : Pur P o ty l h v) (hd : Nat.blt d N.n = true)
    (k : Fin N w0 (HW P ops Q fuel listed') ((d, v) :: l) h) : Fin N w0 (HO P ops Q fuel listed i) l h := by
  subst hl
  refine ⟨fun a w ha hw => ⟨?_⟩⟩
  unfold wpOp
  simp only [hi, Region.wanted, if_true, Oper.wp]
  refine .inl ?_
  rw [hp.out a.eval w _ _ _ _ ha.evOk hw.heap]
  exact (k.out _ _ (ha.put (lt_of_blt hd) v) hw).out
theorem o_eff {i d : Nat} {o : Op} {ty : TypeId} {p : String} {af : Array Edge} {R : Value → Heap → Prop} {listed' : Array Bool} (hi : ops[i]? = some ⟨some d, o, ty, p, af, none⟩) (hl : listed.setIfInBounds i true = listed') (he : Eff P o ty l h R) (hd : Nat.blt d N.n = true)
    (k : ∀ v h', R v h' → Fin N w0 (HW P ops Q fuel listed') ((d, v) :: l) h') : Fin N w0 (HO P ops Q fuel listed i) l h := by
  subst hl
  refine ⟨fun a w ha hw => ⟨?_⟩⟩
  obtain ⟨v, w', hrun, hR, h1, h2, h3⟩ := he.out a.eval w (some d) p af none ha.evOk hw.heap
  have hk := ((k v _ hR).out _ _ (ha.put (lt_of_blt hd) v) (hw.same h1 h2 h3)).out
  unfold wpOp
  simp only [hi, Region.wanted, if_true, Oper.wp]
  refine .inl ?_
  rcases hrun with hrun | ⟨hrun, rfl⟩
  · rw [hrun]; exact hk
  · rw [hrun]; exact hk
theorem o_call {i d f : Nat} {xs : List Operand} {ats : Array TypeId} {ty : TypeId} {p : String} {af : Array Edge} {vs : List Value} {R : Value → Heap → Prop} {listed' : Array Bool}
    (hi : ops[i]? = some ⟨some d, .call { callee := .value (.func f), args := xs.toArray, argTypes := ats }, ty, p, af, none⟩) (hl : listed.setIfInBounds i true = listed')
    (hcall : ∀ args w, (callFunc f args).run P w = .ok (.enter f args) w) (hx : evl l xs = some vs) (hd : Nat.blt d N.n = true) (hc : CallsH P f vs.toArray h R)
    (k : ∀ v h', R v h' → Fin N w0 (HW P ops Q fuel listed') ((d, v) :: l) h') : Fin N w0 (HO P ops Q fuel listed i) l h := by
  subst hl
  refine ⟨fun a w ha hw => ⟨?_⟩⟩
  have hm := evl_map ha.evOk xs vs hx
  have hrun : (execOp a.eval ⟨some d, .call { callee := .value (.func f), args := xs.toArray, argTypes := ats }, ty, p, af, none⟩).run P w = .ok (.enter f vs.toArray) w := by
    simp only [execOp, resolve, Sem.run_bind, Act.eval, Deferred.ofValue, Sem.run_pure, Result.andThen_ok, invoke, List.map_toArray, Array.empty_append, Array.append_empty]
    rw [show xs.map a.eval = vs from hm]
    exact hcall _ _
  unfold wpOp
  simp only [hi, Region.wanted, if_true, Oper.wp]
  refine .inl ?_
  rw [hrun, Oper.upon_enter]
  refine (hc.out w hw.heap).mono ?_
  rintro e w' ⟨v, rfl, hR, h1, h2, h3⟩
  exact ((k v _ hR).out _ _ (ha.put (lt_of_blt hd) v) (hw.same h1 h2 h3)).out
end
end V
end Go.Proofs.Ybulkdiqq
