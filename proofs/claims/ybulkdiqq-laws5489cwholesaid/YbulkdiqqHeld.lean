/-
  Held: a region that draws its order and writes: what only looks is taken first, the rest is forced. Own work of this seat. Generic: over any program.
-/
import Derived.Test.YbulkdiqqEff
import Derived.Orders
namespace Go.Proofs.Ybulkdiqq
set_option linter.unusedSimpArgs false
set_option linter.unusedVariables false
set_option linter.unnecessarySimpa false
namespace V
open Go Go.RowKit

/-- Operations that leave the world as it is. -/
def isLd : Op → Bool
  | .load .. => true
  | .move .. => true
  | _ => false

/-- A computation that leaves the world as it is where it goes through. -/
def Keeps {α : Type} (P : Program) (s : Sem α) : Prop := ∀ w, (∃ v, s.run P w = .ok v w) ∨ ∃ hl w', s.run P w = .halt hl w'
theorem Keeps.pure {α : Type} {P : Program} (a : α) : Keeps P (Pure.pure a : Sem α) := fun _ => .inl ⟨a, rfl⟩
theorem Keeps.bind {α β : Type} {P : Program} {s : Sem α} {f : α → Sem β} (h : Keeps P s) (hf : ∀ a, Keeps P (f a)) : Keeps P (s >>= f) := by
  intro w
  rw [Sem.run_bind]
  rcases h w with ⟨v, hv⟩ | ⟨hl, w', hv⟩
  · rw [hv]; exact hf v w
  · rw [hv]; exact .inr ⟨hl, w', rfl⟩
theorem Keeps.stuck {α : Type} {P : Program} (s : String) : Keeps P (Go.stuck s : Sem α) := fun w => .inr ⟨_, w, rfl⟩
theorem Keeps.load {P : Program} (a : Addr) (m : Mode) : Keeps P (Go.load a m) := by
  intro w
  rw [run_load]
  split
  · exact .inl ⟨_, rfl⟩
  · split
    · exact .inl ⟨_, rfl⟩
    · exact .inr ⟨_, _, rfl⟩
theorem Keeps.underlying {P : Program} (t : TypeId) : Keeps P (Go.underlying t) := by
  intro w
  unfold Go.underlying
  simp only [Sem.run_bind, run_program, Result.andThen_ok]
  split
  · exact .inl ⟨_, rfl⟩
  · exact .inr ⟨_, _, rfl⟩
theorem Keeps.typeInfo {P : Program} (t : TypeId) : Keeps P (Go.typeInfo t) := by
  intro w
  unfold Go.typeInfo
  simp only [Sem.run_bind, run_program, Result.andThen_ok]
  split
  · exact .inl ⟨_, rfl⟩
  · exact .inr ⟨_, _, rfl⟩
theorem Keeps.isAgg {P : Program} (t : TypeId) : Keeps P (Go.isAgg t) := by
  unfold Go.isAgg
  refine (Keeps.underlying t).bind fun d => ?_
  split <;> exact Keeps.pure _
theorem Keeps.loadCellsFrom {P : Program} (a : Addr) : ∀ (n i : Nat) (acc : Array Value), Keeps P (Go.loadCellsFrom a i n acc)
  | 0, _, _ => Keeps.pure _
  | n + 1, i, acc => by
    unfold Go.loadCellsFrom
    exact (Keeps.load _ _).bind fun v => Keeps.loadCellsFrom a n (i + 1) (acc.push v)
theorem Keeps.loadVar {P : Program} (t : TypeId) (a : Addr) : Keeps P (Go.loadVar t a) := by
  unfold Go.loadVar
  refine (Keeps.isAgg t).bind fun b => ?_
  split
  · refine Keeps.bind ?_ fun x => ?_
    · exact (Keeps.typeInfo t).bind fun i => Keeps.pure _
    · exact (Keeps.loadCellsFrom _ _ _ _).bind fun _ => Keeps.pure _
  · exact Keeps.load _ _
theorem keeps_ld {P : Program} {o : Oper} (h : isLd o.op = true) (ρ : Operand → Value) (w : World) :
    (∃ v, (execOp ρ o).run P w = .ok (.value v) w) ∨ ∃ hl w', (execOp ρ o).run P w = .halt hl w' := by
  unfold execOp
  cases ho : o.op <;> rw [ho] at h <;> simp [isLd] at h
  case move x => exact .inl ⟨_, rfl⟩
  case load t a =>
    have hk : Keeps P (Instr.loadAt t (ρ a)) := by
      unfold Instr.loadAt
      refine Keeps.bind ?_ fun x => Keeps.loadVar _ _
      unfold Instr.sureAddr
      split
      · exact Keeps.pure _
      · exact Keeps.stuck _
    simp only [Sem.run_bind]
    rcases hk w with ⟨v, hv⟩ | ⟨hl, w', hv⟩
    · rw [hv]; exact .inl ⟨v, rfl⟩
    · rw [hv]; exact .inr ⟨hl, w', rfl⟩

section
variable {P : Program} {ops : Array Oper} {Q : Exit → Act → World → Prop} {md : Region.Mode}

/-- In state a, in the world w, the operation leaves v in its temporary and does nothing else. -/
def YAt (P : Program) (ops : Array Oper) (o : Oper) (v : Value) (a : Act) (w : World) : Prop :=
  Region.wanted o (yielded ops a.tmps) = true ∧ (execOp a.eval o).run P w = .ok (.value v) w

theorem wpAny_firstAt {i : Nat} {oi : Oper} {v : Value} (hi : ops[i]? = some oi) (hsel : ∀ (j : Nat) (o : Oper) cs b, ops[j]? = some o → o.op ≠ .select cs b)
    (hQ : ∀ c a w, ¬ Q (.panic c) a w) (W : List Nat)
    (hW : ∀ j ∈ W, ∃ oj, ops[j]? = some oj ∧ ∃ e ∈ oj.after, Region.binds md e = true ∧ (e.on = i ∨ e.on ∈ W)) :
    ∀ (fuel : Nat) (listed : Array Bool) (a : Act) (w : World),
      (∀ j oj, ops[j]? = some oj → j ≠ i → listed.getD j true = false → j ∉ W → oi.apart ops oj = true ∧ isLd oj.op = true) → (∀ j ∈ W, listed.getD j true = false) →
      i ∈ Region.ready md ops listed → YAt P ops oi v a w →
      wpAny P md ops Q fuel (listed.setIfInBounds i true) (a.put oi.dst v) w → wpAny P md ops Q (fuel + 1) listed a w := by
  intro fuel
  induction fuel with
  | zero =>
    intro listed a w _ _ hr hy H
    refine ⟨fun h => (by rw [h] at hr; cases hr), fun j hj => ?_⟩
    by_cases hji : j = i
    · subst hji
      unfold wpOp
      simp only [hi, hy.1, if_true, Oper.wp, hy.2, Oper.upon]
      exact .inl H
    · have := ready_mono hj hji
      rw [H.1] at this
      cases this
  | succ fuel ih =>
    intro listed a w hfree hun hr hy H
    refine ⟨fun h => (by rw [h] at hr; cases hr), fun j hj => ?_⟩
    by_cases hji : j = i
    · subst hji
      unfold wpOp
      simp only [hi, hy.1, if_true, Oper.wp, hy.2, Oper.upon]
      exact .inl H
    · have h1 := H.2 j (ready_mono hj hji)
      obtain ⟨hjun, oj, hoj, hall⟩ := mem_ready.1 hj
      have hnot : j ∉ W := fun hm => by
        obtain ⟨oj', hoj', e, he, hb, hor⟩ := hW j hm
        rw [hoj] at hoj'; cases hoj'
        have h1 := hall e he hb
        have h0 : listed.getD e.on true = false := by
          rcases hor with r | r
          · rw [r]; exact (mem_ready.1 hr).1
          · exact hun _ r
        rcases Nat.lt_or_ge e.on listed.size with h' | h'
        · simp [h'] at h0 h1; rw [h0] at h1; cases h1
        · simp [Array.getElem?_eq_none h'] at h1
      obtain ⟨hap, hld⟩ := hfree j oj hoj hji hjun hnot
      obtain ⟨p1, p2, p3⟩ := Oper.apart_spec hap
      have hsi := fun cs b => hsel i oi cs b hi
      have hsj := fun cs b => hsel j oj cs b hoj
      have hfree' : ∀ k ok, ops[k]? = some ok → k ≠ i → (listed.setIfInBounds j true).getD k true = false →
          k ∉ W → oi.apart ops ok = true ∧ isLd ok.op = true := fun k ok hk hki hun hno => by
        refine hfree k ok hk hki ?_ hno
        by_cases hjk : j = k
        · subst hjk; exact hjun
        · rw [getD_set_ne true hjk] at hun; exact hun
      have hun' : ∀ k ∈ W, (listed.setIfInBounds j true).getD k true = false := fun k hk => by
        have hjk : ¬ j = k := fun e => hnot (e.symm ▸ hk)
        rw [getD_set_ne true hjk]; exact hun k hk
      have next : ∀ u, wpAny P md ops Q fuel ((listed.setIfInBounds i true).setIfInBounds j true) ((a.put oi.dst v).put oj.dst u) w → wpAny P md ops Q (fuel + 1) (listed.setIfInBounds j true) (a.put oj.dst u) w := by
        intro u hu
        refine ih (listed.setIfInBounds j true) (a.put oj.dst u) w hfree' hun' (ready_mono hr (Ne.symm hji)) ⟨?_, ?_⟩ ?_
        · rw [wanted_put oi a oj.dst u p3]; exact hy.1
        · rw [execOp_put oi hsi a oj.dst u p3]; exact hy.2
        · rw [Array.setIfInBounds_comm _ _ hji, ← Act.put_comm a v u p2]; exact hu
      unfold wpOp at h1 ⊢
      simp only [hoj] at h1 ⊢
      rw [wanted_put oj a oi.dst v p1] at h1
      by_cases hw : Region.wanted oj (yielded ops a.tmps) = true
      · simp only [hw, if_true] at h1 ⊢
        rcases h1 with h1 | ⟨hasks, hlets⟩
        · refine .inl ?_
          unfold Oper.wp at h1 ⊢
          rw [execOp_put oj hsj a oi.dst v p1] at h1
          rcases keeps_ld (P := P) hld a.eval w with ⟨u, hu⟩ | ⟨hl, w', hu⟩
          · rw [hu] at h1 ⊢
            simp only [Oper.upon] at h1 ⊢
            exact next u h1
          · rw [hu] at h1
            cases hl <;> simp only [Oper.upon] at h1
            exact absurd h1 (hQ _ _ _)
        · exact .inr ⟨by unfold Oper.asks at hasks ⊢; rw [execOp_put oj hsj a oi.dst v p1] at hasks; exact hasks, hlets⟩
      · simp only [hw] at h1 ⊢
        exact next _ h1
end

/-- The numbers not listed yet that wait for number i, at once or through others. -/
def waits (ops : Array Oper) (listed : Array Bool) (i : Nat) : List Nat :=
  (List.range ops.size).foldl (fun W j => match ops[j]? with
    | some oj => if !listed.getD j true && oj.after.any (fun e => Region.binds .any e && (e.on == i || W.contains e.on)) then j :: W else W
    | none => W) []
/-- Every other operation that could come before number i waits for it, or is apart from it and only looks. -/
def freeAt (ops : Array Oper) (listed : Array Bool) (i : Nat) : Bool :=
  match ops[i]? with
  | none => false
  | some oi => ((waits ops listed i).all fun j => !listed.getD j true && match ops[j]? with
      | some oj => oj.after.any (fun e => Region.binds .any e && (e.on == i || (waits ops listed i).contains e.on))
      | none => false) && (List.range ops.size).all fun j => j == i || listed.getD j true || (waits ops listed i).contains j || match ops[j]? with
      | some oj => oi.apart ops oj && isLd oj.op
      | none => true
theorem freeAt_w {ops : Array Oper} {i : Nat} {oi : Oper} {listed : Array Bool} (hi : ops[i]? = some oi) (h : freeAt ops listed i = true) (j : Nat) (hj : j ∈ waits ops listed i) :
    listed.getD j true = false ∧ ∃ oj, ops[j]? = some oj ∧ ∃ e ∈ oj.after, Region.binds .any e = true ∧ (e.on = i ∨ e.on ∈ waits ops listed i) := by
  simp only [freeAt, hi, Bool.and_eq_true, List.all_eq_true] at h
  have h1 := h.1 j hj
  refine ⟨by simpa using h1.1, ?_⟩
  have h2 := h1.2
  split at h2
  · rename_i oj hoj
    obtain ⟨e, he, hb⟩ := Array.any_eq_true'.1 h2
    simp only [Bool.and_eq_true, Bool.or_eq_true, beq_iff_eq, List.contains_iff_mem] at hb
    exact ⟨oj, hoj, e, he, hb⟩
  · cases h2
theorem freeAt_spec {ops : Array Oper} {i : Nat} {oi : Oper} {listed : Array Bool} (hi : ops[i]? = some oi) (h : freeAt ops listed i = true) (j : Nat) (oj : Oper)
    (hj : ops[j]? = some oj) (hne : j ≠ i) (hun : listed.getD j true = false) (hno : j ∉ waits ops listed i) :
    oi.apart ops oj = true ∧ isLd oj.op = true := by
  simp only [freeAt, hi, Bool.and_eq_true, List.all_eq_true, List.mem_range] at h
  have h1 := h.2 j (Array.getElem?_eq_some_iff.1 hj).1
  simp only [hj, Bool.or_eq_true, beq_iff_eq, hne, false_or, hun, Bool.false_eq_true, List.contains_iff_mem, hno] at h1
  simpa using h1

/-- What stands behind the region, and no panic. -/
def NP (Q : Exit → Act → World → Prop) : Exit → Act → World → Prop
  | .normal, a, w => Q .normal a w
  | _, _, _ => False

structure HW (P : Program) (ops : Array Oper) (Q : Exit → Act → World → Prop) (fuel : Nat) (listed : Array Bool) (a : Act) (w : World) : Prop where
  out : wpAny P .any ops (NP Q) fuel listed a w

section drive
variable {P : Program} {N : Nt} {w0 : World} {l : Env} {h : Heap} {Q : Exit → Act → World → Prop} {ops : Array Oper} {fuel : Nat} {listed : Array Bool}

theorem c_held {id n : Nat} {os : List Oper} (hm : P.follows .mixedOrders = true) (hn : os.length = n) (k : Fin N w0 (HW P os.toArray Q n (Array.replicate n false)) l h) :
    Fin N w0 (CW P (Code.region id os.toArray true) Q) l h := by
  subst hn
  refine ⟨fun a w ha hw => ⟨wp_mono (wp_region_any (Q := NP Q) hm ?_) ?_⟩⟩
  · have := (k.out a { w with drawn := w.drawn + 1 } ha ⟨hw.heap, hw.os, hw.tape, hw.output⟩).out
    simpa using this
  · intro e a' w' hq
    cases e <;> first | exact hq | exact hq.elim

/-- Take number i first: it yields the same in every world. -/
theorem h_any (i : Nat) {d : Nat} {o : Op} {ty : TypeId} {p : String} {af : Array Edge} {v : Value} {listed' : Array Bool} (hi : ops[i]? = some ⟨some d, o, ty, p, af, none⟩)
    (hb : (Region.noSelect ops && Region.free .any ops listed i && (Region.ready .any ops listed).contains i) = true) (hl : listed.setIfInBounds i true = listed')
    (hp : ∀ h, Pur P o ty l h v) (hd : Nat.blt d N.n = true)
    (k : Fin N w0 (HW P ops Q fuel listed') ((d, v) :: l) h) : Fin N w0 (HW P ops Q (fuel + 1) listed) l h := by
  subst hl
  simp only [Bool.and_eq_true] at hb
  refine ⟨fun a w ha hw => ⟨wpAny_take hi hb.1.1 hb.1.2 hb.2 (fun _ _ _ hq => hq.elim) (.inl ⟨rfl, fun w' => (hp w'.heap).out a.eval w' _ _ _ _ ha.evOk rfl⟩) ?_⟩⟩
  exact (k.out _ _ (ha.put (lt_of_blt hd) v) hw).out

/-- Take number i first: a load. -/
theorem h_take (i : Nat) {d : Nat} {o : Op} {ty : TypeId} {p : String} {af : Array Edge} {v : Value} {listed' : Array Bool} (hi : ops[i]? = some ⟨some d, o, ty, p, af, none⟩)
    (hb : (Region.noSelect ops && freeAt ops listed i && (Region.ready .any ops listed).contains i) = true) (hl : listed.setIfInBounds i true = listed')
    (hp : Pur P o ty l h v) (hd : Nat.blt d N.n = true)
    (k : Fin N w0 (HW P ops Q fuel listed') ((d, v) :: l) h) : Fin N w0 (HW P ops Q (fuel + 1) listed) l h := by
  subst hl
  simp only [Bool.and_eq_true] at hb
  refine ⟨fun a w ha hw => ⟨wpAny_firstAt hi (Region.noSelect_spec hb.1.1) (fun _ _ _ hq => hq) (waits ops listed i) (fun j hj => (freeAt_w hi hb.1.2 j hj).2) fuel listed a w (freeAt_spec hi hb.1.2) (fun j hj => (freeAt_w hi hb.1.2 j hj).1) (by simpa using hb.2) ⟨rfl, hp.out a.eval w _ _ _ _ ha.evOk hw.heap⟩ ?_⟩⟩
  exact (k.out _ _ (ha.put (lt_of_blt hd) v) hw).out

/-- Number i alone can come: it turns the heap. -/
theorem h_eff (i : Nat) {d : Nat} {o : Op} {ty : TypeId} {p : String} {af : Array Edge} {R : Value → Heap → Prop} {listed' : Array Bool} (hi : ops[i]? = some ⟨some d, o, ty, p, af, none⟩)
    (hr : Region.ready .any ops listed = [i]) (hl : listed.setIfInBounds i true = listed') (he : Eff P o ty l h R) (hd : Nat.blt d N.n = true)
    (k : ∀ v h', R v h' → Fin N w0 (HW P ops Q fuel listed') ((d, v) :: l) h') : Fin N w0 (HW P ops Q (fuel + 1) listed) l h := by
  subst hl
  refine ⟨fun a w ha hw => ⟨wpAny_all hr (by simp) fun j hj => ?_⟩⟩
  obtain rfl : j = i := by simpa using hj
  obtain ⟨v, w', hrun, hR, h1, h2, h3⟩ := he.out a.eval w (some d) p af none ha.evOk hw.heap
  have hk := ((k v _ hR).out _ _ (ha.put (lt_of_blt hd) v) (hw.same h1 h2 h3)).out
  unfold wpOp
  simp only [hi, Region.wanted, if_true, Oper.wp]
  refine .inl ?_
  rcases hrun with hrun | ⟨hrun, rfl⟩
  · rw [hrun]; exact hk
  · rw [hrun]; exact hk
theorem h_eff0 (i : Nat) {o : Op} {ty : TypeId} {p : String} {af : Array Edge} {R : Value → Heap → Prop} {listed' : Array Bool} (hi : ops[i]? = some ⟨none, o, ty, p, af, none⟩)
    (hr : Region.ready .any ops listed = [i]) (hl : listed.setIfInBounds i true = listed') (he : Eff P o ty l h R)
    (k : ∀ v h', R v h' → Fin N w0 (HW P ops Q fuel listed') l h') : Fin N w0 (HW P ops Q (fuel + 1) listed) l h := by
  subst hl
  refine ⟨fun a w ha hw => ⟨wpAny_all hr (by simp) fun j hj => ?_⟩⟩
  obtain rfl : j = i := by simpa using hj
  obtain ⟨v, w', hrun, hR, h1, h2, h3⟩ := he.out a.eval w none p af none ha.evOk hw.heap
  have hk := ((k v _ hR).out _ _ ha (hw.same h1 h2 h3)).out
  unfold wpOp
  simp only [hi, Region.wanted, if_true, Oper.wp]
  refine .inl ?_
  rcases hrun with hrun | ⟨hrun, rfl⟩
  · rw [hrun]; exact hk
  · rw [hrun]; exact hk
/-- Number i alone can come: a call. -/
theorem h_call (i : Nat) {d f : Nat} {xs : List Operand} {ats : Array TypeId} {ty : TypeId} {p : String} {af : Array Edge} {vs : List Value} {R : Value → Heap → Prop} {listed' : Array Bool}
    (hi : ops[i]? = some ⟨some d, .call { callee := .value (.func f), args := xs.toArray, argTypes := ats }, ty, p, af, none⟩)
    (hr : Region.ready .any ops listed = [i]) (hl : listed.setIfInBounds i true = listed')
    (hcall : ∀ args w, (callFunc f args).run P w = .ok (.enter f args) w) (hx : evl l xs = some vs) (hd : Nat.blt d N.n = true) (hc : CallsH P f vs.toArray h R)
    (k : ∀ v h', R v h' → Fin N w0 (HW P ops Q fuel listed') ((d, v) :: l) h') : Fin N w0 (HW P ops Q (fuel + 1) listed) l h := by
  subst hl
  refine ⟨fun a w ha hw => ⟨wpAny_all hr (by simp) fun j hj => ?_⟩⟩
  obtain rfl : j = i := by simpa using hj
  have hm := evl_map ha.evOk xs vs hx
  have hrun : (execOp a.eval ⟨some d, .call { callee := .value (.func f), args := xs.toArray, argTypes := ats }, ty, p, af, none⟩).run P w = .ok (.enter f vs.toArray) w := by
    simp only [execOp, resolve, Sem.run_bind, Act.eval, Deferred.ofValue, Sem.run_pure, Result.andThen_ok, invoke, List.map_toArray, Array.empty_append, Array.append_empty]
    rw [show xs.map a.eval = vs from hm]
    exact hcall _ _
  unfold wpOp
  simp only [hi, Region.wanted, if_true, Oper.wp]
  refine .inl ?_
  rw [hrun, Oper.upon_enter]
  refine (hc.out w hw.heap).mono ?_
  rintro e w' ⟨v, rfl, hR, h1, h2, h3⟩
  exact ((k v _ hR).out _ _ (ha.put (lt_of_blt hd) v) (hw.same h1 h2 h3)).out
/-- All have come. -/
theorem h_done (hr : Region.ready .any ops listed = []) (k : Fin N w0 (XW Q .normal) l h) : Fin N w0 (HW P ops Q fuel listed) l h :=
  ⟨fun a w ha hw => ⟨wpAny_done (Q := NP Q) hr (by exact (k.out a w ha hw).out) fuel⟩⟩
end drive
end V
end Go.Proofs.Ybulkdiqq
