/-
  Twin: calls that enter another function, externs, loops unrolled, pieces of slices, copy and clear. Own work of this seat. Generic: over any program.
-/
import Derived.Test.YbulkdiqqAgg
import Derived.LoopN
import Derived.LaidEql
import Derived.Laws.Externs
import Derived.Lib.SliceRun
namespace Go.Proofs.Ybulkdiqq
set_option linter.unusedSimpArgs false
set_option linter.unusedVariables false
set_option linter.unnecessarySimpa false
namespace V
open Go Go.RowKit

section drive
variable {P : Program} {N : Nt} {w0 : World} {l : Env} {h : Heap} {Q : Exit → Act → World → Prop} {ops : Array Oper} {rest : List Oper} {fuel : Nat} {listed : Array Bool}
/-- A call that enters the function's twin. -/
theorem s_call' {d f f' : Nat} {xs : List Operand} {ats : Array TypeId} {ty : TypeId} {p : String} {af : Array Edge} {vs : List Value} {R : Value → Heap → Prop}
    (hcall : ∀ args w, (callFunc f args).run P w = .ok (.enter f' args) w) (hx : evl l xs = some vs) (hd : Nat.blt d N.n = true) (hc : CallsH P f' vs.toArray h R)
    (k : ∀ v h', R v h' → Fin N w0 (LW P ops Q rest) ((d, v) :: l) h') :
    Fin N w0 (LW P ops Q (⟨some d, .call { callee := .value (.func f), args := xs.toArray, argTypes := ats }, ty, p, af, none⟩ :: rest)) l h := by
  refine ⟨fun a w ha hw => ⟨?_⟩⟩
  refine wpList_plain rfl fun K hK => ?_
  have hm := evl_map ha.evOk xs vs hx
  have hrun : (execOp a.eval ⟨some d, .call { callee := .value (.func f), args := xs.toArray, argTypes := ats }, ty, p, af, none⟩).run P w = .ok (.enter f' vs.toArray) w := by
    simp only [execOp, resolve, Sem.run_bind, Act.eval, Deferred.ofValue, Sem.run_pure, Result.andThen_ok, invoke, List.map_toArray, Array.empty_append, Array.append_empty]
    rw [show xs.map a.eval = vs from hm]
    exact hcall _ _
  unfold Oper.wp
  rw [hrun, Oper.upon_enter]
  refine (hc.out w hw.heap).mono ?_
  rintro e w' ⟨v, rfl, hR, h1, h2, h3⟩
  exact hK _ _ ((k v _ hR).out _ _ (ha.put (lt_of_blt hd) v) (hw.same h1 h2 h3)).out
theorem h_call' (i : Nat) {d f f' : Nat} {xs : List Operand} {ats : Array TypeId} {ty : TypeId} {p : String} {af : Array Edge} {vs : List Value} {R : Value → Heap → Prop} {listed' : Array Bool}
    (hi : ops[i]? = some ⟨some d, .call { callee := .value (.func f), args := xs.toArray, argTypes := ats }, ty, p, af, none⟩)
    (hr : Region.ready .any ops listed = [i]) (hl : listed.setIfInBounds i true = listed')
    (hcall : ∀ args w, (callFunc f args).run P w = .ok (.enter f' args) w) (hx : evl l xs = some vs) (hd : Nat.blt d N.n = true) (hc : CallsH P f' vs.toArray h R)
    (k : ∀ v h', R v h' → Fin N w0 (HW P ops Q fuel listed') ((d, v) :: l) h') : Fin N w0 (HW P ops Q (fuel + 1) listed) l h := by
  subst hl
  refine ⟨fun a w ha hw => ⟨wpAny_all hr (by simp) fun j hj => ?_⟩⟩
  obtain rfl : j = i := by simpa using hj
  have hm := evl_map ha.evOk xs vs hx
  have hrun : (execOp a.eval ⟨some d, .call { callee := .value (.func f), args := xs.toArray, argTypes := ats }, ty, p, af, none⟩).run P w = .ok (.enter f' vs.toArray) w := by
    simp only [execOp, resolve, Sem.run_bind, Act.eval, Deferred.ofValue, Sem.run_pure, Result.andThen_ok, invoke, List.map_toArray, Array.empty_append, Array.append_empty]
    rw [show xs.map a.eval = vs from hm]
    exact hcall _ _
  unfold wpOp
  simp only [hi, Region.wanted, if_true, Oper.wp]
  refine .inl ?_
  rw [hrun, Oper.upon_enter]
  refine (hc.out w hw.heap).mono ?_
  rintro e w' ⟨v, rfl, hR, h1, h2, h3⟩
  exact ((k v _ hR).out _ _ (ha.put (lt_of_blt hd) v) (hw.same h1 h2 h3)).out
/-- Number i alone can come: it only looks. -/
theorem h_pur (i : Nat) {d : Nat} {o : Op} {ty : TypeId} {p : String} {af : Array Edge} {v : Value} {listed' : Array Bool} (hi : ops[i]? = some ⟨some d, o, ty, p, af, none⟩)
    (hr : Region.ready .any ops listed = [i]) (hl : listed.setIfInBounds i true = listed') (hp : Pur P o ty l h v) (hd : Nat.blt d N.n = true)
    (k : Fin N w0 (HW P ops Q fuel listed') ((d, v) :: l) h) : Fin N w0 (HW P ops Q (fuel + 1) listed) l h :=
  h_eff i hi hr hl (R := fun v' h' => v' = v ∧ h' = h) ⟨fun ρ w d p af g hρ hw => ⟨v, w, .inl (hp.out ρ w d p af g hρ hw), ⟨rfl, hw⟩, rfl, rfl, rfl⟩⟩ hd (fun v' h' ⟨e1, e2⟩ => by subst e1; subst e2; exact k)

/-! ### a loop, round by round -/
structure RW (P : Program) (c : Code) (Q : Exit → Act → World → Prop) (n : Nat) (a : Act) (w : World) : Prop where
  out : Code.rounds P c Q n a w
theorem c_rounds {c : Code} (n : Nat) (k : Fin N w0 (RW P c Q n) l h) : Fin N w0 (CW P (Code.loop c) Q) l h := ⟨fun a w ha hw => ⟨wp_loop_rounds n (k.out a w ha hw).out⟩⟩
theorem r_step {c : Code} {n : Nat} (k : Fin N w0 (CW P c (Exit.then (RW P c Q n) Q)) l h) : Fin N w0 (RW P c Q (n + 1)) l h :=
  ⟨fun a w ha hw => ⟨wp_mono (k.out a w ha hw).out fun e a' w' hq => by
    cases e with
    | normal => exact hq.out
    | _ => exact hq⟩⟩
end drive

section
variable {P : Program} {l : Env} {h : Heap} {ty : TypeId}
/-- A call of an extern that turns nothing. -/
theorem p_extern {f : Nat} {xs : List Operand} {ats : Array TypeId} {vs : List Value} {v : Value} (hx : evl l xs = some vs) (hr : ∀ w, (callFunc f vs.toArray).run P w = .ok (.value v) w) :
    Pur P (.call { callee := .value (.func f), args := xs.toArray, argTypes := ats }) ty l h v := by
  refine ⟨fun ρ w d p af g hρ hw => ?_⟩
  have hm := evl_map hρ xs vs hx
  have hf : ρ (.func f) = .func (.func f) #[] #[] := hρ _ _ rfl
  simp only [execOp, resolve, Sem.run_bind, hf, Deferred.ofValue, Sem.run_pure, Result.andThen_ok, invoke, List.map_toArray, Array.empty_append, Array.append_empty]
  rw [show xs.map ρ = vs from hm]
  exact hr w
theorem p_cap {x : Operand} {t e : TypeId} {a : Option Addr} {n c : Nat} (hx : ev l x = some (.slice a n c)) (hu : P.underlying t = some (.slice e)) :
    Pur P (.call { callee := .builtin .cap, args := #[x], argTypes := #[t] }) ty l h (.int .i64 c) := by
  refine ⟨fun ρ w d p af g hρ hw => ?_⟩
  simp [execOp, resolve, invoke, builtin, Builtin.cap_, hρ _ _ hx, run_underlying hu, goInt]
/-- x[lo:hi]. -/
theorem p_sliceLH {x lo hi : Operand} {t e : TypeId} {b o n c p q : Nat} {k k' : IntKind} (hx : ev l x = some (.slice (some ⟨b, o, none⟩) n c)) (hlo : ev l lo = some (.int k p)) (hhi : ev l hi = some (.int k' q)) (h1 : p ≤ q) (h2 : q ≤ c) (h3 : p < c)
    (hu : P.underlying t = some (.slice e)) (hs : ∀ w, (sizeOf e).run P w = .ok 1 w) :
    Pur P (.slice t x (some lo) (some hi) none) ty l h (.slice (some ⟨b, o + p, none⟩) (q - p) (c - p)) := by
  refine ⟨fun ρ w d pp af g hρ hw => ?_⟩
  have h1' : (p : Int) ≤ (q : Int) := by omega
  have h2' : (q : Int) ≤ (c : Int) := by omega
  simp only [execOp, hρ _ _ hx, hρ _ _ hlo, hρ _ _ hhi, Instr.sliceAt, Instr.slice, Sem.run_bind, run_underlying hu, Result.andThen_ok, Option.map_none, Option.map_some, Instr.sliceBounds, Instr.sliceBound, asIntOf, Sem.run_pure, Option.isSome_none]
  simp [h1', h2', hs, show ¬ c = p by omega, add_none]
  intro hq
  omega
/-- x[lo:]. -/
theorem p_sliceL {x lo : Operand} {t e : TypeId} {b o n c p : Nat} {k : IntKind} (hx : ev l x = some (.slice (some ⟨b, o, none⟩) n c)) (hlo : ev l lo = some (.int k p)) (h1 : p ≤ n) (h3 : p < c)
    (hu : P.underlying t = some (.slice e)) (hs : ∀ w, (sizeOf e).run P w = .ok 1 w) :
    Pur P (.slice t x (some lo) none none) ty l h (.slice (some ⟨b, o + p, none⟩) (n - p) (c - p)) := by
  refine ⟨fun ρ w d pp af g hρ hw => ?_⟩
  have h1' : (p : Int) ≤ (n : Int) := by omega
  simp only [execOp, hρ _ _ hx, hρ _ _ hlo, Instr.sliceAt, Instr.slice, Sem.run_bind, run_underlying hu, Result.andThen_ok, Option.map_none, Option.map_some, Instr.sliceBounds, Instr.sliceBound, asIntOf, Sem.run_pure, Option.isSome_none]
  simp [h1', hs, show ¬ c = p by omega, add_none]
/-- x[n:] where nothing is left, not even room. -/
theorem p_sliceL0 {x lo : Operand} {t e : TypeId} {b o n : Nat} {k : IntKind} (hx : ev l x = some (.slice (some ⟨b, o, none⟩) n n)) (hlo : ev l lo = some (.int k n))
    (hu : P.underlying t = some (.slice e)) (hs : ∀ w, (sizeOf e).run P w = .ok 1 w) :
    Pur P (.slice t x (some lo) none none) ty l h (.slice (some ⟨b, o, none⟩) 0 0) := by
  refine ⟨fun ρ w d pp af g hρ hw => ?_⟩
  simp only [execOp, hρ _ _ hx, hρ _ _ hlo, Instr.sliceAt, Instr.slice, Sem.run_bind, run_underlying hu, Result.andThen_ok, Option.map_none, Option.map_some, Instr.sliceBounds, Instr.sliceBound, asIntOf, Sem.run_pure, Option.isSome_none]
  simp [hs]
/-- x[0:hi] of any slice. -/
theorem p_slice0H {x lo hi : Operand} {t e : TypeId} {a : Option Addr} {n c q : Nat} {k k' : IntKind} (hx : ev l x = some (.slice a n c)) (hlo : ev l lo = some (.int k 0)) (hhi : ev l hi = some (.int k' q)) (h2 : q ≤ c)
    (hu : P.underlying t = some (.slice e)) (hs : ∀ w, (sizeOf e).run P w = .ok 1 w) :
    Pur P (.slice t x (some lo) (some hi) none) ty l h (.slice a q c) := by
  refine ⟨fun ρ w d pp af g hρ hw => ?_⟩
  have h2' : (q : Int) ≤ (c : Int) := by omega
  simp only [execOp, hρ _ _ hx, hρ _ _ hlo, hρ _ _ hhi, Instr.sliceAt, Instr.slice, Sem.run_bind, run_underlying hu, Result.andThen_ok, Option.map_none, Option.map_some, Instr.sliceBounds, Instr.sliceBound, asIntOf, Sem.run_pure, Option.isSome_none]
  simp [h2', hs]
  intro _
  cases a <;> simp [Addr.add]

/-- One cell turned: every other reads as before. -/
theorem hc_set {h h' : Heap} {b o : Nat} {v : Value} {cur : Array Value} {e : TypeId} (hb : h[b]? = some (.cells cur e (0, 0))) (hu : Upd h h' b (.cells (cur.setIfInBounds o v) e (0, 0))) {b' j : Nat} (hne : b' = b → j ≠ o) : hc h' b' j = hc h b' j := by
  by_cases hbb : b' = b
  · subst hbb
    rw [hc_of hu.at_, hc_of hb, Array.getElem?_setIfInBounds, if_neg (by have := hne rfl; omega)]
  · exact hc_congr (hu.other b' hbb) j
theorem hc_set_at {h h' : Heap} {b o : Nat} {v : Value} {cur : Array Value} {e : TypeId} (ho : o < cur.size) (hu : Upd h h' b (.cells (cur.setIfInBounds o v) e (0, 0))) : hc h' b o = some v := by
  rw [hc_of hu.at_, Array.getElem?_setIfInBounds]
  simp [ho]

theorem p_pneqT {x y : Operand} {t t2 e : TypeId} {a b : Addr} {size : Nat} {ca cb : Array Value} {ta tb : TypeId} (hx : ev l x = some (.pointer (some a))) (hy : ev l y = some (.pointer (some b))) (hne : a ≠ b) (ha : h[a.block]? = some (.cells ca ta (0, 0))) (hb : h[b.block]? = some (.cells cb tb (0, 0)))
    (hu : P.underlying t = some (.pointer e)) (hs : ∀ w, (sizeOf e).run P w = .ok (size + 1) w) : Pur P (.binOp .neq t x y t2) ty l h (.bool true) := by
  refine ⟨fun ρ w d p af g hρ hw => ?_⟩
  have he : (Op.equal t (.pointer (some a)) (.pointer (some b))).run P w = .ok false w := run_equal fun d => by
    simp [Op.equalIn, run_underlying hu, hs, run_sameAddr_other w hne (by rw [hw]; exact ha) (by rw [hw]; exact hb)]
  simp [execOp, hρ _ _ hx, hρ _ _ hy, eqGuard, binOp, he]
theorem p_peqlF {x y : Operand} {t t2 e : TypeId} {a b : Addr} {size : Nat} {ca cb : Array Value} {ta tb : TypeId} (hx : ev l x = some (.pointer (some a))) (hy : ev l y = some (.pointer (some b))) (hne : a ≠ b) (ha : h[a.block]? = some (.cells ca ta (0, 0))) (hb : h[b.block]? = some (.cells cb tb (0, 0)))
    (hu : P.underlying t = some (.pointer e)) (hs : ∀ w, (sizeOf e).run P w = .ok (size + 1) w) : Pur P (.binOp .eql t x y t2) ty l h (.bool false) := by
  refine ⟨fun ρ w d p af g hρ hw => ?_⟩
  have he : (Op.equal t (.pointer (some a)) (.pointer (some b))).run P w = .ok false w := run_equal fun d => by
    simp [Op.equalIn, run_underlying hu, hs, run_sameAddr_other w hne (by rw [hw]; exact ha) (by rw [hw]; exact hb)]
  simp [execOp, hρ _ _ hx, hρ _ _ hy, eqGuard, binOp, he]

/-- copy of n one-cell elements into a row. -/
theorem e_copy {x y : Operand} {t e : TypeId} {g o dL dC sL sC : Nat} {ad : Addr} {cur : Array Value} {et : TypeId} {cs : List Value} (hx : ev l x = some (.slice (some ⟨g, o, none⟩) dL dC)) (hy : ev l y = some (.slice (some ad) sL sC)) (hu : P.underlying t = some (.slice e))
    (hs : (P.info? e).map (·.size) = some 1) (hg : h[g]? = some (.cells cur et (0, 0))) (hn : cs.length = Nat.min sL dL) (hsrc : ∀ j v, cs[j]? = some v → (mkW h).cell? (ad.add j) = some v) (hfit : o + cs.length ≤ cur.size) (h1 : ∀ v ∈ cs, v.oneCell' = true) :
    Eff P (.call { callee := .builtin .copy, args := #[x, y], argTypes := #[t, t] }) ty l h (fun _ h' => Upd h h' g (.cells (cur.toList.take o ++ cs ++ cur.toList.drop (o + cs.length)).toArray et (0, 0))) := by
  refine ⟨fun ρ w d p af g' hρ hw => ?_⟩
  subst hw
  have hr := run_copy_row (P := P) w t t ty e g o dL dC ad sL sC cur et cs hu hs hg hn (fun j v hj => hsrc j v hj) hfit h1
  refine ⟨goInt cs.length, w.setRow g (cur.toList.take o ++ cs ++ cur.toList.drop (o + cs.length)).toArray, .inl ?_, ⟨?_, ?_, ?_⟩, rfl, rfl, rfl⟩
  · simp [execOp, resolve, invoke, builtin, hρ _ _ hx, hρ _ _ hy, hr]
  · simp [World.setRow]
  · exact setRow_heap w g cur _ et _ hg
  · intro k hk
    simp only [World.setRow, Array.getElem?_modify]
    rw [if_neg (by omega)]
theorem p_copy0 {x y : Operand} {t e : TypeId} {a b : Option Addr} {dL dC sL sC : Nat} (hx : ev l x = some (.slice a dL dC)) (hy : ev l y = some (.slice b sL sC)) (hu : P.underlying t = some (.slice e)) (hs : (P.info? e).map (·.size) = some 1) (hn : Nat.min sL dL = 0) :
    Pur P (.call { callee := .builtin .copy, args := #[x, y], argTypes := #[t, t] }) ty l h (.int .i64 0) := by
  refine ⟨fun ρ w d p af g hρ hw => ?_⟩
  have hr := run_copy_none (P := P) w t t ty e a b dL dC sL sC hu hs hn
  simp [execOp, resolve, invoke, builtin, hρ _ _ hx, hρ _ _ hy, hr, goInt]
end
end V
end Go.Proofs.Ybulkdiqq
