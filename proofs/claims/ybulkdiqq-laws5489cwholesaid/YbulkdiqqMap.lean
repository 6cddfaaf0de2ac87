/-
  Map: a map in memory as a list of keys and elements, in the order in which they came. Own work of this seat. Generic: over any program.
-/
import Derived.Test.YbulkdiqqTwin
import Derived.MapKept
import Derived.Carry
namespace Go.Proofs.Ybulkdiqq
set_option linter.unusedSimpArgs false
set_option linter.unusedVariables false
set_option linter.unnecessarySimpa false
set_option linter.unusedSectionVars false
namespace V
open Go Go.RowKit

/-! ### lists of keys and elements -/
section
variable {α β : Type} [DecidableEq α]
def getM : List (α × β) → α → Option β
  | [], _ => none
  | (a, u) :: L, k => if a = k then some u else getM L k
def putM : List (α × β) → α → β → List (α × β)
  | [], k, v => [(k, v)]
  | (a, u) :: L, k, v => if a = k then (a, v) :: L else (a, u) :: putM L k v
def delM : List (α × β) → α → List (α × β)
  | [], _ => []
  | (a, u) :: L, k => if a = k then L else (a, u) :: delM L k
/-- Where the key lies first, counted from i. -/
def posM : List (α × β) → α → Nat → Option (Nat × β)
  | [], _, _ => none
  | (a, u) :: L, k, i => if a = k then some (i, u) else posM L k (i + 1)

theorem posM_some : ∀ {L : List (α × β)} {k : α} {i j : Nat} {v : β}, posM L k i = some (j, v) → i ≤ j ∧ getM L k = some v ∧ L[j - i]? = some (k, v) ∧ (∀ u, putM L k u = L.set (j - i) (k, u)) ∧ delM L k = L.eraseIdx (j - i)
  | [], _, _, _, _, h => by simp [posM] at h
  | (a, u) :: L, k, i, j, v, h => by
    unfold posM at h
    by_cases e : a = k
    · rw [if_pos e] at h
      simp only [Option.some.injEq, Prod.mk.injEq] at h
      obtain ⟨rfl, rfl⟩ := h
      subst e
      simp [getM, putM, delM]
    · rw [if_neg e] at h
      obtain ⟨h1, h2, h3, h4, h5⟩ := posM_some h
      obtain ⟨d, rfl⟩ : ∃ d, j = i + 1 + d := ⟨j - (i + 1), by omega⟩
      have e1 : i + 1 + d - (i + 1) = d := by omega
      have e2 : i + 1 + d - i = d + 1 := by omega
      rw [e1] at h3 h4 h5
      rw [e2]
      refine ⟨by omega, by simp [getM, e, h2], by simpa using h3, fun u' => by simp [putM, e, h4], by simp [delM, e, h5]⟩
theorem posM_none : ∀ {L : List (α × β)} {k : α} {i : Nat}, posM L k i = none → getM L k = none ∧ (∀ u, putM L k u = L ++ [(k, u)]) ∧ delM L k = L
  | [], _, _, h => by simp [getM, putM, delM]
  | (a, u) :: L, k, i, h => by
    unfold posM at h
    by_cases e : a = k
    · rw [if_pos e] at h; cases h
    · rw [if_neg e] at h
      obtain ⟨h1, h2, h3⟩ := posM_none h
      simp [getM, putM, delM, e, h1, h2, h3]
theorem get_put (L : List (α × β)) (k x : α) (v : β) : getM (putM L k v) x = if k = x then some v else getM L x := by
  induction L with
  | nil => simp [putM, getM]
  | cons p L ih =>
    obtain ⟨a, u⟩ := p
    unfold putM
    by_cases e : a = k
    · subst e
      simp only [if_true]
      unfold getM
      by_cases e2 : a = x <;> simp [e2]
    · rw [if_neg e]
      simp only [getM, ih]
      by_cases e2 : a = x
      · subst e2
        have e3 : ¬ k = a := fun h => e h.symm
        simp [e3]
      · simp [e2]
def KeysND (L : List (α × β)) : Prop := (L.map (·.1)).Nodup
theorem getM_none_iff (L : List (α × β)) (k : α) : getM L k = none ↔ k ∉ L.map (·.1) := by
  induction L with
  | nil => simp [getM]
  | cons p L ih =>
    obtain ⟨a, u⟩ := p
    unfold getM
    by_cases e : a = k
    · simp [e]
    · simp only [if_neg e, ih, List.map_cons, List.mem_cons, not_or]
      exact ⟨fun h => ⟨fun e' => e e'.symm, h⟩, fun h => h.2⟩
theorem keys_put (L : List (α × β)) (k : α) (v : β) : (putM L k v).map (·.1) = if k ∈ L.map (·.1) then L.map (·.1) else L.map (·.1) ++ [k] := by
  induction L with
  | nil => simp [putM]
  | cons p L ih =>
    obtain ⟨a, u⟩ := p
    unfold putM
    by_cases e : a = k
    · simp [e]
    · rw [if_neg e]
      simp only [List.map_cons, ih, List.mem_cons]
      have : ¬ k = a := fun h => e h.symm
      simp only [this, false_or]
      split <;> simp_all
theorem KeysND.put {L : List (α × β)} (h : KeysND L) (k : α) (v : β) : KeysND (putM L k v) := by
  unfold KeysND at *
  rw [keys_put]
  split
  · exact h
  · rename_i hk
    rw [List.nodup_append]
    exact ⟨h, by simp, fun a ha b hb => by simp at hb; subst hb; intro e; exact hk (e ▸ ha)⟩
theorem mem_del {L : List (α × β)} {k a : α} (h : a ∈ (delM L k).map (·.1)) : a ∈ L.map (·.1) := by
  induction L with
  | nil => simpa [delM] using h
  | cons p L ih =>
    obtain ⟨b, u⟩ := p
    unfold delM at h
    by_cases e : b = k
    · rw [if_pos e] at h; simp only [List.map_cons, List.mem_cons]; exact .inr h
    · rw [if_neg e] at h
      simp only [List.map_cons, List.mem_cons] at h ⊢
      exact h.imp id ih
theorem KeysND.del {L : List (α × β)} (h : KeysND L) (k : α) : KeysND (delM L k) := by
  induction L with
  | nil => simpa [delM] using h
  | cons p L ih =>
    obtain ⟨a, u⟩ := p
    unfold KeysND at h ih ⊢
    simp only [List.map_cons, List.nodup_cons] at h
    unfold delM
    by_cases e : a = k
    · rw [if_pos e]; exact h.2
    · rw [if_neg e]
      simp only [List.map_cons, List.nodup_cons]
      exact ⟨fun hm => h.1 (mem_del hm), ih h.2⟩
theorem get_del {L : List (α × β)} (h : KeysND L) (k x : α) : getM (delM L k) x = if k = x then none else getM L x := by
  induction L with
  | nil => simp [delM, getM]
  | cons p L ih =>
    obtain ⟨a, u⟩ := p
    unfold KeysND at h
    simp only [List.map_cons, List.nodup_cons] at h
    unfold delM
    by_cases e : a = k
    · subst e
      rw [if_pos rfl]
      by_cases e2 : a = x
      · subst e2
        rw [if_pos rfl]
        exact (getM_none_iff L a).2 h.1
      · simp [getM, e2]
    · rw [if_neg e]
      simp only [getM, ih h.2]
      by_cases e2 : a = x
      · subst e2
        have e3 : ¬ k = a := fun h => e h.symm
        simp [e3]
      · simp [e2]
end

theorem map_erase {γ δ : Type} (f : γ → δ) : ∀ (L : List γ) (i : Nat), (L.eraseIdx i).map f = (L.map f).eraseIdx i
  | [], _ => by simp
  | a :: L, 0 => by simp
  | a :: L, i + 1 => by simp [map_erase f L i]

/-! ### in memory -/
structure KeyEnc (P : Program) (k : TypeId) {α : Type} [DecidableEq α] (mk : α → Value) : Prop where
  check : ∀ w em x, (Instr.checkKey em 10000 k (mk x)).run P w = .ok () w
  find : ∀ w x (L : List (α × Value)) (es : List MapEntry), es.map (fun e => (e.key, e.val)) = L.map (fun p => (mk p.1, p.2)) → (Instr.findKey k (mk x) es).run P w = .ok (posM L x 0) w
  stays : ∀ w x, (Instr.keyThatStays (mk x) (mk x)).run P w = .ok (mk x) w

section
variable {α : Type} [DecidableEq α] {mk : α → Value}
/-- Block b is a map that holds L. -/
def MapAt (mk : α → Value) (h : Heap) (b : Nat) (L : List (α × Value)) : Prop :=
  ∃ es clock, h[b]? = some (.map es clock) ∧ es.toList.map (fun e => (e.key, e.val)) = L.map (fun p => (mk p.1, p.2))
theorem MapAt.lt {h : Heap} {b : Nat} {L : List (α × Value)} (hm : MapAt mk h b L) : b < h.size := by
  obtain ⟨es, c, hb, _⟩ := hm; exact lt_of_get hb
theorem MapAt.keep {h h' : Heap} {b : Nat} {L : List (α × Value)} (hm : MapAt mk h b L) (e : h'[b]? = h[b]?) : MapAt mk h' b L := by
  obtain ⟨es, c, hb, r⟩ := hm; exact ⟨es, c, by rw [e]; exact hb, r⟩
/-- One map has been turned. -/
structure UpdM (mk : α → Value) (h h' : Heap) (b : Nat) (L : List (α × Value)) : Prop where
  size : h'.size = h.size
  at_ : MapAt mk h' b L
  other : ∀ k, k ≠ b → h'[k]? = h[k]?

variable {P : Program} {l : Env} {h : Heap} {ty : TypeId}
theorem e_makeMap {t : TypeId} : Eff P (.makeMap t none) ty l h (fun u h' => u = .map (some h.size) ∧ New h h' (.map #[] 0)) := by
  refine ⟨fun ρ w d p af g hρ hw => ?_⟩
  refine ⟨.map (some h.size), w.alloc (.map #[] 0), .inl ?_, ⟨rfl, ?_⟩, rfl, rfl, rfl⟩
  · have := run_makeMap (P := P) t w
    simp [execOp, this, hw]
  · rw [← hw]; exact New.push _ _
theorem MapAt.new {h h' : Heap} (hn : New h h' (.map #[] 0)) : MapAt mk h' h.size ([] : List (α × Value)) := ⟨#[], 0, hn.at_, rfl⟩

theorem p_lookup {x y : Operand} {t k e : TypeId} {b : Nat} {key : α} {z : Value} {L : List (α × Value)} (K : KeyEnc P k mk) (hx : ev l x = some (.map (some b))) (hy : ev l y = some (mk key)) (hu : P.underlying t = some (.map k e)) (hz : ∀ w, (zeroValue e).run P w = .ok z w) (hm : MapAt mk h b L) :
    Pur P (.lookup t x y false) ty l h ((getM L key).getD z) := by
  refine ⟨fun ρ w d p af g hρ hw => ?_⟩
  obtain ⟨es, clock, hb, hes⟩ := hm
  rw [← hw] at hb
  have hf := K.find w key L es.toList hes
  have hr : (Instr.lookup t (.map (some b)) (mk key) false).run P w = .ok ((getM L key).getD z) w := by
    cases hp : posM L key 0 with
    | none =>
      rw [hp] at hf
      simp [Instr.lookup, run_underlying hu, Go.MapKept.run_getObj_map hb, K.check, hf, hz, (posM_none hp).1]
    | some q =>
      obtain ⟨j, v⟩ := q
      rw [hp] at hf
      simp [Instr.lookup, run_underlying hu, Go.MapKept.run_getObj_map hb, K.check, hf, (posM_some hp).2.1]
  simp [execOp, hρ _ _ hx, hρ _ _ hy, hr]
theorem p_lookup' {x y : Operand} {t k e : TypeId} {b : Nat} {key : α} {z v : Value} {L : List (α × Value)} (K : KeyEnc P k mk) (hx : ev l x = some (.map (some b))) (hy : ev l y = some (mk key)) (hu : P.underlying t = some (.map k e)) (hz : ∀ w, (zeroValue e).run P w = .ok z w) (hm : MapAt mk h b L) (hv : (getM L key).getD z = v) :
    Pur P (.lookup t x y false) ty l h v := hv ▸ p_lookup K hx hy hu hz hm
theorem p_mapLen {x : Operand} {t k e : TypeId} {b : Nat} {L : List (α × Value)} (hx : ev l x = some (.map (some b))) (hu : P.underlying t = some (.map k e)) (hm : MapAt mk h b L) :
    Pur P (.call { callee := .builtin .len, args := #[x], argTypes := #[t] }) ty l h (.int .i64 L.length) := by
  refine ⟨fun ρ w d p af g hρ hw => ?_⟩
  obtain ⟨es, clock, hb, hes⟩ := hm
  rw [← hw] at hb
  have hl : es.size = L.length := by
    have := congrArg List.length hes
    simpa using this
  simp [execOp, resolve, invoke, builtin, Builtin.len_, hρ _ _ hx, run_underlying hu, Go.MapKept.run_getObj_map hb, goInt, hl]

theorem set_get {h : Heap} {b : Nat} {o o' : Obj} (hb : h[b]? = some o) : (h.setIfInBounds b o').size = h.size ∧ (h.setIfInBounds b o')[b]? = some o' ∧ ∀ k, k ≠ b → (h.setIfInBounds b o')[k]? = h[k]? := by
  have hlt := lt_of_get hb
  refine ⟨by simp, by simp [hlt], fun k hk => ?_⟩
  rw [Array.getElem?_setIfInBounds, if_neg (by omega)]

theorem e_mapUpd {x y v : Operand} {t k e : TypeId} {b : Nat} {key : α} {u : Value} {L : List (α × Value)} (K : KeyEnc P k mk) (hx : ev l x = some (.map (some b))) (hy : ev l y = some (mk key)) (hv : ev l v = some u) (hu : P.underlying t = some (.map k e)) (hm : MapAt mk h b L) :
    Eff P (.mapUpdate t x y v) ty l h (fun _ h' => UpdM mk h h' b (putM L key u)) := by
  refine ⟨fun ρ w d p af g hρ hw => ?_⟩
  obtain ⟨es, clock, hb, hes⟩ := hm
  rw [← hw] at hb
  have hf := K.find w key L es.toList hes
  cases hp : posM L key 0 with
  | none =>
    rw [hp] at hf
    obtain ⟨_, hput, _⟩ := posM_none hp
    have hr : (Instr.mapUpdate t (.map (some b)) (mk key) u).run P w = .ok () { w with heap := w.heap.setIfInBounds b (.map (es.push { key := mk key, val := u, born := clock }) (clock + 1)) } := by
      simp [Instr.mapUpdate, run_underlying hu, Go.MapKept.run_getObj_map hb, K.check, hf, Go.MapKept.run_setObj_map _ hb]
    obtain ⟨s1, s2, s3⟩ := set_get (o' := .map (es.push { key := mk key, val := u, born := clock }) (clock + 1)) hb
    refine ⟨undef, { w with heap := w.heap.setIfInBounds b (.map (es.push { key := mk key, val := u, born := clock }) (clock + 1)) }, .inr ⟨?_, rfl⟩, ⟨?_, ⟨_, _, s2, ?_⟩, ?_⟩, rfl, rfl, rfl⟩
    · simp [execOp, hρ _ _ hx, hρ _ _ hy, hρ _ _ hv, hr]
    · rw [← hw]; exact s1
    · rw [hput]; simp [hes]
    · intro k hk; rw [← hw]; exact s3 k hk
  | some q =>
    obtain ⟨j, v0⟩ := q
    rw [hp] at hf
    obtain ⟨_, _, hj, hput, _⟩ := posM_some hp
    simp only [Nat.sub_zero] at hj hput
    have hkey : ((es[j]?).map (·.key)).getD (mk key) = mk key := by
      cases he : es[j]? with
      | none => rfl
      | some e0 =>
        have h1 : (es.toList.map (fun e => (e.key, e.val)))[j]? = some (e0.key, e0.val) := by simp [he]
        rw [hes] at h1
        simp [hj] at h1
        simp [h1.1]
    have hr : (Instr.mapUpdate t (.map (some b)) (mk key) u).run P w = .ok () { w with heap := w.heap.setIfInBounds b (.map (es.modify j fun e => { e with key := mk key, val := u }) clock) } := by
      simp [Instr.mapUpdate, run_underlying hu, Go.MapKept.run_getObj_map hb, K.check, hf, hkey, K.stays, Go.MapKept.run_setObj_map _ hb]
    obtain ⟨s1, s2, s3⟩ := set_get (o' := .map (es.modify j fun e => { e with key := mk key, val := u }) clock) hb
    refine ⟨undef, { w with heap := w.heap.setIfInBounds b (.map (es.modify j fun e => { e with key := mk key, val := u }) clock) }, .inr ⟨?_, rfl⟩, ⟨?_, ⟨_, _, s2, ?_⟩, ?_⟩, rfl, rfl, rfl⟩
    · simp [execOp, hρ _ _ hx, hρ _ _ hy, hρ _ _ hv, hr]
    · rw [← hw]; exact s1
    · rw [hput, List.map_set, ← hes]
      apply List.ext_getElem?
      intro i
      simp only [List.getElem?_map, Array.getElem?_toList, Array.getElem?_modify, List.getElem?_set, List.length_map, Array.length_toList]
      by_cases hij : j = i
      · subst hij
        rw [if_pos rfl, if_pos rfl]
        cases he : es[j]? with
        | none => simp [Array.getElem?_eq_none_iff.1 he]
        | some e0 => simp [(Array.getElem?_eq_some_iff.1 he).1]
      · rw [if_neg hij, if_neg hij]
    · intro k hk; rw [← hw]; exact s3 k hk

theorem e_mapDel {x y : Operand} {t k e : TypeId} {b : Nat} {key : α} {L : List (α × Value)} (K : KeyEnc P k mk) (hx : ev l x = some (.map (some b))) (hy : ev l y = some (mk key)) (hu : P.underlying t = some (.map k e)) (hm : MapAt mk h b L) :
    Eff P (.call { callee := .builtin .delete, args := #[x, y], argTypes := #[t, k] }) ty l h (fun _ h' => UpdM mk h h' b (delM L key)) := by
  refine ⟨fun ρ w d p af g hρ hw => ?_⟩
  obtain ⟨es, clock, hb, hes⟩ := hm
  rw [← hw] at hb
  have hf := K.find w key L es.toList hes
  cases hp : posM L key 0 with
  | none =>
    rw [hp] at hf
    obtain ⟨_, _, hdel⟩ := posM_none hp
    have hr : (Builtin.delete_ #[t, k] ty #[.map (some b), mk key]).run P w = .ok (.tuple #[]) { w with heap := w.heap.setIfInBounds b (.map es clock) } := by
      simp [Builtin.delete_, run_underlying hu, Go.MapKept.run_getObj_map hb, K.check, hf, Go.MapKept.run_setObj_map _ hb]
    obtain ⟨s1, s2, s3⟩ := set_get (o' := .map es clock) hb
    refine ⟨.tuple #[], { w with heap := w.heap.setIfInBounds b (.map es clock) }, .inl ?_, ⟨?_, ⟨_, _, s2, ?_⟩, ?_⟩, rfl, rfl, rfl⟩
    · simp [execOp, resolve, invoke, builtin, hρ _ _ hx, hρ _ _ hy, hr]
    · rw [← hw]; exact s1
    · rw [hdel]; exact hes
    · intro k hk; rw [← hw]; exact s3 k hk
  | some q =>
    obtain ⟨j, v0⟩ := q
    rw [hp] at hf
    obtain ⟨_, _, hj, _, hdel⟩ := posM_some hp
    simp only [Nat.sub_zero] at hj hdel
    have hr : (Builtin.delete_ #[t, k] ty #[.map (some b), mk key]).run P w = .ok (.tuple #[]) { w with heap := w.heap.setIfInBounds b (.map (es.eraseIdxIfInBounds j) clock) } := by
      simp [Builtin.delete_, run_underlying hu, Go.MapKept.run_getObj_map hb, K.check, hf, Go.MapKept.run_setObj_map _ hb]
    obtain ⟨s1, s2, s3⟩ := set_get (o' := .map (es.eraseIdxIfInBounds j) clock) hb
    refine ⟨.tuple #[], { w with heap := w.heap.setIfInBounds b (.map (es.eraseIdxIfInBounds j) clock) }, .inl ?_, ⟨?_, ⟨_, _, s2, ?_⟩, ?_⟩, rfl, rfl, rfl⟩
    · simp [execOp, resolve, invoke, builtin, hρ _ _ hx, hρ _ _ hy, hr]
    · rw [← hw]; exact s1
    · rw [hdel]
      have hlt : j < es.size := by
        have h1 := congrArg List.length hes
        simp at h1
        have := (List.getElem?_eq_some_iff.1 hj).1
        omega
      rw [Array.eraseIdxIfInBounds, dif_pos hlt]
      simp only [Array.toList_eraseIdx]
      rw [map_erase, map_erase, hes]
    · intro k hk; rw [← hw]; exact s3 k hk
end
end V
end Go.Proofs.Ybulkdiqq
