/-
  V: A WALK OVER A FRAME THAT IS A VARIABLE. Own work of this seat. Generic: over any program.
  A frame is known by a short list of (slot, value); a world is known by its heap; what stands behind is asked of every frame and every world that fit.
-/
import Derived.WalkKit
import Derived.WalkSpells
import Derived.WalkLawsBesides
import Derived.Deep.Quiet
import Derived.Deep.LoopGhost
import Derived.OrdersHeld
namespace Go.Proofs.Ybulkdiqq
set_option linter.unusedSimpArgs false
set_option linter.unusedVariables false
set_option linter.unnecessarySimpa false
namespace V
open Go Go.RowKit

abbrev Heap := Array Obj
abbrev Env := List (Nat × Value)

def look : Env → Nat → Option Value
  | [], _ => none
  | p :: l, t => bif Nat.beq p.1 t then some p.2 else look l t

def ev (l : Env) : Operand → Option Value
  | .tmp t => look l t
  | .const v => some v
  | .global g => some (.pointer (some ⟨g, 0, none⟩))
  | .func f => some (.func (.func f) #[] #[])

def evl (l : Env) : List Operand → Option (List Value)
  | [] => some []
  | x :: xs => match ev l x with
    | none => none
    | some v => match evl l xs with
      | none => none
      | some vs => some (v :: vs)

/-- How many slots a frame has, and which calls it has deferred. -/
structure Nt where
  n : Nat
  ds : List Deferred
instance {k : Nat} : OfNat Nt k := ⟨⟨k, []⟩⟩
structure Rep (N : Nt) (a : Act) (l : Env) : Prop where
  size : a.tmps.size = N.n
  defers : a.defers = N.ds
  slot : ∀ t v, look l t = some v → a.tmps.getD t undef = v

/-- The world's heap is h; its streams are those of w0. -/
structure St (w0 : World) (h : Heap) (w : World) : Prop where
  heap : w.heap = h
  os : w.os = w0.os
  tape : w.tape = w0.tape
  output : w.output = w0.output

/-- (Structures, not definitions: two of them that do not fit part at once.) -/
structure Fin (N : Nt) (w0 : World) (K : Act → World → Prop) (l : Env) (h : Heap) : Prop where
  out : ∀ a w, Rep N a l → St w0 h w → K a w
structure CW (P : Program) (c : Code) (Q : Exit → Act → World → Prop) (a : Act) (w : World) : Prop where
  out : c.wp P Q a w
structure LW (P : Program) (ops : Array Oper) (Q : Exit → Act → World → Prop) (rest : List Oper) (a : Act) (w : World) : Prop where
  out : wpList P ops Q rest a w
structure XW (Q : Exit → Act → World → Prop) (e : Exit) (a : Act) (w : World) : Prop where
  out : Q e a w

def EvOk (ρ : Operand → Value) (l : Env) : Prop := ∀ x v, ev l x = some v → ρ x = v

theorem Rep.evOk {N : Nt} {a : Act} {l : Env} (h : Rep N a l) : EvOk a.eval l := by
  intro x v hx
  cases x with
  | tmp t => exact h.slot t v hx
  | const u => simpa [ev, Act.eval] using hx
  | global g => simpa [ev, Act.eval] using hx
  | func f => simpa [ev, Act.eval] using hx

theorem evl_map {ρ : Operand → Value} {l : Env} (h : EvOk ρ l) : ∀ (xs : List Operand) (vs : List Value), evl l xs = some vs → xs.map ρ = vs
  | [], vs, hv => by simp [evl] at hv; simp [hv]
  | x :: xs, vs, hv => by
    unfold evl at hv
    split at hv
    · cases hv
    · rename_i v hx
      split at hv
      · cases hv
      · rename_i us hus
        cases hv
        simp [h x v hx, evl_map h xs us hus]

theorem look_cons (d : Nat) (v : Value) (l : Env) (t : Nat) : look ((d, v) :: l) t = if d = t then some v else look l t := by
  by_cases h : d = t
  · subst h; simp [look]
  · have hb : Nat.beq d t = false := by
      cases hb : Nat.beq d t with
      | false => rfl
      | true => exact absurd (Nat.eq_of_beq_eq_true hb) h
    show (bif Nat.beq d t then some v else look l t) = _
    rw [hb, if_neg h]
    rfl

theorem Rep.put {N : Nt} {a : Act} {l : Env} (h : Rep N a l) {d : Nat} (hd : d < N.n) (v : Value) : Rep N (a.put (some d) v) ((d, v) :: l) := by
  refine ⟨?_, h.defers, ?_⟩
  · simp [Act.put, h.size]
  · intro t u ht
    rw [look_cons] at ht
    by_cases e : d = t
    · subst e
      simp at ht
      subst ht
      have : d < a.tmps.size := by rw [h.size]; exact hd
      simp [Act.put, this]
    · simp [e] at ht
      have := h.slot t u ht
      simp only [Act.put, Array.getD_eq_getD_getElem?, Array.getElem?_setIfInBounds_ne e] at this ⊢
      exact this

/-- Less is known of the frame. -/
def Sub (l' l : Env) : Prop := ∀ t v, look l' t = some v → look l t = some v
theorem Rep.sub {N : Nt} {a : Act} {l l' : Env} (h : Rep N a l) (hs : Sub l' l) : Rep N a l' := ⟨h.size, h.defers, fun t v ht => h.slot t v (hs t v ht)⟩
theorem Sub.nil {l : Env} : Sub [] l := fun t v h => by simp [look] at h
theorem Sub.cons {l l' : Env} {d : Nat} {v : Value} (h : look l d = some v) (hs : Sub l' l) : Sub ((d, v) :: l') l := by
  intro t u ht
  rw [look_cons] at ht
  by_cases e : d = t
  · subst e; simp at ht; subst ht; exact h
  · simp [e] at ht; exact hs t u ht
theorem Sub.cons' {l l' : Env} {d : Nat} {v v' : Value} (h : look l d = some v) (e : v = v') (hs : Sub l' l) : Sub ((d, v') :: l') l := .cons (e ▸ h) hs
theorem int_eq {k : IntKind} {a b : Int} (h : a = b) : Value.int k a = .int k b := by rw [h]
theorem Sub.refl {l : Env} : Sub l l := fun _ _ h => h

theorem St.same {w0 w : World} {h : Heap} (hs : St w0 h w) {w' : World} (h1 : w'.os = w.os) (h2 : w'.tape = w.tape) (h3 : w'.output = w.output) : St w0 w'.heap w' :=
  ⟨rfl, h1.trans hs.os, h2.trans hs.tape, h3.trans hs.output⟩
theorem St.self (w : World) : St w w.heap w := ⟨rfl, rfl, rfl, rfl⟩

/-- A piece of code, by the way to it. -/
def sub : Code → List Nat → Code
  | c, [] => c
  | .seq a b, k :: p => bif Nat.beq k 0 then sub a p else sub b p
  | .cond _ a b, k :: p => bif Nat.beq k 0 then sub a p else sub b p
  | .block _ c, _ :: p => sub c p
  | .loop c, _ :: p => sub c p
  | .scope c, _ :: p => sub c p
  | c, _ => c

/-! ### calls -/
def PostR (w0 : World) (R : Value → Heap → Prop) : Ending → World → Prop :=
  fun e w' => ∃ v, e = .returned v ∧ R v w'.heap ∧ w'.os = w0.os ∧ w'.tape = w0.tape ∧ w'.output = w0.output
structure CallsH (P : Program) (f : FuncId) (args : Array Value) (h : Heap) (R : Value → Heap → Prop) : Prop where
  out : ∀ w, w.heap = h → Calls P f args w (PostR w R)
theorem CallsH.mono {P : Program} {f : FuncId} {args : Array Value} {h : Heap} {R R' : Value → Heap → Prop} (hc : CallsH P f args h R) (hr : ∀ v h', R v h' → R' v h') : CallsH P f args h R' :=
  ⟨fun w hw => (hc.out w hw).mono fun _ _ ⟨v, he, r, rest⟩ => ⟨v, he, hr _ _ r, rest⟩⟩

def ArgsAre (args : Array Value) (l : Env) : Prop := ∀ t v, look l t = some v → args[t]? = some v
theorem ArgsAre.nil {args : Array Value} : ArgsAre args [] := fun t v h => by simp [look] at h
theorem ArgsAre.cons {args : Array Value} {l : Env} {d : Nat} {v : Value} (h : args[d]? = some v) (hs : ArgsAre args l) : ArgsAre args ((d, v) :: l) := by
  intro t u ht
  rw [look_cons] at ht
  by_cases e : d = t
  · subst e; simp at ht; subst ht; exact h
  · simp [e] at ht; exact hs t u ht

theorem calls_of {P : Program} {f : FuncId} {fn : Func} {c : Code} {args : Array Value} {N : Nat} {h : Heap} {R : Value → Heap → Prop} (l : Env)
    (hf : P.funcs[f]? = some fn) (hb : fn.body = some c) (hn : fn.ntmps = N) (ha : args.size ≤ N) (hl : ArgsAre args l)
    (k : ∀ w0, w0.heap = h → Fin ⟨N, []⟩ w0 (CW P c (bodyPost P fn (PostR w0 R))) l h) : CallsH P f args h R := by
  refine ⟨fun w hw => ?_⟩
  refine calls_of_wp hf hb ((k w hw).out _ w ⟨?_, rfl, ?_⟩ ⟨hw, rfl, rfl, rfl⟩).out
  · simp [hn]; omega
  · intro t v ht
    have h1 := hl t v ht
    have h2 : t < args.size := (Array.getElem?_eq_some_iff.1 h1).1
    simp only [Array.getD_eq_getD_getElem?, Array.getElem?_append_left h2, h1, Option.getD_some]

theorem lt_of_blt {d N : Nat} (h : Nat.blt d N = true) : d < N := Nat.le_of_ble_eq_true h

/-- What an operation that only looks yields. -/
structure Pur (P : Program) (o : Op) (ty : TypeId) (l : Env) (h : Heap) (v : Value) : Prop where
  out : ∀ ρ w d p af g, EvOk ρ l → w.heap = h → (execOp ρ ⟨d, o, ty, p, af, g⟩).run P w = .ok (.value v) w

/-- What an operation that turns the heap yields. -/
structure Eff (P : Program) (o : Op) (ty : TypeId) (l : Env) (h : Heap) (R : Value → Heap → Prop) : Prop where
  out : ∀ ρ w d p af g, EvOk ρ l → w.heap = h → ∃ v w', ((execOp ρ ⟨d, o, ty, p, af, g⟩).run P w = .ok (.value v) w' ∨ ((execOp ρ ⟨d, o, ty, p, af, g⟩).run P w = .ok .skip w' ∧ v = undef)) ∧
    R v w'.heap ∧ w'.os = w.os ∧ w'.tape = w.tape ∧ w'.output = w.output

/-- What the guard sees. -/
def gd (ops : Array Oper) (l : Env) (j : Nat) : Option Bool :=
  match (ops[j]?).bind (·.dst) with
  | some t => match look l t with
    | some (.bool b) => some b
    | _ => none
  | none => none

theorem yielded_of {N : Nt} {a : Act} {l : Env} (ha : Rep N a l) {ops : Array Oper} {j : Nat} {b : Bool} (hg : gd ops l j = some b) : yielded ops a.tmps j = some b := by
  unfold gd at hg
  unfold yielded
  split at hg
  · rename_i t ht
    split at hg
    · rename_i b' hl
      have h1 := ha.slot t _ hl
      have h2 : a.tmps[t]? = some (.bool b') := by
        rw [Array.getD_eq_getD_getElem?] at h1
        cases h3 : a.tmps[t]? with
        | none => rw [h3] at h1; simp [undef] at h1
        | some u => rw [h3] at h1; simp at h1; rw [h1]
      simp only [ht, Option.bind_some, h2]
      exact hg
    · cases hg
  · cases hg

section drive
variable {P : Program} {N : Nt} {w0 : World} {l : Env} {h : Heap} {Q : Exit → Act → World → Prop}

theorem cut {K : Act → World → Prop} (l' : Env) (hs : Sub l' l) (k : Fin N w0 K l' h) : Fin N w0 K l h :=
  ⟨fun a w ha hw => k.out a w (ha.sub hs) hw⟩

/-! ### code -/
theorem c_seq {x y : Code} (k : Fin N w0 (CW P x (Exit.then (CW P y Q) Q)) l h) : Fin N w0 (CW P (Code.seq x y) Q) l h :=
  ⟨fun a w ha hw => ⟨wp_seq (wp_mono (k.out a w ha hw).out fun e a' w' hq => by cases e <;> first | exact hq.out | exact hq)⟩⟩
theorem c_block {id : Nat} {c : Code} (k : Fin N w0 (CW P c (Exit.inBlock id Q)) l h) : Fin N w0 (CW P (Code.block id c) Q) l h :=
  ⟨fun a w ha hw => ⟨wp_block (k.out a w ha hw).out⟩⟩
theorem c_skip (k : Fin N w0 (XW Q .normal) l h) : Fin N w0 (CW P Code.skip Q) l h := ⟨fun a w ha hw => ⟨wp_skip (k.out a w ha hw).out⟩⟩
theorem c_label {n : Nat} (k : Fin N w0 (XW Q .normal) l h) : Fin N w0 (CW P (Code.label n) Q) l h := ⟨fun a w ha hw => ⟨wp_label (k.out a w ha hw).out⟩⟩
theorem c_exit {id : Nat} (k : Fin N w0 (XW Q (.exit id)) l h) : Fin N w0 (CW P (Code.exit id) Q) l h := ⟨fun a w ha hw => ⟨wp_exit (k.out a w ha hw).out⟩⟩
theorem c_ret (k : Fin N w0 (XW Q .ret) l h) : Fin N w0 (CW P Code.ret Q) l h := ⟨fun a w ha hw => ⟨wp_ret (k.out a w ha hw).out⟩⟩
theorem c_region {id : Nat} {ops : List Oper} (k : Fin N w0 (LW P ops.toArray Q ops) l h) : Fin N w0 (CW P (Code.region id ops.toArray false) Q) l h :=
  ⟨fun a w ha hw => ⟨wp_region_lit (k.out a w ha hw).out⟩⟩
theorem c_cond {c : Operand} {x y : Code} {b : Bool} (hc : ev l c = some (.bool b)) (kt : b = true → Fin N w0 (CW P x Q) l h) (kf : b = false → Fin N w0 (CW P y Q) l h) :
    Fin N w0 (CW P (Code.cond c x y) Q) l h := by
  refine ⟨fun a w ha hw => ?_⟩
  have he : a.eval c = .bool b := ha.evOk c _ hc
  exact ⟨wp_cond_split he (fun e => ((kt e).out a w ha hw).out) (fun e => ((kf e).out a w ha hw).out)⟩
theorem c_true {c : Operand} {x y : Code} (hc : ev l c = some (.bool true)) (k : Fin N w0 (CW P x Q) l h) : Fin N w0 (CW P (Code.cond c x y) Q) l h :=
  c_cond hc (fun _ => k) (fun e => by cases e)
theorem c_false {c : Operand} {x y : Code} (hc : ev l c = some (.bool false)) (k : Fin N w0 (CW P y Q) l h) : Fin N w0 (CW P (Code.cond c x y) Q) l h :=
  c_cond hc (fun e => by cases e) (fun _ => k)
theorem c_if {c : Operand} {x y : Code} {p : Prop} {dp : Decidable p} (hc : ev l c = some (.bool (@decide p dp))) (kt : p → Fin N w0 (CW P x Q) l h) (kf : ¬ p → Fin N w0 (CW P y Q) l h) :
    Fin N w0 (CW P (Code.cond c x y) Q) l h :=
  c_cond hc (fun e => kt (of_decide_eq_true e)) (fun e => kf (of_decide_eq_false e))

/-- What a round hands on. -/
structure Nxt {α : Type} (N : Nt) (w0 : World) (E : α → Env) (J : α → Heap → Prop) (μ : α → Nat) (m : Nat) (a : Act) (w : World) : Prop where
  out : ∃ x, J x w.heap ∧ Rep N a (E x) ∧ μ x < m ∧ St w0 w.heap w
/-- A loop: ghost states x; E x: what the frame holds at the round's head; J: what holds of the heap; μ goes down. -/
theorem c_loop {c : Code} {α : Type} (E : α → Env) (J : α → Heap → Prop) (μ : α → Nat) (x0 : α) (h0 : J x0 h) (hE : Sub (E x0) l)
    (round : ∀ x hr, J x hr → Fin N w0 (CW P c (Exit.then (Nxt N w0 E J μ (μ x)) Q)) (E x) hr) :
    Fin N w0 (CW P (Code.loop c) Q) l h := by
  refine ⟨fun a w ha hw => ⟨?_⟩⟩
  refine wp_loop_ghost (fun n a w => ∃ x, J x w.heap ∧ Rep N a (E x) ∧ μ x = n ∧ St w0 w.heap w) (μ x0) ⟨x0, by rw [hw.heap]; exact h0, ha.sub hE, rfl, ⟨rfl, hw.os, hw.tape, hw.output⟩⟩ ?_
  rintro n a w ⟨x, hj, hr, rfl, hs⟩
  refine wp_mono ((round x w.heap hj).out a w hr hs).out ?_
  intro e a' w' hq
  cases e with
  | normal =>
    obtain ⟨x', hj', hr', hlt, hs'⟩ := hq.out
    exact ⟨μ x', hlt, x', hj', hr', rfl, hs'⟩
  | _ => exact hq
theorem c_next {α : Type} {E : α → Env} {J : α → Heap → Prop} {μ : α → Nat} {m : Nat} (x : α) (hj : J x h) (hE : Sub (E x) l) (hm : μ x < m) : Fin N w0 (Nxt N w0 E J μ m) l h :=
  ⟨fun a w ha hw => ⟨x, by rw [hw.heap]; exact hj, ha.sub hE, hm, ⟨rfl, hw.os, hw.tape, hw.output⟩⟩⟩

/-- What the first part of a sequence hands on to the second. -/
structure Mid (N : Nt) (w0 : World) (l' : Env) (J : Heap → Prop) (a : Act) (w : World) : Prop where
  out : J w.heap ∧ Rep N a l' ∧ St w0 w.heap w
theorem c_mid {x y : Code} (l' : Env) (J : Heap → Prop) (hx : Fin N w0 (CW P x (Exit.then (Mid N w0 l' J) Q)) l h) (hy : ∀ hh, J hh → Fin N w0 (CW P y Q) l' hh) : Fin N w0 (CW P (Code.seq x y) Q) l h :=
  ⟨fun a w ha hw => ⟨wp_seq (wp_mono (hx.out a w ha hw).out fun e a' w' hq => by
    cases e with
    | normal =>
      obtain ⟨h1, h2, h3⟩ := hq.out
      exact ((hy _ h1).out a' w' h2 h3).out
    | _ => exact hq)⟩⟩
theorem m_done {l' : Env} {J : Heap → Prop} (hj : J h) (hs : Sub l' l) : Fin N w0 (Mid N w0 l' J) l h :=
  ⟨fun a w ha hw => ⟨by rw [hw.heap]; exact hj, ha.sub hs, ⟨rfl, hw.os, hw.tape, hw.output⟩⟩⟩

/-! ### exits -/
theorem n_then {K : Act → World → Prop} (k : Fin N w0 K l h) : Fin N w0 (XW (Exit.then K Q) .normal) l h := ⟨fun a w ha hw => ⟨k.out a w ha hw⟩⟩
theorem n_block {id : Nat} (k : Fin N w0 (XW Q .normal) l h) : Fin N w0 (XW (Exit.inBlock id Q) .normal) l h := ⟨fun a w ha hw => ⟨(k.out a w ha hw).out⟩⟩
theorem x_then {K : Act → World → Prop} {id : Nat} (k : Fin N w0 (XW Q (.exit id)) l h) : Fin N w0 (XW (Exit.then K Q) (.exit id)) l h := ⟨fun a w ha hw => ⟨(k.out a w ha hw).out⟩⟩
theorem x_block_eq {id : Nat} (k : Fin N w0 (XW Q .normal) l h) : Fin N w0 (XW (Exit.inBlock id Q) (.exit id)) l h := ⟨fun a w ha hw => ⟨by
  simp only [Exit.inBlock, if_true]; exact (k.out a w ha hw).out⟩⟩
theorem x_block_ne {id id' : Nat} (hne : Nat.beq id' id = false) (k : Fin N w0 (XW Q (.exit id')) l h) : Fin N w0 (XW (Exit.inBlock id Q) (.exit id')) l h := ⟨fun a w ha hw => ⟨by
  have : ¬ id' = id := fun e => by subst e; simp at hne
  simp only [Exit.inBlock, this, if_false]; exact (k.out a w ha hw).out⟩⟩
theorem r_then {K : Act → World → Prop} (k : Fin N w0 (XW Q .ret) l h) : Fin N w0 (XW (Exit.then K Q) .ret) l h := ⟨fun a w ha hw => ⟨(k.out a w ha hw).out⟩⟩
theorem r_block {id : Nat} (k : Fin N w0 (XW Q .ret) l h) : Fin N w0 (XW (Exit.inBlock id Q) .ret) l h := ⟨fun a w ha hw => ⟨(k.out a w ha hw).out⟩⟩

/-! ### the end of a function -/
theorem ret0 {n : Nat} {fn : Func} {R : Value → Heap → Prop} (hres : fn.results = #[]) (hR : R (.tuple #[]) h) : Fin ⟨n, []⟩ w0 (XW (bodyPost P fn (PostR w0 R)) .ret) l h :=
  ⟨fun a w ha hw => ⟨ha.defers, .tuple #[], results_none hres _ _ _, _, rfl, by rw [hw.heap]; exact hR, hw.os, hw.tape, hw.output⟩⟩
theorem end0 {n : Nat} {fn : Func} {R : Value → Heap → Prop} (hres : fn.results = #[]) (hR : R (.tuple #[]) h) : Fin ⟨n, []⟩ w0 (XW (bodyPost P fn (PostR w0 R)) .normal) l h :=
  ⟨fun a w ha hw => ⟨ha.defers, .tuple #[], results_none hres _ _ _, _, rfl, by rw [hw.heap]; exact hR, hw.os, hw.tape, hw.output⟩⟩
theorem ret1 {n : Nat} {fn : Func} {R : Value → Heap → Prop} {t : Nat} {v : Value} (hres : fn.results = #[.tmp t]) (hv : look l t = some v) (hR : R v h) : Fin ⟨n, []⟩ w0 (XW (bodyPost P fn (PostR w0 R)) .ret) l h :=
  ⟨fun a w ha hw => ⟨ha.defers, v, by rw [results_tmp hres, ha.slot t v hv], _, rfl, by rw [hw.heap]; exact hR, hw.os, hw.tape, hw.output⟩⟩
theorem ret2 {n : Nat} {fn : Func} {R : Value → Heap → Prop} {t u : Nat} {v v' : Value} (hres : fn.results = #[.tmp t, .tmp u]) (hv : look l t = some v) (hu : look l u = some v') (hR : R (.tuple #[v, v']) h) : Fin ⟨n, []⟩ w0 (XW (bodyPost P fn (PostR w0 R)) .ret) l h :=
  ⟨fun a w ha hw => ⟨ha.defers, .tuple #[v, v'], by rw [results_tmp2 hres, ha.slot t v hv, ha.slot u v' hu], _, rfl, by rw [hw.heap]; exact hR, hw.os, hw.tape, hw.output⟩⟩

/-! ### operations, in order -/
variable {ops : Array Oper} {rest : List Oper}
theorem s_nil (k : Fin N w0 (XW Q .normal) l h) : Fin N w0 (LW P ops Q []) l h := ⟨fun a w ha hw => ⟨(k.out a w ha hw).out⟩⟩

theorem s_pur {d : Nat} {o : Op} {ty : TypeId} {p : String} {af : Array Edge} {v : Value} (hp : Pur P o ty l h v) (hd : Nat.blt d N.n = true)
    (k : Fin N w0 (LW P ops Q rest) ((d, v) :: l) h) : Fin N w0 (LW P ops Q (⟨some d, o, ty, p, af, none⟩ :: rest)) l h := by
  refine ⟨fun a w ha hw => ⟨?_⟩⟩
  refine wpList_plain rfl fun K hK => ?_
  unfold Oper.wp
  rw [hp.out a.eval w _ _ _ _ ha.evOk hw.heap]
  exact hK _ _ (k.out _ _ (ha.put (lt_of_blt hd) v) hw).out

theorem s_eff {d : Nat} {o : Op} {ty : TypeId} {p : String} {af : Array Edge} {R : Value → Heap → Prop} (hp : Eff P o ty l h R) (hd : Nat.blt d N.n = true)
    (k : ∀ v h', R v h' → Fin N w0 (LW P ops Q rest) ((d, v) :: l) h') : Fin N w0 (LW P ops Q (⟨some d, o, ty, p, af, none⟩ :: rest)) l h := by
  refine ⟨fun a w ha hw => ⟨?_⟩⟩
  refine wpList_plain rfl fun K hK => ?_
  unfold Oper.wp
  obtain ⟨v, w', hrun, hR, h1, h2, h3⟩ := hp.out a.eval w (some d) p af none ha.evOk hw.heap
  have hs := hw.same h1 h2 h3
  have hk := hK _ _ ((k v _ hR).out _ _ (ha.put (lt_of_blt hd) v) hs).out
  rcases hrun with hrun | ⟨hrun, rfl⟩
  · rw [hrun]; exact hk
  · rw [hrun]; exact hk

theorem s_eff0 {o : Op} {ty : TypeId} {p : String} {af : Array Edge} {R : Value → Heap → Prop} (hp : Eff P o ty l h R)
    (k : ∀ v h', R v h' → Fin N w0 (LW P ops Q rest) l h') : Fin N w0 (LW P ops Q (⟨none, o, ty, p, af, none⟩ :: rest)) l h := by
  refine ⟨fun a w ha hw => ⟨?_⟩⟩
  refine wpList_plain rfl fun K hK => ?_
  unfold Oper.wp
  obtain ⟨v, w', hrun, hR, h1, h2, h3⟩ := hp.out a.eval w none p af none ha.evOk hw.heap
  have hs := hw.same h1 h2 h3
  have hk := hK _ _ ((k v _ hR).out _ _ ha hs).out
  rcases hrun with hrun | ⟨hrun, rfl⟩
  · rw [hrun]; exact hk
  · rw [hrun]; exact hk

/-- A guarded operation that is not wanted. -/
theorem s_skip {d : Nat} {o : Op} {ty : TypeId} {p : String} {af : Array Edge} {j : Nat} {want b : Bool} (hg : gd ops l j = some b) (hne : (b == want) = false) (hd : Nat.blt d N.n = true)
    (k : Fin N w0 (LW P ops Q rest) ((d, undef) :: l) h) : Fin N w0 (LW P ops Q (⟨some d, o, ty, p, af, some (j, want)⟩ :: rest)) l h := by
  refine ⟨fun a w ha hw => ⟨?_⟩⟩
  have hy := yielded_of ha hg
  refine wpList_skip ?_ (k.out _ _ (ha.put (lt_of_blt hd) undef) hw).out
  simp only [Region.wanted, hy]
  simpa using hne
theorem wanted_undef {a : Act} {j t : Nat} {want : Bool} {d : Option Tmp} {o : Op} {ty : TypeId} {p : String} {af : Array Edge} (ha : Rep N a l) (hg : (ops[j]?).bind (·.dst) = some t) (hl : look l t = some undef) :
    Region.wanted ⟨d, o, ty, p, af, some (j, want)⟩ (yielded ops a.tmps) = false := by
  have h1 := ha.slot t _ hl
  simp only [Region.wanted, yielded, hg, Option.bind_some]
  rw [Array.getD_eq_getD_getElem?] at h1
  cases h2 : a.tmps[t]? with
  | none => rfl
  | some u =>
    rw [h2] at h1
    simp at h1
    rw [h1]
    simp [undef]
/-- One that is not wanted because its guard was not carried out itself. -/
theorem s_skip' {d : Nat} {o : Op} {ty : TypeId} {p : String} {af : Array Edge} {j t : Nat} {want : Bool} (hg : (ops[j]?).bind (·.dst) = some t) (hl : look l t = some undef) (hd : Nat.blt d N.n = true)
    (k : Fin N w0 (LW P ops Q rest) ((d, undef) :: l) h) : Fin N w0 (LW P ops Q (⟨some d, o, ty, p, af, some (j, want)⟩ :: rest)) l h :=
  ⟨fun _ _ ha hw => ⟨wpList_skip (wanted_undef ha hg hl) (k.out _ _ (ha.put (lt_of_blt hd) undef) hw).out⟩⟩
/-- A guarded operation that is wanted. -/
theorem s_pur_g {d : Nat} {o : Op} {ty : TypeId} {p : String} {af : Array Edge} {v : Value} {j : Nat} {want : Bool} (hg : gd ops l j = some want) (hp : Pur P o ty l h v) (hd : Nat.blt d N.n = true)
    (k : Fin N w0 (LW P ops Q rest) ((d, v) :: l) h) : Fin N w0 (LW P ops Q (⟨some d, o, ty, p, af, some (j, want)⟩ :: rest)) l h := by
  refine ⟨fun a w ha hw => ⟨?_⟩⟩
  have hy := yielded_of ha hg
  refine BigFrame.wpList_want (by simp [Region.wanted, hy]) fun K hK => ?_
  unfold Oper.wp
  rw [hp.out a.eval w _ _ _ _ ha.evOk hw.heap]
  exact hK _ _ (k.out _ _ (ha.put (lt_of_blt hd) v) hw).out

/-- A call of a function by its name. -/
theorem s_call {d f : Nat} {xs : List Operand} {ats : Array TypeId} {ty : TypeId} {p : String} {af : Array Edge} {vs : List Value} {R : Value → Heap → Prop}
    (hcall : ∀ args w, (callFunc f args).run P w = .ok (.enter f args) w) (hx : evl l xs = some vs) (hd : Nat.blt d N.n = true) (hc : CallsH P f vs.toArray h R)
    (k : ∀ v h', R v h' → Fin N w0 (LW P ops Q rest) ((d, v) :: l) h') :
    Fin N w0 (LW P ops Q (⟨some d, .call { callee := .value (.func f), args := xs.toArray, argTypes := ats }, ty, p, af, none⟩ :: rest)) l h := by
  refine ⟨fun a w ha hw => ⟨?_⟩⟩
  refine wpList_plain rfl fun K hK => ?_
  have hm := evl_map ha.evOk xs vs hx
  have hrun : (execOp a.eval ⟨some d, .call { callee := .value (.func f), args := xs.toArray, argTypes := ats }, ty, p, af, none⟩).run P w = .ok (.enter f vs.toArray) w := by
    simp only [execOp, resolve, Sem.run_bind, Act.eval, Deferred.ofValue, Sem.run_pure, Result.andThen_ok, invoke, List.map_toArray, Array.empty_append, Array.append_empty]
    rw [show xs.map a.eval = vs from hm]
    exact hcall _ _
  unfold Oper.wp
  rw [hrun, Oper.upon_enter]
  refine (hc.out w hw.heap).mono ?_
  rintro e w' ⟨v, rfl, hR, h1, h2, h3⟩
  exact hK _ _ ((k v _ hR).out _ _ (ha.put (lt_of_blt hd) v) (hw.same h1 h2 h3)).out

/-! ### a region that draws its order and only looks -/
structure QW (P : Program) (ops : Array Oper) (w1 : World) (Q : Exit → Act → World → Prop) (rest : List Oper) (a : Act) (w : World) : Prop where
  out : wpQuiet P ops (fun w' => ∃ n, w' = w1.drewN n) (fun a' => ∀ w', (∃ n, w' = w1.drewN n) → Q .normal a' w') rest a
theorem drewN_heap (w : World) (n : Nat) : (w.drewN n).heap = w.heap ∧ (w.drewN n).os = w.os ∧ (w.drewN n).tape = w.tape ∧ (w.drewN n).output = w.output := by
  refine ⟨rfl, rfl, rfl, rfl⟩
theorem c_quiet {id : Nat} {ops : List Oper} (hm : P.follows .mixedOrders = true) (hB : Region.lexB .any ops.toArray = true) (k : ∀ w1, St w0 h w1 → Fin N w0 (QW P ops.toArray w1 Q ops) l h) :
    Fin N w0 (CW P (Code.region id ops.toArray true) Q) l h :=
  ⟨fun a w ha hw => ⟨wp_region_quiet_lit hm hB ((k w hw).out a w ha hw).out⟩⟩
theorem q_nil {w1 : World} (hw1 : St w0 h w1) (k : Fin N w0 (XW Q .normal) l h) : Fin N w0 (QW P ops w1 Q []) l h :=
  ⟨fun a w ha _ => ⟨wpQuiet_nil (by
    rintro w' ⟨n, rfl⟩
    exact (k.out a (w1.drewN n) ha ⟨hw1.heap, hw1.os, hw1.tape, hw1.output⟩).out)⟩⟩
theorem q_pur {w1 : World} (hw1 : St w0 h w1) {d : Nat} {o : Op} {ty : TypeId} {p : String} {af : Array Edge} {v : Value} (hp : Pur P o ty l h v) (hd : Nat.blt d N.n = true)
    (k : Fin N w0 (QW P ops w1 Q rest) ((d, v) :: l) h) : Fin N w0 (QW P ops w1 Q (⟨some d, o, ty, p, af, none⟩ :: rest)) l h := by
  refine ⟨fun a w ha hw => ⟨wpQuiet_step fun K hK => ?_⟩⟩
  simp only [Region.wanted, if_true]
  refine ⟨v, ?_, hK _ (k.out _ w (ha.put (lt_of_blt hd) v) hw).out⟩
  rintro w' ⟨n, rfl⟩
  unfold Oper.quietAt
  rw [hp.out a.eval (w1.drewN n) _ _ _ _ ha.evOk hw1.heap]
  exact ⟨rfl, rfl⟩
theorem q_pur_g {w1 : World} (hw1 : St w0 h w1) {d : Nat} {o : Op} {ty : TypeId} {p : String} {af : Array Edge} {v : Value} {j : Nat} {want : Bool} (hg : gd ops l j = some want) (hp : Pur P o ty l h v) (hd : Nat.blt d N.n = true)
    (k : Fin N w0 (QW P ops w1 Q rest) ((d, v) :: l) h) : Fin N w0 (QW P ops w1 Q (⟨some d, o, ty, p, af, some (j, want)⟩ :: rest)) l h := by
  refine ⟨fun a w ha hw => ⟨wpQuiet_step fun K hK => ?_⟩⟩
  have hy := yielded_of ha hg
  rw [if_pos (by simp [Region.wanted, hy])]
  refine ⟨v, ?_, hK _ (k.out _ w (ha.put (lt_of_blt hd) v) hw).out⟩
  rintro w' ⟨n, rfl⟩
  unfold Oper.quietAt
  rw [hp.out a.eval (w1.drewN n) _ _ _ _ ha.evOk hw1.heap]
  exact ⟨rfl, rfl⟩
theorem q_skip {w1 : World} {d : Nat} {o : Op} {ty : TypeId} {p : String} {af : Array Edge} {j : Nat} {want b : Bool} (hg : gd ops l j = some b) (hne : (b == want) = false) (hd : Nat.blt d N.n = true)
    (k : Fin N w0 (QW P ops w1 Q rest) ((d, undef) :: l) h) : Fin N w0 (QW P ops w1 Q (⟨some d, o, ty, p, af, some (j, want)⟩ :: rest)) l h := by
  refine ⟨fun a w ha hw => ⟨wpQuiet_step fun K hK => ?_⟩⟩
  have hy := yielded_of ha hg
  rw [if_neg (by simp only [Region.wanted, hy]; simpa using hne)]
  exact hK _ (k.out _ w (ha.put (lt_of_blt hd) undef) hw).out
theorem q_skip' {w1 : World} {d : Nat} {o : Op} {ty : TypeId} {p : String} {af : Array Edge} {j t : Nat} {want : Bool} (hg : (ops[j]?).bind (·.dst) = some t) (hl : look l t = some undef) (hd : Nat.blt d N.n = true)
    (k : Fin N w0 (QW P ops w1 Q rest) ((d, undef) :: l) h) : Fin N w0 (QW P ops w1 Q (⟨some d, o, ty, p, af, some (j, want)⟩ :: rest)) l h := by
  refine ⟨fun a w ha hw => ⟨wpQuiet_step fun K hK => ?_⟩⟩
  rw [if_neg (by rw [wanted_undef ha hg hl]; simp)]
  exact hK _ (k.out _ w (ha.put (lt_of_blt hd) undef) hw).out
/-- A call, in such a region, of a function that turns nothing. -/
theorem q_call {w1 : World} (hw1 : St w0 h w1) {d f : Nat} {xs : List Operand} {ats : Array TypeId} {ty : TypeId} {p : String} {af : Array Edge} {vs : List Value} {v : Value}
    (hcall : ∀ args w, (callFunc f args).run P w = .ok (.enter f args) w) (hx : evl l xs = some vs) (hd : Nat.blt d N.n = true) (hc : ∀ w, w.heap = h → Calls P f vs.toArray w (fun e w' => e = .returned v ∧ ∃ n, w' = w.drewN n))
    (k : Fin N w0 (QW P ops w1 Q rest) ((d, v) :: l) h) :
    Fin N w0 (QW P ops w1 Q (⟨some d, .call { callee := .value (.func f), args := xs.toArray, argTypes := ats }, ty, p, af, none⟩ :: rest)) l h := by
  refine ⟨fun a w ha hw => ⟨wpQuiet_step fun K hK => ?_⟩⟩
  simp only [Region.wanted, if_true]
  refine ⟨v, ?_, hK _ (k.out _ w (ha.put (lt_of_blt hd) v) hw).out⟩
  rintro w' ⟨n, rfl⟩
  have hm := evl_map ha.evOk xs vs hx
  have hrun : (execOp a.eval ⟨some d, .call { callee := .value (.func f), args := xs.toArray, argTypes := ats }, ty, p, af, none⟩).run P (w1.drewN n) = .ok (.enter f vs.toArray) (w1.drewN n) := by
    simp only [execOp, resolve, Sem.run_bind, Act.eval, Deferred.ofValue, Sem.run_pure, Result.andThen_ok, invoke, List.map_toArray, Array.empty_append, Array.append_empty]
    rw [show xs.map a.eval = vs from hm]
    exact hcall _ _
  unfold Oper.quietAt
  rw [hrun]
  refine ⟨rfl, (hc (w1.drewN n) hw1.heap).mono ?_⟩
  rintro e w'' ⟨rfl, m, rfl⟩
  exact ⟨rfl, n + m, by simp [World.drewN, Nat.add_assoc]⟩
end drive
end V
end Go.Proofs.Ybulkdiqq
