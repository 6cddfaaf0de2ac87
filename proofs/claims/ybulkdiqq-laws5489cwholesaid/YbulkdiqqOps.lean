/-
  Ops: what each operation yields, over a frame known by a list and a heap. Own work of this seat. Generic: over any program.
-/
import Derived.Test.YbulkdiqqV
namespace Go.Proofs.Ybulkdiqq
set_option linter.unusedSimpArgs false
set_option linter.unusedVariables false
set_option linter.unnecessarySimpa false
namespace V
open Go Go.RowKit

/-! ### the heap -/
def hc (h : Heap) (b o : Nat) : Option Value :=
  match h[b]? with
  | some (.cells c _ _) => c[o]?
  | _ => none
theorem cell_hc (w : World) (b o : Nat) : w.cell? ⟨b, o, none⟩ = hc w.heap b o := by
  unfold World.cell? hc
  cases hh : w.heap[b]? with
  | none => simp
  | some x => cases x <;> simp
theorem hc_of {h : Heap} {b o : Nat} {c : Array Value} {e : TypeId} {f : Nat × Nat} (hb : h[b]? = some (.cells c e f)) : hc h b o = c[o]? := by
  simp [hc, hb]
theorem hc_congr {h h' : Heap} {b : Nat} (e : h'[b]? = h[b]?) (o : Nat) : hc h' b o = hc h b o := by simp [hc, e]
theorem lt_of_get {h : Heap} {b : Nat} {o : Obj} (hb : h[b]? = some o) : b < h.size := (Array.getElem?_eq_some_iff.1 hb).1
theorem lt_of_hc {h : Heap} {b o : Nat} {v : Value} (hb : hc h b o = some v) : b < h.size := by
  unfold hc at hb
  split at hb
  · rename_i hh; exact lt_of_get hh
  · cases hb

/-- One block has been turned. -/
structure Upd (h h' : Heap) (b : Nat) (o : Obj) : Prop where
  size : h'.size = h.size
  at_ : h'[b]? = some o
  other : ∀ k, k ≠ b → h'[k]? = h[k]?
/-- One block has been laid. -/
structure New (h h' : Heap) (o : Obj) : Prop where
  size : h'.size = h.size + 1
  at_ : h'[h.size]? = some o
  other : ∀ k, k < h.size → h'[k]? = h[k]?
theorem New.push (h : Heap) (o : Obj) : New h (h.push o) o :=
  ⟨by simp, by simp, fun k hk => by rw [Array.getElem?_push, if_neg (by omega)]⟩

theorem upd_set {w : World} {b o : Nat} {v : Value} {c : Array Value} {e : TypeId} {f : Nat × Nat} (hb : w.heap[b]? = some (.cells c e f)) :
    Upd w.heap (w.setCell ⟨b, o, none⟩ v).heap b (.cells (c.setIfInBounds o v) e f) := by
  refine ⟨by simp [World.setCell], ?_, ?_⟩
  · simp [World.setCell, Array.getElem?_modify, hb]
  · intro k hk
    simp only [World.setCell, Array.getElem?_modify]
    rw [if_neg (by omega)]

theorem add_none (b o n : Nat) : (⟨b, o, none⟩ : Addr).add n = ⟨b, o + n, none⟩ := by
  unfold Addr.add; split <;> simp_all

variable {P : Program} {l : Env} {h : Heap} {ty : TypeId}

/-! ### operations that only look -/
theorem p_move {x : Operand} {v : Value} (hx : ev l x = some v) : Pur P (.move x) ty l h v := by
  refine ⟨fun ρ w d p af g hρ hw => ?_⟩; simp [execOp, hρ _ _ hx]
theorem p_assign {x : Operand} {v : Value} (hx : ev l x = some v) : Pur P (.assign x) ty l h v := by
  refine ⟨fun ρ w d p af g hρ hw => ?_⟩; simp [execOp, hρ _ _ hx]
theorem p_pick_t {c x y : Operand} {v : Value} (hcnd : ev l c = some (.bool true)) (hx : ev l x = some v) : Pur P (.pick c x y) ty l h v := by
  refine ⟨fun ρ w d p af g hρ hw => ?_⟩; simp [execOp, hρ _ _ hx, hρ _ _ hcnd, asBool]
theorem p_pick_f {c x y : Operand} {v : Value} (hcnd : ev l c = some (.bool false)) (hx : ev l y = some v) : Pur P (.pick c x y) ty l h v := by
  refine ⟨fun ρ w d p af g hρ hw => ?_⟩; simp [execOp, hρ _ _ hx, hρ _ _ hcnd, asBool]
theorem p_len {x : Operand} {t e : TypeId} {a : Option Addr} {n c : Nat} (hx : ev l x = some (.slice a n c)) (hu : P.underlying t = some (.slice e)) :
    Pur P (.call { callee := .builtin .len, args := #[x], argTypes := #[t] }) ty l h (.int .i64 n) := by
  refine ⟨fun ρ w d p af g hρ hw => ?_⟩
  simp [execOp, resolve, invoke, builtin, Builtin.len_, hρ _ _ hx, run_underlying hu, goInt]
theorem p_nil {x : Operand} {a : Addr} (hx : ev l x = some (.pointer (some a))) : Pur P (.nilCheck x) ty l h (.pointer (some a)) := by
  refine ⟨fun ρ w d p af g hρ hw => ?_⟩; simp [execOp, hρ _ _ hx]
theorem p_not {x : Operand} {t : TypeId} {b : Bool} (hx : ev l x = some (.bool b)) : Pur P (.unOp .not t x) ty l h (.bool (!b)) := by
  refine ⟨fun ρ w d p af g hρ hw => ?_⟩; simp [execOp, hρ _ _ hx, Op.unary]
theorem p_extract {x : Operand} {i : Nat} {vs : Array Value} {v : Value} (hx : ev l x = some (.tuple vs)) (hv : vs[i]? = some v) : Pur P (.extract x i) ty l h v := by
  refine ⟨fun ρ w d p af g hρ hw => ?_⟩; simp [execOp, hρ _ _ hx, Instr.extract, hv]
theorem p_makeFunc {fn : Fn} {first captured : List Operand} {vs us : List Value} (hf : evl l first = some us) (hx : evl l captured = some vs) :
    Pur P (.makeFunc fn first.toArray captured.toArray) ty l h (.func fn us.toArray vs.toArray) := by
  refine ⟨fun ρ w d p af g hρ hw => ?_⟩; simp [execOp, Instr.makeFunc, evl_map hρ _ _ hf, evl_map hρ _ _ hx]

section ints
variable {x y : Operand} {t t2 : TypeId} {k : IntKind} {a b : Int}
theorem p_cmp {op : BinOp} {q : Bool} (hx : ev l x = some (.int k a)) (hy : ev l y = some (.int k b)) (hq : (op, q) ∈ [(BinOp.lss, decide (a < b)), (BinOp.leq, decide (a ≤ b)), (BinOp.gtr, decide (b < a)), (BinOp.geq, decide (b ≤ a)), (BinOp.eql, decide (a = b)), (BinOp.neq, decide (a ≠ b))]) :
    Pur P (.binOp op t x y t2) ty l h (.bool q) := by
  refine ⟨fun ρ w d p af g hρ hw => ?_⟩
  simp only [List.mem_cons, Prod.mk.injEq, List.not_mem_nil, or_false] at hq
  rcases hq with ⟨rfl, rfl⟩ | ⟨rfl, rfl⟩ | ⟨rfl, rfl⟩ | ⟨rfl, rfl⟩ | ⟨rfl, rfl⟩ | ⟨rfl, rfl⟩
  all_goals simp [execOp, hρ _ _ hx, hρ _ _ hy, eqGuard, binOp, Op.intCmp]
  all_goals rfl
theorem p_lss (hx : ev l x = some (.int k a)) (hy : ev l y = some (.int k b)) : Pur P (.binOp .lss t x y t2) ty l h (.bool (decide (a < b))) := p_cmp hx hy (by simp)
theorem p_leq (hx : ev l x = some (.int k a)) (hy : ev l y = some (.int k b)) : Pur P (.binOp .leq t x y t2) ty l h (.bool (decide (a ≤ b))) := p_cmp hx hy (by simp)
theorem p_gtr (hx : ev l x = some (.int k a)) (hy : ev l y = some (.int k b)) : Pur P (.binOp .gtr t x y t2) ty l h (.bool (decide (b < a))) := p_cmp hx hy (by simp)
theorem p_geq (hx : ev l x = some (.int k a)) (hy : ev l y = some (.int k b)) : Pur P (.binOp .geq t x y t2) ty l h (.bool (decide (b ≤ a))) := p_cmp hx hy (by simp)
theorem p_eql (hx : ev l x = some (.int k a)) (hy : ev l y = some (.int k b)) : Pur P (.binOp .eql t x y t2) ty l h (.bool (decide (a = b))) := p_cmp hx hy (by simp)
theorem p_neq (hx : ev l x = some (.int k a)) (hy : ev l y = some (.int k b)) : Pur P (.binOp .neq t x y t2) ty l h (.bool (decide (a ≠ b))) := p_cmp hx hy (by simp)
/-! comparisons that are decided -/
theorem p_lssT (hx : ev l x = some (.int k a)) (hy : ev l y = some (.int k b)) (hq : a < b) : Pur P (.binOp .lss t x y t2) ty l h (.bool true) := p_cmp hx hy (by simp [hq])
theorem p_lssF (hx : ev l x = some (.int k a)) (hy : ev l y = some (.int k b)) (hq : ¬ a < b) : Pur P (.binOp .lss t x y t2) ty l h (.bool false) := p_cmp hx hy (by simp; omega)
theorem p_leqT (hx : ev l x = some (.int k a)) (hy : ev l y = some (.int k b)) (hq : a ≤ b) : Pur P (.binOp .leq t x y t2) ty l h (.bool true) := p_cmp hx hy (by simp [hq])
theorem p_leqF (hx : ev l x = some (.int k a)) (hy : ev l y = some (.int k b)) (hq : ¬ a ≤ b) : Pur P (.binOp .leq t x y t2) ty l h (.bool false) := p_cmp hx hy (by simp; omega)
theorem p_gtrT (hx : ev l x = some (.int k a)) (hy : ev l y = some (.int k b)) (hq : b < a) : Pur P (.binOp .gtr t x y t2) ty l h (.bool true) := p_cmp hx hy (by simp [hq])
theorem p_gtrF (hx : ev l x = some (.int k a)) (hy : ev l y = some (.int k b)) (hq : ¬ b < a) : Pur P (.binOp .gtr t x y t2) ty l h (.bool false) := p_cmp hx hy (by simp; omega)
theorem p_geqT (hx : ev l x = some (.int k a)) (hy : ev l y = some (.int k b)) (hq : b ≤ a) : Pur P (.binOp .geq t x y t2) ty l h (.bool true) := p_cmp hx hy (by simp [hq])
theorem p_geqF (hx : ev l x = some (.int k a)) (hy : ev l y = some (.int k b)) (hq : ¬ b ≤ a) : Pur P (.binOp .geq t x y t2) ty l h (.bool false) := p_cmp hx hy (by simp; omega)
theorem p_eqlT (hx : ev l x = some (.int k a)) (hy : ev l y = some (.int k b)) (hq : a = b) : Pur P (.binOp .eql t x y t2) ty l h (.bool true) := p_cmp hx hy (by simp [hq])
theorem p_eqlF (hx : ev l x = some (.int k a)) (hy : ev l y = some (.int k b)) (hq : ¬ a = b) : Pur P (.binOp .eql t x y t2) ty l h (.bool false) := p_cmp hx hy (by simp [hq])
theorem p_neqT (hx : ev l x = some (.int k a)) (hy : ev l y = some (.int k b)) (hq : ¬ a = b) : Pur P (.binOp .neq t x y t2) ty l h (.bool true) := p_cmp hx hy (by simp [hq])
theorem p_neqF (hx : ev l x = some (.int k a)) (hy : ev l y = some (.int k b)) (hq : a = b) : Pur P (.binOp .neq t x y t2) ty l h (.bool false) := p_cmp hx hy (by simp [hq])

/-! arithmetic -/
theorem p_addW (hx : ev l x = some (.int k a)) (hy : ev l y = some (.int k b)) : Pur P (.binOp .add t x y t2) ty l h (.int k (k.wrap (a + b))) := by
  refine ⟨fun ρ w d p af g hρ hw => ?_⟩; simp [execOp, hρ _ _ hx, hρ _ _ hy, eqGuard, binOp, Op.intArith]
theorem p_subW (hx : ev l x = some (.int k a)) (hy : ev l y = some (.int k b)) : Pur P (.binOp .sub t x y t2) ty l h (.int k (k.wrap (a - b))) := by
  refine ⟨fun ρ w d p af g hρ hw => ?_⟩; simp [execOp, hρ _ _ hx, hρ _ _ hy, eqGuard, binOp, Op.intArith]
theorem p_mulW (hx : ev l x = some (.int k a)) (hy : ev l y = some (.int k b)) : Pur P (.binOp .mul t x y t2) ty l h (.int k (k.wrap (a * b))) := by
  refine ⟨fun ρ w d p af g hρ hw => ?_⟩; simp [execOp, hρ _ _ hx, hρ _ _ hy, eqGuard, binOp, Op.intArith]
theorem wrap64_eq {n : Int} (h1 : -9223372036854775808 ≤ n) (h2 : n ≤ 9223372036854775807) : IntKind.i64.wrap n = n := by
  rw [IntWalk.i64_left]; exact IntWalk.wrap64_in n ⟨h1, h2⟩
theorem wrapU64_eq {n : Int} (h1 : 0 ≤ n) (h2 : n < 18446744073709551616) : IntKind.u64.wrap n = n := by
  simp only [IntKind.wrap, IntKind.bits, IntKind.signed]; simp; omega
theorem wrapU8_eq {n : Int} (h1 : 0 ≤ n) (h2 : n < 256) : IntKind.u8.wrap n = n := by
  simp only [IntKind.wrap, IntKind.bits, IntKind.signed]; simp; omega
theorem p_add {c : Int} (hx : ev l x = some (.int .i64 a)) (hy : ev l y = some (.int .i64 b)) (hc : a + b = c) (h1 : -9223372036854775808 ≤ c) (h2 : c ≤ 9223372036854775807) : Pur P (.binOp .add t x y t2) ty l h (.int .i64 c) := by
  have := p_addW (P := P) (h := h) (ty := ty) (t := t) (t2 := t2) hx hy; rw [hc, wrap64_eq h1 h2] at this; exact this
theorem p_sub {c : Int} (hx : ev l x = some (.int .i64 a)) (hy : ev l y = some (.int .i64 b)) (hc : a - b = c) (h1 : -9223372036854775808 ≤ c) (h2 : c ≤ 9223372036854775807) : Pur P (.binOp .sub t x y t2) ty l h (.int .i64 c) := by
  have := p_subW (P := P) (h := h) (ty := ty) (t := t) (t2 := t2) hx hy; rw [hc, wrap64_eq h1 h2] at this; exact this
theorem p_mul {c : Int} (hx : ev l x = some (.int .i64 a)) (hy : ev l y = some (.int .i64 b)) (hc : a * b = c) (h1 : -9223372036854775808 ≤ c) (h2 : c ≤ 9223372036854775807) : Pur P (.binOp .mul t x y t2) ty l h (.int .i64 c) := by
  have := p_mulW (P := P) (h := h) (ty := ty) (t := t) (t2 := t2) hx hy; rw [hc, wrap64_eq h1 h2] at this; exact this
theorem p_rem (hx : ev l x = some (.int k a)) (hy : ev l y = some (.int k b)) (h0 : ¬ b = 0) : Pur P (.binOp .rem t x y t2) ty l h (.int k (a.tmod b)) := by
  refine ⟨fun ρ w d p af g hρ hw => ?_⟩; simp [execOp, hρ _ _ hx, hρ _ _ hy, eqGuard, binOp, Op.intDiv, h0]
theorem p_remN {m n r : Nat} (hx : ev l x = some (.int k m)) (hy : ev l y = some (.int k n)) (h0 : 0 < n) (hr : m % n = r) : Pur P (.binOp .rem t x y t2) ty l h (.int k r) := by
  have := p_rem (P := P) (h := h) (ty := ty) (t := t) (t2 := t2) hx hy (by omega)
  have e : (m : Int).tmod n = (r : Int) := by rw [Int.tmod_eq_emod_of_nonneg (by omega), ← hr]; simp
  rw [e] at this; exact this
theorem p_conv {src dst : TypeId} {k' : IntKind} {d' : TypeDesc} (hx : ev l x = some (.int k a)) (hs : P.underlying src = some d') (hu : P.underlying dst = some (.int k')) : Pur P (.convert src dst x) ty l h (.int k' (k'.wrap a)) := by
  refine ⟨fun ρ w d p af g hρ hw => ?_⟩
  simp [execOp, hρ _ _ hx, convert, run_underlying hs, run_underlying hu, Conv.intToInt]
theorem p_conv64 {src dst : TypeId} {d' : TypeDesc} (hx : ev l x = some (.int k a)) (hs : P.underlying src = some d') (hu : P.underlying dst = some (.int .i64)) (h1 : -9223372036854775808 ≤ a) (h2 : a ≤ 9223372036854775807) : Pur P (.convert src dst x) ty l h (.int .i64 a) := by
  have := p_conv (P := P) (h := h) (ty := ty) hx hs hu; rw [wrap64_eq h1 h2] at this; exact this
theorem p_convU64 {src dst : TypeId} {d' : TypeDesc} (hx : ev l x = some (.int k a)) (hs : P.underlying src = some d') (hu : P.underlying dst = some (.int .u64)) (h1 : 0 ≤ a) (h2 : a < 18446744073709551616) : Pur P (.convert src dst x) ty l h (.int .u64 a) := by
  have := p_conv (P := P) (h := h) (ty := ty) hx hs hu; rw [wrapU64_eq h1 h2] at this; exact this
end ints

/-! addresses and loads -/
theorem p_idx {x i : Operand} {t e : TypeId} {b o n c j size : Nat} {k : IntKind} {z : Int} (hx : ev l x = some (.slice (some ⟨b, o, none⟩) n c)) (hi : ev l i = some (.int k z)) (hz : z = (j : Int)) (hj : j < n)
    (hu : P.underlying t = some (.slice e)) (hs : ∀ w, (sizeOf e).run P w = .ok size w) :
    Pur P (.indexAddr t x i) ty l h (.pointer (some ⟨b, o + j * size, none⟩)) := by
  refine ⟨fun ρ w d p af g hρ hw => ?_⟩
  subst hz
  simp [execOp, hρ _ _ hx, hρ _ _ hi, Instr.indexAt, asIntOf, run_underlying hu, hj, hs, add_none]
/-- The same at elements of one cell. -/
theorem p_idx1 {x i : Operand} {t e : TypeId} {b o n c j : Nat} {k : IntKind} {z : Int} (hx : ev l x = some (.slice (some ⟨b, o, none⟩) n c)) (hi : ev l i = some (.int k z)) (hz : z = (j : Int)) (hj : j < n)
    (hu : P.underlying t = some (.slice e)) (hs : ∀ w, (sizeOf e).run P w = .ok 1 w) :
    Pur P (.indexAddr t x i) ty l h (.pointer (some ⟨b, o + j, none⟩)) := by
  have := p_idx (P := P) (h := h) (ty := ty) hx hi hz hj hu hs; simpa using this
/-- An index into an array behind a pointer. -/
theorem p_idxA {x i : Operand} {t e : TypeId} {b o n j size : Nat} {k : IntKind} {z : Int} (hx : ev l x = some (.pointer (some ⟨b, o, none⟩))) (hi : ev l i = some (.int k z)) (hz : z = (j : Int)) (hj : j < n)
    (hu : P.underlying t = some (.array n e)) (hs : ∀ w, (sizeOf e).run P w = .ok size w) :
    Pur P (.indexAddr t x i) ty l h (.pointer (some ⟨b, o + j * size, none⟩)) := by
  refine ⟨fun ρ w d p af g hρ hw => ?_⟩
  subst hz
  simp [execOp, hρ _ _ hx, hρ _ _ hi, Instr.indexAt, Instr.sureAddr, asIntOf, run_underlying hu, hj, hs, add_none]
theorem p_fld {x : Operand} {t : TypeId} {b o i off size : Nat} {fs : Array Field} {f : Field} (hx : ev l x = some (.pointer (some ⟨b, o, none⟩))) (hu : P.underlying t = some (.struct fs)) (hf : fs[i]? = some f)
    (hs : ∀ w, (sizeOf f.type).run P w = .ok (size + 1) w) (ho : f.offset = off) :
    Pur P (.fieldAddr t x i) ty l h (.pointer (some ⟨b, o + off, none⟩)) := by
  refine ⟨fun ρ w d p af g hρ hw => ?_⟩
  subst ho
  simp [execOp, hρ _ _ hx, Instr.fieldAt, Instr.sureAddr, run_underlying hu, hf, fieldPlace, hs, add_none]
theorem p_load {x : Operand} {t : TypeId} {b o : Nat} {v : Value} (hx : ev l x = some (.pointer (some ⟨b, o, none⟩))) (ha : ∀ w, (isAgg t).run P w = .ok false w) (hv : hc h b o = some v) :
    Pur P (.load t x) ty l h v := by
  refine ⟨fun ρ w d p af g hρ hw => ?_⟩
  have hcell : w.cell? ⟨b, o, none⟩ = some v := by rw [cell_hc, hw]; exact hv
  simp [execOp, hρ _ _ hx, Instr.loadAt, Instr.sureAddr, loadVar, ha, hcell]
theorem loadFrom (w : World) (b o : Nat) : ∀ (n i : Nat) (acc : Array Value) (vs : List Value), vs.length = n → (∀ j, j < n → w.cell? ⟨b, o + (i + j), none⟩ = vs[j]?) →
    (loadCellsFrom ⟨b, o, none⟩ i n acc).run P w = .ok (acc ++ vs.toArray) w
  | 0, i, acc, vs, hl, _ => by
    have : vs = [] := List.eq_nil_of_length_eq_zero hl
    subst this; simp [loadCellsFrom]
  | n + 1, i, acc, [], hl, _ => by simp at hl
  | n + 1, i, acc, v :: vs, hl, hv => by
    have h0 := hv 0 (by omega)
    simp at h0
    have ih := loadFrom w b o n (i + 1) (acc.push v) vs (by simpa using hl) (fun j hj => by have := hv (j + 1) (by omega); simpa [Nat.add_assoc, Nat.add_comm 1 j] using this)
    simp [loadCellsFrom, add_none, h0, ih]
/-- A struct or an array read as a whole. -/
theorem p_loadA {x : Operand} {t : TypeId} {b o n : Nat} {vs : List Value} (hx : ev l x = some (.pointer (some ⟨b, o, none⟩))) (ha : ∀ w, (isAgg t).run P w = .ok true w) (hs : ∀ w, (sizeOf t).run P w = .ok n w)
    (hl : vs.length = n) (hv : ∀ j, j < n → hc h b (o + j) = vs[j]?) : Pur P (.load t x) ty l h (.agg vs.toArray) := by
  refine ⟨fun ρ w d p af g hρ hw => ?_⟩
  have := loadFrom (P := P) w b o n 0 #[] vs hl (fun j hj => by rw [cell_hc, hw]; simpa using hv j hj)
  simp [execOp, hρ _ _ hx, Instr.loadAt, Instr.sureAddr, loadVar, ha, hs, loadCells, this]
/-- x[:0] and its like: 'x[:n]'. -/
theorem p_reslice {x hi : Operand} {t e : TypeId} {a : Option Addr} {n c m size : Nat} {k : IntKind} (hx : ev l x = some (.slice a n c)) (hh : ev l hi = some (.int k m)) (hm : m ≤ c)
    (hu : P.underlying t = some (.slice e)) (hs : ∀ w, (sizeOf e).run P w = .ok size w) :
    Pur P (.slice t x none (some hi) none) ty l h (.slice a m c) := by
  refine ⟨fun ρ w d p af g hρ hw => ?_⟩
  have hm' : (m : Int) ≤ (c : Int) := by omega
  simp only [execOp, hρ _ _ hx, hρ _ _ hh, Instr.sliceAt, Instr.slice, Sem.run_bind, run_underlying hu, Result.andThen_ok, Option.map_none, Option.map_some, Instr.sliceBounds, Instr.sliceBound, asIntOf, Sem.run_pure, Option.isSome_none]
  simp [hm', hs]
  intro _
  cases a <;> simp [Addr.add]
end V
end Go.Proofs.Ybulkdiqq
