/-
  Eff: operations that turn the heap. Own work of this seat. Generic: over any program.
-/
import Derived.Test.YbulkdiqqOps
namespace Go.Proofs.Ybulkdiqq
set_option linter.unusedSimpArgs false
set_option linter.unusedVariables false
set_option linter.unnecessarySimpa false
namespace V
open Go Go.RowKit

/-- Blocks may have been laid; of those that lay, 'row' alone may have turned. -/
structure Grow (h h' : Heap) (row : Option Nat) : Prop where
  size : h.size ≤ h'.size
  other : ∀ k, k < h.size → some k ≠ row → h'[k]? = h[k]?
theorem Grow.refl (h : Heap) (row : Option Nat) : Grow h h row := ⟨Nat.le_refl _, fun _ _ _ => rfl⟩
theorem New.grow {h h' : Heap} {o : Obj} (n : New h h' o) (row : Option Nat) : Grow h h' row := ⟨by have := n.size; omega, fun k hk _ => n.other k hk⟩
theorem Upd.grow {h h' : Heap} {o : Obj} {b : Nat} (n : Upd h h' b o) : Grow h h' (some b) := ⟨by have := n.size; omega, fun k _ hk => n.other k (fun e => hk (by rw [e]))⟩

/-- A world with this heap; nothing else of it is looked at. -/
def mkW (h : Heap) : World := { (default : World) with heap := h }
/-- 'ownsRow' said of a heap. -/
def Owns (h : Heap) (base : Nat) (e : TypeId) (size : Nat) (v : Value) (n : Nat) (xs : List Value) : Prop := (mkW h).ownsRow base e size v n xs
theorem owns_iff {w : World} {base : Nat} {e : TypeId} {size : Nat} {v : Value} {n : Nat} {xs : List Value} : w.ownsRow base e size v n xs ↔ Owns w.heap base e size v n xs := Iff.rfl

theorem Owns.keep {h h' : Heap} {base : Nat} {e : TypeId} {size : Nat} {v : Value} {n : Nat} {xs : List Value} (ho : Owns h base e size v n xs) (hk : ∀ k, base ≤ k → k < h.size → v.ownBlock = some k → h'[k]? = h[k]?) : Owns h' base e size v n xs := by
  obtain ⟨h1, h2⟩ := ho
  refine ⟨h1, ?_⟩
  rcases h2 with h2 | ⟨g, cap, cur, hv, hb, hg, r⟩
  · exact .inl h2
  · refine .inr ⟨g, cap, cur, hv, hb, ?_, r⟩
    show h'[g]? = _
    have hg' : h[g]? = some (.cells cur e (0, 0)) := hg
    rw [hk g hb (lt_of_get hg') (by rw [hv]; rfl)]; exact hg'
theorem Owns.cell {h : Heap} {base : Nat} {e : TypeId} {v : Value} {n : Nat} {xs : List Value} {g : Nat} (ho : Owns h base e 1 v n xs) (hg : v.ownBlock = some g) {j : Nat} {u : Value} (hu : xs[j]? = some u) : hc h g j = some u := by
  have := World.ownsRow.cells ho hg j u hu
  rw [add_none, cell_hc] at this
  simpa [mkW] using this
/-- Its value is nil or leads to a row of its own. -/
theorem Owns.shape {h : Heap} {base : Nat} {e : TypeId} {size : Nat} {v : Value} {n : Nat} {xs : List Value} (ho : Owns h base e size v n xs) :
    (v = .slice none 0 0 ∧ n = 0) ∨ ∃ g cap cur, v = .slice (some ⟨g, 0, none⟩) n cap ∧ base ≤ g ∧ h[g]? = some (.cells cur e (0, 0)) ∧ n ≤ cap ∧ cap ≤ maxLen ∧ cur.size = cap * size ∧ cur.toList.take (n * size) = xs := ho.2
theorem Owns.len {h : Heap} {base : Nat} {e : TypeId} {v : Value} {n : Nat} {xs : List Value} (ho : Owns h base e 1 v n xs) : xs.length = n := by simpa using ho.1

variable {P : Program} {l : Env} {h : Heap} {ty : TypeId}

theorem e_store {x y : Operand} {t : TypeId} {b o : Nat} {v : Value} {c : Array Value} {e : TypeId} (hx : ev l x = some (.pointer (some ⟨b, o, none⟩))) (hy : ev l y = some v) (h1 : v.oneCell' = true)
    (hs : ∀ w, (sizeOf t).run P w = .ok 1 w) (hb : h[b]? = some (.cells c e (0, 0))) (ho : o < c.size) :
    Eff P (.store t x y) ty l h (fun _ h' => Upd h h' b (.cells (c.setIfInBounds o v) e (0, 0))) := by
  refine ⟨fun ρ w d p af g hρ hw => ?_⟩
  have hb' : w.heap[b]? = some (.cells c e (0, 0)) := by rw [hw]; exact hb
  have hcs : v.cells = #[v] := by cases v <;> first | rfl | (simp [Value.oneCell'] at h1)
  have hcell : w.cell? ⟨b, o, none⟩ = some c[o] := by rw [cell_hc, hc_of hb']; simp [ho]
  have hfr : w.frozen? ⟨b, o, none⟩ = false := by simp [World.frozen?, hb']
  have hst := run_store P w ⟨b, o, none⟩ v .plain h1
  refine ⟨undef, w.setCell ⟨b, o, none⟩ v, .inr ⟨?_, rfl⟩, ?_, rfl, rfl, rfl⟩
  · simp [execOp, hρ _ _ hx, hρ _ _ hy, Instr.storeAt, Instr.sureAddr, storeVar, hcs, hs, storeCells, Addr.add, hst, hcell, hfr]
  · have := upd_set (o := o) (v := v) hb'; rw [hw] at this; exact this

theorem e_box {x : Operand} {t : TypeId} {v : Value} (hx : ev l x = some v) :
    Eff P (.box t x) ty l h (fun u h' => u = .pointer (some ⟨h.size, 0, none⟩) ∧ New h h' (.cells v.cells t)) := by
  refine ⟨fun ρ w d p af g hρ hw => ?_⟩
  refine ⟨.pointer (some ⟨h.size, 0, none⟩), w.alloc (.cells v.cells t), .inl ?_, ⟨rfl, ?_⟩, rfl, rfl, rfl⟩
  · simp [execOp, hρ _ _ hx, Instr.box, newVar, newRow, hw]
  · rw [← hw]; exact New.push _ _

theorem e_slice0 {t e : TypeId} {size : Nat} (hu : P.underlying t = some (.slice e)) (hs : ∀ w, (sizeOf e).run P w = .ok size w) :
    Eff P (.buildSlice t 0 #[]) ty l h (fun u h' => u = .slice (some ⟨h.size, 0, none⟩) 0 0 ∧ New h h' (.cells #[] e)) := by
  refine ⟨fun ρ w d p af g hρ hw => ?_⟩
  refine ⟨.slice (some ⟨h.size, 0, none⟩) 0 0, w.alloc (.cells #[] e), .inl ?_, ⟨rfl, ?_⟩, rfl, rfl, rfl⟩
  · simp [execOp, Instr.buildSlice, run_underlying hu, hs, newRow, hw, Instr.fill, Array.range_zero']
  · rw [← hw]; exact New.push _ _

theorem e_slice1 {x : Operand} {t e : TypeId} {v z : Value} (hx : ev l x = some v) (hu : P.underlying t = some (.slice e)) (hs : ∀ w, (sizeOf e).run P w = .ok 1 w) (hz : ∀ w, (zeroValue e).run P w = .ok z w) (h1 : v.oneCell' = true) :
    Eff P (.buildSlice t 1 #[(0, x)]) ty l h (fun u h' => u = .slice (some ⟨h.size, 0, none⟩) 1 1 ∧ New h h' (.cells #[v] e)) := by
  refine ⟨fun ρ w d p af g hρ hw => ?_⟩
  have hcs : v.cells = #[v] := by cases v <;> first | rfl | (simp [Value.oneCell'] at h1)
  refine ⟨.slice (some ⟨h.size, 0, none⟩) 1 1, w.alloc (.cells #[v] e), .inl ?_, ⟨rfl, ?_⟩, rfl, rfl, rfl⟩
  · simp [execOp, Instr.buildSlice, run_underlying hu, hs, hz, newRow, hw, Instr.fill, hρ _ _ hx, hcs, Array.range_succ, Array.range_zero']
  · rw [← hw]; exact New.push _ _

theorem e_make {x y : Operand} {t e : TypeId} {i : TypeInfo} {z : Value} {k k' : IntKind} {n c : Nat} (hx : ev l x = some (.int k n)) (hy : ev l y = some (.int k' c)) (hu : P.underlying t = some (.slice e)) (hi : P.info? e = some i) (hz : i.zero = some z)
    (hnc : n ≤ c) (hb : i.bytes * c ≤ 281474976710656) (hm : c ≤ 9223372036854775807) :
    Eff P (.makeSlice t x y) ty l h (fun u h' => u = .slice (some ⟨h.size, 0, none⟩) n c ∧ New h h' (.cells (madeCells z.cells (c * i.size)) e)) := by
  refine ⟨fun ρ w d p af g hρ hw => ?_⟩
  have hr := run_make (P := P) w t e i z hu hi hz k k' n c (by omega) (by omega) (by rw [← Int.natCast_mul]; exact Int.ofNat_le.2 hb) (by omega)
  refine ⟨.slice (some ⟨h.size, 0, none⟩) n c, w.alloc (.cells (madeCells z.cells (c * i.size)) e), .inl ?_, ⟨rfl, ?_⟩, rfl, rfl, rfl⟩
  · simp [execOp, hρ _ _ hx, hρ _ _ hy, hr, hw]
  · rw [← hw]; exact New.push _ _

theorem madeCells_one (z : Value) (n : Nat) : madeCells #[z] n = Array.replicate n z := by
  apply Array.toList_inj.1; rw [toList_madeCells_one]; simp
theorem madeCells_get (zs : Array Value) (n j : Nat) (hj : j < n) : (madeCells zs n)[j]? = some (zs[j % zs.size]!) := by
  simp [madeCells, hj]

/-- What append hands back lies where it lay, or in a new block. -/
theorem own_of_append (w : World) (base : Nat) (t ty e : TypeId) (i : TypeInfo) (z : Value) (size bytes : Nat) (ht : P.underlying t = some (.slice e)) (hi : P.info? e = some i) (hz : i.zero = some z)
    (hsize : i.size = size) (hby : i.bytes = bytes) (v : Value) (n : Nat) (xs : List Value) (hown : w.ownsRow base e size v n xs)
    (a : Addr) (m c : Nat) (news : List Value) (hl : news.length = m * size) (hnews : ∀ j u, news[j]? = some u → w.cell? (a.add j) = some u) (h1 : ∀ u ∈ news, u.oneCell' = true)
    (h63 : n + m ≤ maxLen) (hbytes : (n + m) * bytes ≤ 140737488355328) {v' : Value} {w' : World} (hr : (Builtin.append_ #[t, t] ty #[v, .slice (some a) m c]).run P w = .ok v' w') :
    v'.ownBlock = v.ownBlock ∨ v'.ownBlock = some w.heap.size := by
  subst hsize
  subst hby
  have hsmall : n + m ≤ 9223372036854775807 := by simp only [maxLen] at h63; omega
  rcases hown.2 with ⟨rfl, rfl⟩ | ⟨g, cap, cur, rfl, hbg, hg, hnc, hcm, hcs, htake⟩
  · by_cases hm : m = 0
    · subst hm
      have hn : news = [] := List.eq_nil_of_length_eq_zero (by simpa using hl)
      subst hn
      simp [Builtin.append_, run_underlying ht, sizeOf, typeInfo, hi, Builtin.lenOf, Builtin.firstCells, loadCells, loadCellsFrom] at hr
      exact .inl (by rw [← hr.1])
    · have h2 := run_append_nil (P := P) w t ty e i z ht hi hz a m c news hl hnews (by omega) (by omega) (by have hb := hbytes; simp only [Nat.zero_add] at hb; omega)
      rw [h2] at hr
      simp only [Result.ok.injEq] at hr
      exact .inr (by rw [← hr.1]; rfl)
  · by_cases hroom : n + m ≤ cap
    · have hfit : n * i.size + news.length ≤ cur.size := by rw [hl, hcs, ← Nat.add_mul]; exact Nat.mul_le_mul_right _ hroom
      have h2 := run_append_room (P := P) w t ty e i ht hi g n cap cur hg a m c news hl hnews h1 hroom hfit
      rw [h2] at hr
      simp only [Result.ok.injEq] at hr
      exact .inl (by rw [← hr.1]; rfl)
    · have holds : ∀ j u, xs[j]? = some u → w.cell? ((⟨g, 0, none⟩ : Addr).add j) = some u := hown.cells (g := g) rfl
      have h2 := run_append_grow (P := P) w t ty e i z ht hi hz ⟨g, 0, none⟩ n cap xs hown.1 holds a m c news hl hnews (by omega) (by omega) (growslice_fits (by omega) hbytes)
      rw [h2] at hr
      simp only [Result.ok.injEq] at hr
      exact .inr (by rw [← hr.1]; rfl)

/-- append of a row of cells to a slice of the call's own. -/
theorem e_append {x y : Operand} {t e : TypeId} {i : TypeInfo} {z : Value} {base size bytes n m c : Nat} {v : Value} {ad : Addr} {xs news : List Value} (hx : ev l x = some v) (hy : ev l y = some (.slice (some ad) m c))
    (hu : P.underlying t = some (.slice e)) (hi : P.info? e = some i) (hz : i.zero = some z) (hsize : i.size = size) (hby : i.bytes = bytes) (hzs : z.cells.size = size) (hsz : 0 < size)
    (hown : Owns h base e size v n xs) (hl : news.length = m * size) (hnews : ∀ j u, news[j]? = some u → (mkW h).cell? (ad.add j) = some u) (h1 : ∀ u ∈ news, u.oneCell' = true)
    (h63 : n + m ≤ maxLen) (hbytes : (n + m) * bytes ≤ 140737488355328) (hbase : base ≤ h.size) :
    Eff P (.call { callee := .builtin .append, args := #[x, y], argTypes := #[t, t] }) ty l h
      (fun v' h' => Owns h' base e size v' (n + m) (xs ++ news) ∧ Grow h h' v.ownBlock ∧ (v' = .slice none 0 0 ↔ v = .slice none 0 0 ∧ m = 0) ∧ (v'.ownBlock = v.ownBlock ∨ v'.ownBlock = some h.size)) := by
  refine ⟨fun ρ w d p af g hρ hw => ?_⟩
  subst hw
  obtain ⟨v', w', hr, h2, h3, h4⟩ := run_append_own (P := P) w base t ty e i z size bytes hu hi hz hsize hby hzs hsz v n xs hown ad m c news hl hnews h1 h63 hbytes hbase
  have h5 := own_of_append w base t ty e i z size bytes hu hi hz hsize hby v n xs hown ad m c news hl hnews h1 h63 hbytes hr
  refine ⟨v', w', .inl ?_, ⟨h2, ⟨h3.size, h3.block⟩, h4, h5⟩, h3.os, h3.tape, h3.output⟩
  simp [execOp, resolve, invoke, builtin, hρ _ _ hx, hρ _ _ hy, hr]

/-- append of one element, laid as a slice of one just before. -/
theorem e_append1 {x y : Operand} {t e : TypeId} {i : TypeInfo} {z : Value} {base bytes n b : Nat} {v u : Value} {xs : List Value} (hx : ev l x = some v) (hy : ev l y = some (.slice (some ⟨b, 0, none⟩) 1 1))
    (hu : P.underlying t = some (.slice e)) (hi : P.info? e = some i) (hz : i.zero = some z) (hsize : i.size = 1) (hby : i.bytes = bytes) (hzs : z.cells.size = 1)
    (hown : Owns h base e 1 v n xs) (hb : hc h b 0 = some u) (h1 : u.oneCell' = true)
    (h63 : n + 1 ≤ maxLen) (hbytes : (n + 1) * bytes ≤ 140737488355328) (hbase : base ≤ h.size) :
    Eff P (.call { callee := .builtin .append, args := #[x, y], argTypes := #[t, t] }) ty l h
      (fun v' h' => Owns h' base e 1 v' (n + 1) (xs ++ [u]) ∧ Grow h h' v.ownBlock ∧ ¬ v' = .slice none 0 0 ∧ (v'.ownBlock = v.ownBlock ∨ v'.ownBlock = some h.size)) := by
  have := e_append (P := P) (ty := ty) hx hy hu hi hz hsize hby hzs (by omega) hown (news := [u]) (by simp) (by
    intro j u' hj
    cases j with
    | zero => simp at hj; subst hj; rw [add_none, cell_hc]; simpa [mkW] using hb
    | succ j => simp at hj) (by simpa using h1) h63 hbytes hbase
  refine ⟨fun ρ w d p af g hρ hw => ?_⟩
  obtain ⟨v', w', hr, ⟨h2, h3, h4, h5⟩, rest⟩ := this.out ρ w d p af g hρ hw
  exact ⟨v', w', hr, ⟨h2, h3, fun e => by have := h4.1 e; omega, h5⟩, rest⟩

/-! ### '==' that is not on numbers -/
theorem run_equal {w : World} {t : TypeId} {x y : Value} {b : Bool} (h : ∀ d, (Op.equalIn (d + 1) t x y).run P w = .ok b w) : (Op.equal t x y).run P w = .ok b w := by
  have := h 9999
  simpa [Op.equal, Op.maxDepth] using this
/-- 'x == nil' at a slice. -/
theorem p_slnil {x y : Operand} {t t2 e : TypeId} {a : Option Addr} {n c : Nat} (hx : ev l x = some (.slice a n c)) (hy : ev l y = some (.slice none 0 0)) (hu : P.underlying t = some (.slice e)) :
    Pur P (.binOp .eql t x y t2) ty l h (.bool a.isNone) := by
  refine ⟨fun ρ w d p af g hρ hw => ?_⟩
  have he : (Op.equal t (.slice a n c) (.slice none 0 0)).run P w = .ok a.isNone w := run_equal fun d => by
    cases a <;> simp [Op.equalIn, run_underlying hu]
  simp [execOp, hρ _ _ hx, hρ _ _ hy, eqGuard, binOp, he]
theorem p_mapnil {x y : Operand} {t t2 k e : TypeId} {a : Option Nat} (hx : ev l x = some (.map a)) (hy : ev l y = some (.map none)) (hu : P.underlying t = some (.map k e)) :
    Pur P (.binOp .eql t x y t2) ty l h (.bool a.isNone) := by
  refine ⟨fun ρ w d p af g hρ hw => ?_⟩
  have he : (Op.equal t (.map a) (.map none)).run P w = .ok a.isNone w := run_equal fun d => by
    cases a <;> simp [Op.equalIn, run_underlying hu]
  simp [execOp, hρ _ _ hx, hρ _ _ hy, eqGuard, binOp, he]
theorem p_bneq {x y : Operand} {t t2 : TypeId} {a b : Bool} (hx : ev l x = some (.bool a)) (hy : ev l y = some (.bool b)) (hu : P.underlying t = some .bool) :
    Pur P (.binOp .neq t x y t2) ty l h (.bool (!(a == b))) := by
  refine ⟨fun ρ w d p af g hρ hw => ?_⟩
  have he : (Op.equal t (.bool a) (.bool b)).run P w = .ok (a == b) w := run_equal fun d => by
    simp [Op.equalIn, run_underlying hu]
  simp [execOp, hρ _ _ hx, hρ _ _ hy, eqGuard, binOp, he]
theorem p_bneqF {x y : Operand} {t t2 : TypeId} {a : Bool} (hx : ev l x = some (.bool a)) (hy : ev l y = some (.bool a)) (hu : P.underlying t = some .bool) :
    Pur P (.binOp .neq t x y t2) ty l h (.bool false) := by
  have := p_bneq (P := P) (h := h) (ty := ty) (t2 := t2) hx hy hu; simpa using this

/-- Below block B nothing has turned. -/
structure Low (B : Nat) (h h' : Heap) : Prop where
  size : h.size ≤ h'.size
  same : ∀ k, k < B → h'[k]? = h[k]?
theorem Low.refl (B : Nat) (h : Heap) : Low B h h := ⟨Nat.le_refl _, fun _ _ => rfl⟩
theorem Low.trans {B : Nat} {h h1 h2 : Heap} (a : Low B h h1) (b : Low B h1 h2) : Low B h h2 := ⟨Nat.le_trans a.size b.size, fun k hk => (b.same k hk).trans (a.same k hk)⟩
theorem Low.mono {B B' : Nat} {h h' : Heap} (a : Low B h h') (hb : B' ≤ B) : Low B' h h' := ⟨a.size, fun k hk => a.same k (by omega)⟩
theorem Low.new {B : Nat} {h h1 h2 : Heap} {o : Obj} (a : Low B h h1) (n : New h1 h2 o) (hB : B ≤ h1.size) : Low B h h2 :=
  a.trans ⟨by have := n.size; omega, fun k hk => n.other k (by omega)⟩
theorem Low.upd {B : Nat} {h h1 h2 : Heap} {o : Obj} {b : Nat} (a : Low B h h1) (n : Upd h1 h2 b o) (hB : B ≤ b) : Low B h h2 :=
  a.trans ⟨by have := n.size; omega, fun k hk => n.other k (by omega)⟩
theorem Low.grow {B : Nat} {h h1 h2 : Heap} {row : Option Nat} (a : Low B h h1) (n : Grow h1 h2 row) (hB : B ≤ h1.size) (hr : ∀ k, row = some k → B ≤ k) : Low B h h2 :=
  a.trans ⟨n.size, fun k hk => n.other k (by omega) (fun e => by have := hr k e.symm; omega)⟩
theorem Owns.base {h : Heap} {base : Nat} {e : TypeId} {size : Nat} {v : Value} {n : Nat} {xs : List Value} (ho : Owns h base e size v n xs) : ∀ k, v.ownBlock = some k → base ≤ k :=
  fun k hk => (World.ownsRow.lt ho k hk).1
theorem Owns.lt {h : Heap} {base : Nat} {e : TypeId} {size : Nat} {v : Value} {n : Nat} {xs : List Value} (ho : Owns h base e size v n xs) : ∀ k, v.ownBlock = some k → k < h.size :=
  fun k hk => (World.ownsRow.lt ho k hk).2
theorem Owns.new {h h' : Heap} {base : Nat} {e : TypeId} {size : Nat} {v : Value} {n : Nat} {xs : List Value} {o : Obj} (ho : Owns h base e size v n xs) (hn : New h h' o) : Owns h' base e size v n xs :=
  ho.keep fun k _ hk _ => hn.other k hk
theorem Owns.mono {h : Heap} {base base' : Nat} {e : TypeId} {size : Nat} {v : Value} {n : Nat} {xs : List Value} (ho : Owns h base e size v n xs) (hb : base' ≤ base) : Owns h base' e size v n xs := by
  obtain ⟨h1, h2⟩ := ho
  refine ⟨h1, ?_⟩
  rcases h2 with h2 | ⟨g, cap, cur, hv, hb', r⟩
  · exact .inl h2
  · exact .inr ⟨g, cap, cur, hv, by omega, r⟩
theorem Owns.slice {h : Heap} {base : Nat} {e : TypeId} {size : Nat} {v : Value} {n : Nat} {xs : List Value} (ho : Owns h base e size v n xs) : ∃ a c, v = .slice a n c ∧ (n = 0 ∨ ∃ g, a = some ⟨g, 0, none⟩ ∧ base ≤ g ∧ g < h.size) := by
  rcases ho.shape with ⟨hv, hn⟩ | ⟨g, cap, cur, hv, hb, hg, _⟩
  · exact ⟨none, 0, by rw [hv, hn], .inl hn⟩
  · exact ⟨some ⟨g, 0, none⟩, cap, hv, .inr ⟨g, rfl, hb, lt_of_get hg⟩⟩
/-- The row behind it. -/
theorem Owns.cur {h : Heap} {base : Nat} {e : TypeId} {n c g : Nat} {xs : List Value} (ho : Owns h base e 1 (.slice (some ⟨g, 0, none⟩) n c) n xs) :
    ∃ cur, h[g]? = some (.cells cur e (0, 0)) ∧ n ≤ cur.size ∧ ∀ h' j u, j < n → Upd h h' g (.cells (cur.setIfInBounds j u) e (0, 0)) → Owns h' base e 1 (.slice (some ⟨g, 0, none⟩) n c) n (xs.set j u) := by
  rcases ho.shape with ⟨hv, hn⟩ | ⟨g', cap, cur, hv, hb, hg, hnc, hm, hs, ht⟩
  · simp at hv
  · simp only [Value.slice.injEq, Option.some.injEq, Addr.mk.injEq, true_and, and_true] at hv
    obtain ⟨rfl, rfl⟩ := hv
    refine ⟨cur, hg, by omega, ?_⟩
    intro h' j u hj hu
    refine ⟨by simpa using ho.1, .inr ⟨g, c, cur.setIfInBounds j u, rfl, hb, hu.at_, hnc, hm, by simpa using hs, ?_⟩⟩
    rw [Array.toList_setIfInBounds, List.take_set, ht]
/-- A new row, empty. -/
theorem Owns.empty {h h' : Heap} {base : Nat} {e : TypeId} (hn : New h h' (.cells #[] e)) (hb : base ≤ h.size) : Owns h' base e 1 (.slice (some ⟨h.size, 0, none⟩) 0 0) 0 [] :=
  ⟨by simp, .inr ⟨h.size, 0, #[], rfl, hb, hn.at_, by omega, by simp [maxLen], by simp, by simp⟩⟩
end V
end Go.Proofs.Ybulkdiqq
