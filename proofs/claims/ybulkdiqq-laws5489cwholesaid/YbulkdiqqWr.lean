/-
  Wr: blocks of n cells; one cell written. Own work of this seat. Generic: over any program.
-/
import Derived.Test.YbulkdiqqMap
namespace Go.Proofs.Ybulkdiqq
set_option linter.unusedSimpArgs false
set_option linter.unusedVariables false
set_option linter.unnecessarySimpa false
open Go Go.RowKit V

/-- A block of n cells. -/
def Blk (h : Heap) (b n : Nat) (e : TypeId) : Prop := ∃ c, h[b]? = some (.cells c e (0, 0)) ∧ c.size = n
theorem Blk.lt {h : Heap} {b n : Nat} {e : TypeId} (hb : Blk h b n e) : b < h.size := by obtain ⟨c, hb, _⟩ := hb; exact lt_of_get hb
theorem Blk.keep {h h' : Heap} {b n : Nat} {e : TypeId} (hb : Blk h b n e) (he : h'[b]? = h[b]?) : Blk h' b n e := by obtain ⟨c, hb, hs⟩ := hb; exact ⟨c, by rw [he]; exact hb, hs⟩
theorem Blk.ne {h : Heap} {a b n m : Nat} {e f : TypeId} (ha : Blk h a n e) (hb : Blk h b m f) (hef : e ≠ f) : a ≠ b := by
  rintro rfl
  obtain ⟨c, h1, _⟩ := ha
  obtain ⟨d, h2, _⟩ := hb
  rw [h1] at h2
  simp at h2
  exact hef h2.2
/-- One cell has been written. -/
structure Wr (h h' : Heap) (b o : Nat) (v : Value) : Prop where
  size : h'.size = h.size
  at_ : hc h' b o = some v
  cell : ∀ b' o', ¬ (b' = b ∧ o' = o) → hc h' b' o' = hc h b' o'
  blk : ∀ b' n e, Blk h b' n e → Blk h' b' n e
  other : ∀ k, k ≠ b → h'[k]? = h[k]?
theorem Wr.of {h h' : Heap} {b o : Nat} {v : Value} {c : Array Value} {e : TypeId} (hb : h[b]? = some (.cells c e (0, 0))) (ho : o < c.size) (hu : Upd h h' b (.cells (c.setIfInBounds o v) e (0, 0))) : Wr h h' b o v := by
  refine ⟨hu.size, hc_set_at ho hu, fun b' o' hne => hc_set hb hu (fun e1 e2 => hne ⟨e1, e2⟩), ?_, hu.other⟩
  rintro b' n f ⟨d, h1, h2⟩
  by_cases hbb : b' = b
  · subst hbb
    rw [hb] at h1
    simp only [Option.some.injEq, Obj.cells.injEq, and_true] at h1
    obtain ⟨rfl, rfl⟩ := h1
    exact ⟨_, hu.at_, by simpa using h2⟩
  · exact ⟨d, by rw [hu.other b' hbb]; exact h1, h2⟩
theorem e_wr {P : Program} {l : Env} {h : Heap} {ty : TypeId} {x y : Operand} {t : TypeId} {b o n : Nat} {v : Value} {e : TypeId} (hx : ev l x = some (.pointer (some ⟨b, o, none⟩))) (hy : ev l y = some v) (h1 : v.oneCell' = true)
    (hs : ∀ w, (sizeOf t).run P w = .ok 1 w) (hb : Blk h b n e) (ho : o < n) :
    Eff P (.store t x y) ty l h (fun _ h' => Wr h h' b o v) := by
  obtain ⟨c, hb, rfl⟩ := hb
  have := e_store (P := P) (ty := ty) hx hy h1 hs hb ho
  refine ⟨fun ρ w d p af g hρ hw => ?_⟩
  obtain ⟨v', w', hr, hu, rest⟩ := this.out ρ w d p af g hρ hw
  exact ⟨v', w', hr, Wr.of hb ho hu, rest⟩
theorem Wr.cell' {h h' : Heap} {b o : Nat} {v : Value} (hw : Wr h h' b o v) {b' o' : Nat} {u : Value} (hne : ¬ (b' = b ∧ o' = o)) (hu : hc h b' o' = some u) : hc h' b' o' = some u := by rw [hw.cell b' o' hne]; exact hu


/-- A store of many cells into a block. -/
theorem e_storeN {P : Program} {l : Env} {h : Heap} {ty : TypeId} {x y : Operand} {t e : TypeId} {b o n : Nat} {cur : Array Value} {vs : List Value} (hx : ev l x = some (.pointer (some ⟨b, o, none⟩))) (hy : ev l y = some (.agg vs.toArray)) (hs : ∀ w, (sizeOf t).run P w = .ok n w)
    (hn : vs.length = n) (hb : h[b]? = some (.cells cur e (0, 0))) (hc : o + n ≤ cur.size) (h1 : ∀ v ∈ vs, v.oneCell' = true) :
    Eff P (.store t x y) ty l h (fun _ h' => Upd h h' b (.cells (cur.toList.take o ++ vs ++ cur.toList.drop (o + n)).toArray e (0, 0))) := by
  refine ⟨fun ρ w d p af g hρ hw => ?_⟩
  have hb' : w.heap[b]? = some (.cells cur e (0, 0)) := by rw [hw]; exact hb
  have hst := run_storeCells_at (P := P) b o e vs 0 cur w hb' (by omega) h1
  rw [Nat.add_zero, hn] at hst
  refine ⟨undef, w.setRow b (cur.toList.take o ++ vs ++ cur.toList.drop (o + n)).toArray, .inr ⟨?_, rfl⟩, ⟨?_, ?_, ?_⟩, rfl, rfl, rfl⟩
  · simp [execOp, hρ _ _ hx, hρ _ _ hy, Instr.storeAt, Instr.sureAddr, storeVar, Value.cells, hs, hn, hst]
  · rw [← hw]; simp [World.setRow]
  · exact setRow_heap w b cur _ e _ hb'
  · intro k hk
    rw [← hw]
    simp only [World.setRow, Array.getElem?_modify]
    rw [if_neg (by omega)]
end Go.Proofs.Ybulkdiqq
