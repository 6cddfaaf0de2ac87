/-
  C2: writes of one cell; (*cachedBlock).unlink, (*cacheShard).pushRecent.
-/
import Derived.Test.YbulkdireC1
namespace Go.Proofs.Ybulkdire
set_option linter.unusedSimpArgs false
set_option linter.unusedVariables false
set_option linter.unnecessarySimpa false
open Go Go.RowKit V
set_option maxRecDepth 100000

/-- A block of n cells. -/
def Blk (h : Heap) (b n : Nat) (e : TypeId) : Prop := ∃ c, h[b]? = some (.cells c e (0, 0)) ∧ c.size = n
theorem Blk.lt {h : Heap} {b n : Nat} {e : TypeId} (hb : Blk h b n e) : b < h.size := by obtain ⟨c, hb, _⟩ := hb; exact lt_of_get hb
theorem Blk.keep {h h' : Heap} {b n : Nat} {e : TypeId} (hb : Blk h b n e) (he : h'[b]? = h[b]?) : Blk h' b n e := by obtain ⟨c, hb, hs⟩ := hb; exact ⟨c, by rw [he]; exact hb, hs⟩
theorem Blk.ne {h : Heap} {a b n m : Nat} {e f : TypeId} (ha : Blk h a n e) (hb : Blk h b m f) (hef : e ≠ f) : a ≠ b := by
  rintro rfl
  obtain ⟨c, h1, _⟩ := ha
  obtain ⟨d, h2, _⟩ := hb
  rw [h1] at h2
  simp at h2
  exact hef h2.2
/-- One cell has been written. -/
structure Wr (h h' : Heap) (b o : Nat) (v : Value) : Prop where
  size : h'.size = h.size
  at_ : hc h' b o = some v
  cell : ∀ b' o', ¬ (b' = b ∧ o' = o) → hc h' b' o' = hc h b' o'
  blk : ∀ b' n e, Blk h b' n e → Blk h' b' n e
  other : ∀ k, k ≠ b → h'[k]? = h[k]?
theorem Wr.of {h h' : Heap} {b o : Nat} {v : Value} {c : Array Value} {e : TypeId} (hb : h[b]? = some (.cells c e (0, 0))) (ho : o < c.size) (hu : Upd h h' b (.cells (c.setIfInBounds o v) e (0, 0))) : Wr h h' b o v := by
  refine ⟨hu.size, hc_set_at ho hu, fun b' o' hne => hc_set hb hu (fun e1 e2 => hne ⟨e1, e2⟩), ?_, hu.other⟩
  rintro b' n f ⟨d, h1, h2⟩
  by_cases hbb : b' = b
  · subst hbb
    rw [hb] at h1
    simp only [Option.some.injEq, Obj.cells.injEq, and_true] at h1
    obtain ⟨rfl, rfl⟩ := h1
    exact ⟨_, hu.at_, by simpa using h2⟩
  · exact ⟨d, by rw [hu.other b' hbb]; exact h1, h2⟩
theorem e_wr {P : Program} {l : Env} {h : Heap} {ty : TypeId} {x y : Operand} {t : TypeId} {b o n : Nat} {v : Value} {e : TypeId} (hx : ev l x = some (.pointer (some ⟨b, o, none⟩))) (hy : ev l y = some v) (h1 : v.oneCell' = true)
    (hs : ∀ w, (sizeOf t).run P w = .ok 1 w) (hb : Blk h b n e) (ho : o < n) :
    Eff P (.store t x y) ty l h (fun _ h' => Wr h h' b o v) := by
  obtain ⟨c, hb, rfl⟩ := hb
  have := e_store (P := P) (ty := ty) hx hy h1 hs hb ho
  refine ⟨fun ρ w d p af g hρ hw => ?_⟩
  obtain ⟨v', w', hr, hu, rest⟩ := this.out ρ w d p af g hρ hw
  exact ⟨v', w', hr, Wr.of hb ho hu, rest⟩
theorem Wr.cell' {h h' : Heap} {b o : Nat} {v : Value} (hw : Wr h h' b o v) {b' o' : Nat} {u : Value} (hne : ¬ (b' = b ∧ o' = o)) (hu : hc h b' o' = some u) : hc h' b' o' = some u := by rw [hw.cell b' o' hne]; exact hu

def ptr (a : Nat × Nat) : Value := .pointer (some ⟨a.1, a.2, none⟩)

set_option maxHeartbeats 4000000 in
theorem unlink_ok (h : Heap) (b : Nat) (p q : Nat × Nat) (np nq : Nat) (ep eq : TypeId) (h3 : hc h b 3 = some (ptr p)) (h4 : hc h b 4 = some (ptr q)) (bp : Blk h p.1 np ep) (sp : p.2 + 4 < np) (bq : Blk h q.1 nq eq) (sq : q.2 + 3 < nq) :
    CallsH Yba.prog 12 #[.pointer (some ⟨b, 0, none⟩)] h (fun u h' => u = .tuple #[] ∧ ∃ h1, Wr h h1 p.1 (p.2 + 4) (ptr q) ∧ Wr h1 h' q.1 (q.2 + 3) (ptr p)) := by
  refine calls_of (N := 22) [(0, .pointer (some ⟨b, 0, none⟩))] Yba.func12 rfl rfl (by simp) (by repeat (first | exact ArgsAre.nil | refine ArgsAre.cons rfl ?_)) ?_
  intro w0 _
  have l3 : hc h b (0 + 3) = some (.pointer (some ⟨p.1, p.2, none⟩)) := by rw [Nat.zero_add]; exact h3
  have l4 : hc h b (0 + 4) = some (.pointer (some ⟨q.1, q.2, none⟩)) := by rw [Nat.zero_add]; exact h4
  refine c_held followsM rfl ?_
  refine h_any 0 rfl (by kernel_rfl) rfl (fun _ => p_move rfl) rfl ?_
  refine h_any 1 rfl (by kernel_rfl) rfl (fun _ => p_nil rfl) rfl ?_
  refine h_any 2 rfl (by kernel_rfl) rfl (fun _ => p_fld (off := 3) rfl Yba.underlying52 rfl Yba.sizeOf50 rfl) rfl ?_
  refine h_any 4 rfl (by kernel_rfl) rfl (fun _ => p_move rfl) rfl ?_
  refine h_any 5 rfl (by kernel_rfl) rfl (fun _ => p_nil rfl) rfl ?_
  refine h_any 6 rfl (by kernel_rfl) rfl (fun _ => p_fld (off := 4) rfl Yba.underlying52 rfl Yba.sizeOf50 rfl) rfl ?_
  refine h_any 8 rfl (by kernel_rfl) rfl (fun _ => p_move rfl) rfl ?_
  refine h_any 9 rfl (by kernel_rfl) rfl (fun _ => p_nil rfl) rfl ?_
  refine h_any 10 rfl (by kernel_rfl) rfl (fun _ => p_fld (off := 4) rfl Yba.underlying52 rfl Yba.sizeOf50 rfl) rfl ?_
  refine h_any 12 rfl (by kernel_rfl) rfl (fun _ => p_move rfl) rfl ?_
  refine h_any 13 rfl (by kernel_rfl) rfl (fun _ => p_nil rfl) rfl ?_
  refine h_any 14 rfl (by kernel_rfl) rfl (fun _ => p_fld (off := 3) rfl Yba.underlying52 rfl Yba.sizeOf50 rfl) rfl ?_
  refine h_take 3 rfl (by kernel_rfl) rfl (p_load rfl Yba.isAgg50 l3) rfl ?_
  refine h_take 7 rfl (by kernel_rfl) rfl (p_load rfl Yba.isAgg50 l4) rfl ?_
  refine h_take 11 rfl (by kernel_rfl) rfl (p_load rfl Yba.isAgg50 l4) rfl ?_
  refine h_take 15 rfl (by kernel_rfl) rfl (p_load rfl Yba.isAgg50 l3) rfl ?_
  refine h_any 16 rfl (by kernel_rfl) rfl (fun _ => p_nil rfl) rfl ?_
  refine h_any 17 rfl (by kernel_rfl) rfl (fun _ => p_fld (off := 4) rfl Yba.underlying52 rfl Yba.sizeOf50 rfl) rfl ?_
  refine h_eff0 18 rfl (by kernel_rfl) rfl (e_wr rfl rfl rfl Yba.sizeOf50 bp sp) ?_
  intro _ h1 w1
  refine h_any 19 rfl (by kernel_rfl) rfl (fun _ => p_nil rfl) rfl ?_
  refine h_any 20 rfl (by kernel_rfl) rfl (fun _ => p_fld (off := 3) rfl Yba.underlying52 rfl Yba.sizeOf50 rfl) rfl ?_
  refine h_eff0 21 rfl (by kernel_rfl) rfl (e_wr rfl rfl rfl Yba.sizeOf50 (w1.blk _ _ _ bq) sq) ?_
  intro _ h2 w2
  refine h_done (by kernel_rfl) ?_
  repeat (first | refine c_seq ?_ | refine c_region ?_ | refine c_block ?_ | refine c_skip ?_ | refine c_exit ?_ | refine c_ret ?_ | refine n_then ?_ | refine n_block ?_ | refine x_then ?_ | refine x_block_eq ?_ | refine x_block_ne rfl ?_ | refine r_then ?_ | refine r_block ?_ | refine s_nil ?_ | refine c_true rfl ?_ | refine c_false rfl ?_ | refine s_pur (p_move rfl) rfl ?_ | refine s_pur (p_assign rfl) rfl ?_ | refine s_pur (p_nil rfl) rfl ?_ | refine s_pur (p_pick_t rfl rfl) rfl ?_ | refine s_pur (p_pick_f rfl rfl) rfl ?_)
  exact end0 Yba.results12 ⟨rfl, h1, w1, w2⟩

set_option maxHeartbeats 4000000 in
theorem push_ok (h : Heap) (sb b : Nat) (q : Nat × Nat) (nq : Nat) (eq : TypeId) (h9 : hc h sb 9 = some (ptr q)) (bs : Blk h sb 10 54) (bb : Blk h b 5 52) (bq : Blk h q.1 nq eq) (sq : q.2 + 3 < nq) :
    CallsH Yba.prog 13 #[.pointer (some ⟨sb, 0, none⟩), .pointer (some ⟨b, 0, none⟩)] h (fun u h' => u = .tuple #[] ∧ ∃ h1 h2 h3, Wr h h1 b 3 (ptr (sb, 5)) ∧ Wr h1 h2 b 4 (ptr q) ∧ Wr h2 h3 q.1 (q.2 + 3) (ptr (b, 0)) ∧ Wr h3 h' sb 9 (ptr (b, 0))) := by
  refine calls_of (N := 30) [(0, .pointer (some ⟨sb, 0, none⟩)), (1, .pointer (some ⟨b, 0, none⟩))] Yba.func13 rfl rfl (by simp) (by repeat (first | exact ArgsAre.nil | refine ArgsAre.cons rfl ?_)) ?_
  intro w0 _
  have l9 : hc h sb (0 + 5 + 4) = some (.pointer (some ⟨q.1, q.2, none⟩)) := h9
  refine c_mid [(0, .pointer (some ⟨sb, 0, none⟩)), (1, .pointer (some ⟨b, 0, none⟩))] (fun h2 => ∃ h1, Wr h h1 b 3 (ptr (sb, 5)) ∧ Wr h1 h2 b 4 (ptr q)) ?_ ?_
  · refine c_held followsM rfl ?_
    refine h_any 0 rfl (by kernel_rfl) rfl (fun _ => p_move rfl) rfl ?_
    refine h_any 1 rfl (by kernel_rfl) rfl (fun _ => p_move rfl) rfl ?_
    refine h_any 2 rfl (by kernel_rfl) rfl (fun _ => p_move rfl) rfl ?_
    refine h_any 3 rfl (by kernel_rfl) rfl (fun _ => p_nil rfl) rfl ?_
    refine h_any 4 rfl (by kernel_rfl) rfl (fun _ => p_fld (off := 5) rfl Yba.underlying54 rfl Yba.sizeOf52 rfl) rfl ?_
    refine h_any 5 rfl (by kernel_rfl) rfl (fun _ => p_move rfl) rfl ?_
    refine h_any 6 rfl (by kernel_rfl) rfl (fun _ => p_nil rfl) rfl ?_
    refine h_any 7 rfl (by kernel_rfl) rfl (fun _ => p_fld (off := 5) rfl Yba.underlying54 rfl Yba.sizeOf52 rfl) rfl ?_
    refine h_any 8 rfl (by kernel_rfl) rfl (fun _ => p_fld (off := 4) rfl Yba.underlying52 rfl Yba.sizeOf50 rfl) rfl ?_
    refine h_take 9 rfl (by kernel_rfl) rfl (p_load rfl Yba.isAgg50 l9) rfl ?_
    refine h_any 10 rfl (by kernel_rfl) rfl (fun _ => p_nil rfl) rfl ?_
    refine h_any 11 rfl (by kernel_rfl) rfl (fun _ => p_fld (off := 3) rfl Yba.underlying52 rfl Yba.sizeOf50 rfl) rfl ?_
    refine h_eff0 12 rfl (by kernel_rfl) rfl (e_wr rfl rfl rfl Yba.sizeOf50 bb (by omega)) ?_
    intro _ h1 w1
    refine h_any 13 rfl (by kernel_rfl) rfl (fun _ => p_nil rfl) rfl ?_
    refine h_any 14 rfl (by kernel_rfl) rfl (fun _ => p_fld (off := 4) rfl Yba.underlying52 rfl Yba.sizeOf50 rfl) rfl ?_
    refine h_eff0 15 rfl (by kernel_rfl) rfl (e_wr rfl rfl rfl Yba.sizeOf50 (w1.blk _ _ _ bb) (by omega)) ?_
    intro _ h2 w2
    refine h_done (by kernel_rfl) ?_
    repeat (first | refine c_seq ?_ | refine c_region ?_ | refine c_block ?_ | refine c_skip ?_ | refine c_exit ?_ | refine c_ret ?_ | refine n_then ?_ | refine n_block ?_ | refine x_then ?_ | refine x_block_eq ?_ | refine x_block_ne rfl ?_ | refine r_then ?_ | refine r_block ?_ | refine s_nil ?_ | refine c_true rfl ?_ | refine c_false rfl ?_ | refine s_pur (p_move rfl) rfl ?_ | refine s_pur (p_assign rfl) rfl ?_ | refine s_pur (p_nil rfl) rfl ?_ | refine s_pur (p_pick_t rfl rfl) rfl ?_ | refine s_pur (p_pick_f rfl rfl) rfl ?_)
    exact m_done ⟨h1, w1, w2⟩ (by repeat (first | exact Sub.nil | refine Sub.cons rfl ?_))
  rintro h2 ⟨h1, w1, w2⟩
  have l4 : hc h2 b (0 + 4) = some (.pointer (some ⟨q.1, q.2, none⟩)) := w2.at_
  repeat (first | refine c_seq ?_ | refine c_region ?_ | refine c_block ?_ | refine c_skip ?_ | refine c_exit ?_ | refine c_ret ?_ | refine n_then ?_ | refine n_block ?_ | refine x_then ?_ | refine x_block_eq ?_ | refine x_block_ne rfl ?_ | refine r_then ?_ | refine r_block ?_ | refine s_nil ?_ | refine c_true rfl ?_ | refine c_false rfl ?_ | refine s_pur (p_move rfl) rfl ?_ | refine s_pur (p_assign rfl) rfl ?_ | refine s_pur (p_nil rfl) rfl ?_ | refine s_pur (p_pick_t rfl rfl) rfl ?_ | refine s_pur (p_pick_f rfl rfl) rfl ?_ | refine s_pur (p_fld (off := 4) rfl Yba.underlying52 rfl Yba.sizeOf50 rfl) rfl ?_ | refine s_pur (p_fld (off := 5) rfl Yba.underlying54 rfl Yba.sizeOf52 rfl) rfl ?_ | refine s_pur (p_fld (off := 3) rfl Yba.underlying52 rfl Yba.sizeOf50 rfl) rfl ?_ | refine s_pur (p_load rfl Yba.isAgg50 (by assumption)) rfl ?_)
  refine s_eff0 (e_wr rfl rfl rfl Yba.sizeOf50 (w2.blk _ _ _ (w1.blk _ _ _ bq)) sq) ?_
  intro _ h3 w3
  repeat (first | refine c_seq ?_ | refine c_region ?_ | refine c_block ?_ | refine c_skip ?_ | refine c_exit ?_ | refine c_ret ?_ | refine n_then ?_ | refine n_block ?_ | refine x_then ?_ | refine x_block_eq ?_ | refine x_block_ne rfl ?_ | refine r_then ?_ | refine r_block ?_ | refine s_nil ?_ | refine c_true rfl ?_ | refine c_false rfl ?_ | refine s_pur (p_move rfl) rfl ?_ | refine s_pur (p_assign rfl) rfl ?_ | refine s_pur (p_nil rfl) rfl ?_ | refine s_pur (p_pick_t rfl rfl) rfl ?_ | refine s_pur (p_pick_f rfl rfl) rfl ?_ | refine s_pur (p_fld (off := 5) rfl Yba.underlying54 rfl Yba.sizeOf52 rfl) rfl ?_ | refine s_pur (p_fld (off := 4) rfl Yba.underlying52 rfl Yba.sizeOf50 rfl) rfl ?_)
  refine s_eff0 (e_wr rfl rfl rfl Yba.sizeOf50 (w3.blk _ _ _ (w2.blk _ _ _ (w1.blk _ _ _ bs))) (by omega)) ?_
  intro _ h4 w4
  repeat (first | refine c_seq ?_ | refine c_region ?_ | refine c_block ?_ | refine c_skip ?_ | refine c_exit ?_ | refine c_ret ?_ | refine n_then ?_ | refine n_block ?_ | refine x_then ?_ | refine x_block_eq ?_ | refine x_block_ne rfl ?_ | refine r_then ?_ | refine r_block ?_ | refine s_nil ?_ | refine c_true rfl ?_ | refine c_false rfl ?_ | refine s_pur (p_move rfl) rfl ?_ | refine s_pur (p_assign rfl) rfl ?_ | refine s_pur (p_nil rfl) rfl ?_ | refine s_pur (p_pick_t rfl rfl) rfl ?_ | refine s_pur (p_pick_f rfl rfl) rfl ?_)
  exact end0 Yba.results13 ⟨rfl, h1, h2, h3, w1, w2, w3, w4⟩
end Go.Proofs.Ybulkdire
