/-
  E2: visitor.crowding and lobby.crowded.
-/
import Derived.Test.YbulkdisgE1
namespace Go.Proofs.Ybulkdisg
set_option linter.unusedSimpArgs false
set_option linter.unusedVariables false
set_option linter.unnecessarySimpa false
open Go Go.RowKit V
set_option maxRecDepth 100000

def arr5 (r : Nat → Int) : List Value := [.int .i64 (r 0), .int .i64 (r 1), .int .i64 (r 2), .int .i64 (r 3), .int .i64 (r 4)]
theorem arr5_get (r : Nat → Int) (j : Nat) (hj : j < 5) : (arr5 r)[j]? = some (.int .i64 (r j)) := by
  rcases (by omega : j = 0 ∨ j = 1 ∨ j = 2 ∨ j = 3 ∨ j = 4) with e | e | e | e | e <;> subst e <;> rfl
theorem arr5_one (r : Nat → Int) : ∀ v ∈ arr5 r, v.oneCell' = true := by
  intro v hv
  simp only [arr5, List.mem_cons, List.not_mem_nil, or_false] at hv
  rcases hv with rfl | rfl | rfl | rfl | rfl <;> rfl
theorem arr5_congr {r s : Nat → Int} (h : ∀ c, c < 5 → r c = s c) : arr5 r = arr5 s := by
  simp only [arr5, h 0 (by omega), h 1 (by omega), h 2 (by omega), h 3 (by omega), h 4 (by omega)]
theorem arr5_set (r s : Nat → Int) (j : Nat) (z : Int) (hj : j < 5) (h : ∀ c, c < 5 → s c = if c = j then z else r c) : ((arr5 r).toArray.setIfInBounds j (.int .i64 z)) = (arr5 s).toArray := by
  have h0 := h 0 (by omega); have h1 := h 1 (by omega); have h2 := h 2 (by omega); have h3 := h 3 (by omega); have h4 := h 4 (by omega)
  rcases (by omega : j = 0 ∨ j = 1 ∨ j = 2 ∨ j = 3 ∨ j = 4) with e | e | e | e | e <;> subst e <;> simp [arr5] <;> simp at h0 h1 h2 h3 h4 <;> simp [h0, h1, h2, h3, h4]

/-- What a visitor's row holds at c: L j, M j: links and member of its j-th network; len: how many. -/
def rowC (L : Nat → Int) (M : Nat → Bool) (len c : Nat) : Int :=
  if c = 0 then L (len - 1) else if c = 1 then (if M (len - 1) then 0 else 1) else if c - 2 < len - 1 then L (c - 2) else 0
/-- The same while its tail is laid. -/
def rowTo (L : Nat → Int) (M : Nat → Bool) (len k c : Nat) : Int :=
  if c = 0 then L (len - 1) else if c = 1 then (if M (len - 1) then 0 else 1) else if c - 2 < k then L (c - 2) else 0

/-- A visitor and its networks. -/
def Vis (h : Heap) (vb : Nat) (L : Nat → Int) (M : Nat → Bool) (len : Nat) : Prop :=
  ∃ (nb : Nat) (xb : Nat → Nat), hc h vb 1 = some (.slice (some ⟨nb, 0, none⟩) len len) ∧ ∀ j, j < len → hc h nb j = some (.pointer (some ⟨xb j, 0, none⟩)) ∧ hc h (xb j) 4 = some (.int .i64 (L j)) ∧ hc h (xb j) 5 = some (.bool (M j))
theorem low_hc {h h' : Heap} {b o : Nat} {v : Value} (hl : Low h.size h h') (e : hc h b o = some v) : hc h' b o = some v := by rw [hc_congr (hl.same b (lt_of_hc e))]; exact e
theorem hc0 {h : Heap} {b o : Nat} {v : Value} (e : hc h b o = some v) : hc h b (0 + o) = some v := by rw [Nat.zero_add]; exact e
theorem V.Low.then {h h1 h2 : Heap} (a : Low h.size h h1) (b : Low h1.size h1 h2) : Low h.size h h2 := a.trans (b.mono a.size)
theorem Vis.low {h h' : Heap} {vb len : Nat} {L : Nat → Int} {M : Nat → Bool} (hv : Vis h vb L M len) (hl : Low h.size h h') : Vis h' vb L M len := by
  obtain ⟨nb, xb, h1, h2⟩ := hv
  exact ⟨nb, xb, low_hc hl h1, fun j hj => ⟨low_hc hl (h2 j hj).1, low_hc hl (h2 j hj).2.1, low_hc hl (h2 j hj).2.2⟩⟩

theorem p_build71 {l : Env} {h : Heap} {ty : TypeId} {x0 x1 : Operand} {z0 z1 : Int} (h0 : ev l x0 = some (.int .i64 z0)) (h1 : ev l x1 = some (.int .i64 z1)) :
    Pur Yba.prog (.build 71 #[(0, x0), (1, x1)]) ty l h (.agg #[.int .i64 z0, .int .i64 z1, .int .i64 0, .int .i64 0, .int .i64 0]) := by
  refine ⟨fun ρ w d p af g hρ hw => ?_⟩
  simp only [execOp, Instr.build, List.map_toArray, List.map_cons, List.map_nil, hρ _ _ h0, hρ _ _ h1]
  simp [Yba.zeroValue71, run_underlying Yba.underlying71, Yba.sizeOf3, Instr.fill, Value.cells]

set_option maxHeartbeats 2000000 in
theorem crowding_ok (h : Heap) (vb len : Nat) (L : Nat → Int) (M : Nat → Bool) (hv : Vis h vb L M len) (h1 : 1 ≤ len) (h4 : len ≤ 4) :
    CallsH Yba.prog 6 #[.pointer (some ⟨vb, 0, none⟩)] h (fun u h' => u = .agg (arr5 (rowC L M len)).toArray ∧ Low h.size h h') := by
  obtain ⟨nb, xb, hn, hx⟩ := hv
  refine calls_of [(0, .pointer (some ⟨vb, 0, none⟩))] Yba.func6 rfl Yba.ntmps6 (by simp) (.cons rfl .nil) ?_
  intro w0 hw0
  refine c_mid [(0, .pointer (some ⟨vb, 0, none⟩)), (2, .pointer (some ⟨h.size, 0, none⟩))] (fun q => New h q (.cells (arr5 (fun _ => 0)).toArray 71)) ?_ ?_
  · refine c_region ?_
    refine s_eff (e_alloc Yba.zeroValue71) rfl ?_
    rintro _ q ⟨rfl, hnq⟩
    repeat (first | refine c_seq ?_ | refine c_region ?_ | refine c_block ?_ | refine c_skip ?_ | refine c_exit ?_ | refine c_ret ?_ | refine n_then ?_ | refine n_block ?_ | refine x_then ?_ | refine x_block_eq ?_ | refine x_block_ne rfl ?_ | refine r_then ?_ | refine r_block ?_ | refine s_nil ?_ | refine c_true rfl ?_ | refine c_false rfl ?_ | refine s_pur (p_move rfl) rfl ?_ | refine s_pur (p_assign rfl) rfl ?_ | refine s_pur (p_nil rfl) rfl ?_ | refine s_pur (p_pick_t rfl rfl) rfl ?_ | refine s_pur (p_pick_f rfl rfl) rfl ?_)
    exact m_done hnq (by repeat (first | exact Sub.nil | refine Sub.cons rfl ?_))
  rintro hA nA
  have loA : Low h.size h hA := (Low.refl _ _).new nA (Nat.le_refl _)
  have sA := nA.size
  obtain ⟨e1, e2, e3⟩ := hx (len - 1) (by omega)
  have n1 := hc0 (low_hc loA hn)
  have f1 := hc0 (low_hc loA e1)
  have f2 := hc0 (low_hc loA e2)
  have f3 := hc0 (low_hc loA e3)
  refine c_mid [(0, .pointer (some ⟨vb, 0, none⟩)), (2, .pointer (some ⟨h.size, 0, none⟩)), (3, .int .i64 ((len - 1 : Nat) : Int))] (fun q => hA = q) ?_ ?_
  · repeat (first | refine c_seq ?_ | refine c_region ?_ | refine c_block ?_ | refine c_skip ?_ | refine c_exit ?_ | refine c_ret ?_ | refine n_then ?_ | refine n_block ?_ | refine x_then ?_ | refine x_block_eq ?_ | refine x_block_ne rfl ?_ | refine r_then ?_ | refine r_block ?_ | refine s_nil ?_ | refine c_true rfl ?_ | refine c_false rfl ?_ | refine s_pur (p_move rfl) rfl ?_ | refine s_pur (p_assign rfl) rfl ?_ | refine s_pur (p_nil rfl) rfl ?_ | refine s_pur (p_pick_t rfl rfl) rfl ?_ | refine s_pur (p_pick_f rfl rfl) rfl ?_ | refine s_pur (p_len rfl Yba.underlying28) rfl ?_ | refine s_pur (p_idx1 rfl rfl rfl (by omega) Yba.underlying28 Yba.sizeOf29) rfl ?_ | refine s_pur (p_fld (off := 1) rfl Yba.underlying52 rfl Yba.sizeOf28 rfl) rfl ?_ | refine s_pur (p_load rfl Yba.isAgg28 (by assumption)) rfl ?_ | refine s_pur (p_sub rfl rfl (c := ((len - 1 : Nat) : Int)) (by omega) (by omega) (by omega)) rfl ?_)
    exact m_done rfl (by repeat (first | exact Sub.nil | refine Sub.cons rfl ?_))
  rintro _ rfl
  refine c_mid [(0, .pointer (some ⟨vb, 0, none⟩)), (2, .pointer (some ⟨h.size, 0, none⟩)), (3, .int .i64 ((len - 1 : Nat) : Int)), (4, .pointer (some ⟨h.size + 1, 0, none⟩))]
    (fun q => Low h.size h q ∧ q[h.size]? = some (.cells (arr5 (fun _ => 0)).toArray 71 (0, 0)) ∧ q[h.size + 1]? = some (.cells (arr5 (fun c => if c = 0 then L (len - 1) else if c = 1 then 1 else 0)).toArray 71 (0, 0)) ∧ q.size = h.size + 2) ?_ ?_
  · repeat (first | refine c_seq ?_ | refine c_region ?_ | refine c_block ?_ | refine c_skip ?_ | refine c_exit ?_ | refine c_ret ?_ | refine n_then ?_ | refine n_block ?_ | refine x_then ?_ | refine x_block_eq ?_ | refine x_block_ne rfl ?_ | refine r_then ?_ | refine r_block ?_ | refine s_nil ?_ | refine c_true rfl ?_ | refine c_false rfl ?_ | refine s_pur (p_move rfl) rfl ?_ | refine s_pur (p_assign rfl) rfl ?_ | refine s_pur (p_nil rfl) rfl ?_ | refine s_pur (p_pick_t rfl rfl) rfl ?_ | refine s_pur (p_pick_f rfl rfl) rfl ?_ | refine s_pur (p_len rfl Yba.underlying28) rfl ?_ | refine s_pur (p_idx1 rfl rfl rfl (by omega) Yba.underlying28 Yba.sizeOf29) rfl ?_ | refine s_pur (p_fld (off := 1) rfl Yba.underlying52 rfl Yba.sizeOf28 rfl) rfl ?_ | refine s_pur (p_fld (off := 4) rfl Yba.underlying41 rfl Yba.sizeOf3 rfl) rfl ?_ | refine s_pur (p_load rfl Yba.isAgg28 (by assumption)) rfl ?_ | refine s_pur (p_load rfl Yba.isAgg29 (by assumption)) rfl ?_ | refine s_pur (p_load rfl Yba.isAgg3 (by assumption)) rfl ?_ | refine s_pur (p_build71 rfl rfl) rfl ?_)
    refine s_eff (e_alloc Yba.zeroValue71) rfl ?_
    rintro _ hB ⟨rfl, nB⟩
    refine s_eff0 (e_storeAll (vs := [.int .i64 (L (len - 1)), .int .i64 1, .int .i64 0, .int .i64 0, .int .i64 0]) rfl rfl Yba.sizeOf71 rfl nB.at_ rfl (by intro v hv; simp only [List.mem_cons, List.not_mem_nil, or_false] at hv; rcases hv with rfl | rfl | rfl | rfl | rfl <;> rfl)) ?_
    rintro _ hC uC
    have sB := nB.size
    have sC := uC.size
    repeat (first | refine c_seq ?_ | refine c_region ?_ | refine c_block ?_ | refine c_skip ?_ | refine c_exit ?_ | refine c_ret ?_ | refine n_then ?_ | refine n_block ?_ | refine x_then ?_ | refine x_block_eq ?_ | refine x_block_ne rfl ?_ | refine r_then ?_ | refine r_block ?_ | refine s_nil ?_ | refine c_true rfl ?_ | refine c_false rfl ?_ | refine s_pur (p_move rfl) rfl ?_ | refine s_pur (p_assign rfl) rfl ?_ | refine s_pur (p_nil rfl) rfl ?_ | refine s_pur (p_pick_t rfl rfl) rfl ?_ | refine s_pur (p_pick_f rfl rfl) rfl ?_)
    rw [sA] at uC
    rw [sA]
    refine m_done ⟨((loA.new nB (by omega)).upd uC (by omega)), ?_, uC.at_, by omega⟩ (by repeat (first | exact Sub.nil | refine Sub.cons rfl ?_))
    rw [uC.other _ (by omega), nB.other _ (by omega)]
    exact nA.at_
  rintro hB ⟨loB, cB, dB, sB⟩
  clear n1 f1 f2 f3 loA nA sA
  have n1 := hc0 (low_hc loB hn)
  have f1 := hc0 (low_hc loB e1)
  have f2 := hc0 (low_hc loB e2)
  have f3 := hc0 (low_hc loB e3)
  refine c_mid [(0, .pointer (some ⟨vb, 0, none⟩)), (2, .pointer (some ⟨h.size, 0, none⟩)), (3, .int .i64 ((len - 1 : Nat) : Int)), (4, .pointer (some ⟨h.size + 1, 0, none⟩))]
    (fun q => Low h.size h q ∧ q[h.size]? = some (.cells (arr5 (fun _ => 0)).toArray 71 (0, 0)) ∧ q[h.size + 1]? = some (.cells (arr5 (rowTo L M len 0)).toArray 71 (0, 0)) ∧ q.size = h.size + 2) ?_ ?_
  · cases hM : M (len - 1)
    · rw [hM] at f3
      repeat (first | refine c_seq ?_ | refine c_region ?_ | refine c_block ?_ | refine c_skip ?_ | refine c_exit ?_ | refine c_ret ?_ | refine n_then ?_ | refine n_block ?_ | refine x_then ?_ | refine x_block_eq ?_ | refine x_block_ne rfl ?_ | refine r_then ?_ | refine r_block ?_ | refine s_nil ?_ | refine c_true rfl ?_ | refine c_false rfl ?_ | refine s_pur (p_move rfl) rfl ?_ | refine s_pur (p_assign rfl) rfl ?_ | refine s_pur (p_nil rfl) rfl ?_ | refine s_pur (p_pick_t rfl rfl) rfl ?_ | refine s_pur (p_pick_f rfl rfl) rfl ?_ | refine s_pur (p_len rfl Yba.underlying28) rfl ?_ | refine s_pur (p_idx1 rfl rfl rfl (by omega) Yba.underlying28 Yba.sizeOf29) rfl ?_ | refine s_pur (p_fld (off := 1) rfl Yba.underlying52 rfl Yba.sizeOf28 rfl) rfl ?_ | refine s_pur (p_fld (off := 5) rfl Yba.underlying41 rfl Yba.sizeOf4 rfl) rfl ?_ | refine s_pur (p_load rfl Yba.isAgg28 (by assumption)) rfl ?_ | refine s_pur (p_load rfl Yba.isAgg29 (by assumption)) rfl ?_ | refine s_pur (p_load rfl Yba.isAgg4 (by assumption)) rfl ?_)
      refine m_done ⟨loB, cB, ?_, sB⟩ (by repeat (first | exact Sub.nil | refine Sub.cons rfl ?_))
      rw [dB, arr5_congr (s := rowTo L M len 0)]
      intro c hc5
      simp [rowTo, hM]
    · rw [hM] at f3
      repeat (first | refine c_seq ?_ | refine c_region ?_ | refine c_block ?_ | refine c_skip ?_ | refine c_exit ?_ | refine c_ret ?_ | refine n_then ?_ | refine n_block ?_ | refine x_then ?_ | refine x_block_eq ?_ | refine x_block_ne rfl ?_ | refine r_then ?_ | refine r_block ?_ | refine s_nil ?_ | refine c_true rfl ?_ | refine c_false rfl ?_ | refine s_pur (p_move rfl) rfl ?_ | refine s_pur (p_assign rfl) rfl ?_ | refine s_pur (p_nil rfl) rfl ?_ | refine s_pur (p_pick_t rfl rfl) rfl ?_ | refine s_pur (p_pick_f rfl rfl) rfl ?_ | refine s_pur (p_len rfl Yba.underlying28) rfl ?_ | refine s_pur (p_idx1 rfl rfl rfl (by omega) Yba.underlying28 Yba.sizeOf29) rfl ?_ | refine s_pur (p_fld (off := 1) rfl Yba.underlying52 rfl Yba.sizeOf28 rfl) rfl ?_ | refine s_pur (p_fld (off := 5) rfl Yba.underlying41 rfl Yba.sizeOf4 rfl) rfl ?_ | refine s_pur (p_load rfl Yba.isAgg28 (by assumption)) rfl ?_ | refine s_pur (p_load rfl Yba.isAgg29 (by assumption)) rfl ?_ | refine s_pur (p_load rfl Yba.isAgg4 (by assumption)) rfl ?_ | refine s_pur (p_idxA1 (j := 1) rfl rfl rfl (by omega) Yba.underlying71 Yba.sizeOf3) rfl ?_)
      refine s_eff0 (e_store rfl rfl rfl Yba.sizeOf3 dB (by simp [arr5])) ?_
      rintro _ hC uC
      repeat (first | refine c_seq ?_ | refine c_region ?_ | refine c_block ?_ | refine c_skip ?_ | refine c_exit ?_ | refine c_ret ?_ | refine n_then ?_ | refine n_block ?_ | refine x_then ?_ | refine x_block_eq ?_ | refine x_block_ne rfl ?_ | refine r_then ?_ | refine r_block ?_ | refine s_nil ?_ | refine c_true rfl ?_ | refine c_false rfl ?_ | refine s_pur (p_move rfl) rfl ?_ | refine s_pur (p_assign rfl) rfl ?_ | refine s_pur (p_nil rfl) rfl ?_ | refine s_pur (p_pick_t rfl rfl) rfl ?_ | refine s_pur (p_pick_f rfl rfl) rfl ?_)
      refine m_done ⟨loB.upd uC (by omega), by rw [uC.other _ (by omega)]; exact cB, ?_, by have := uC.size; omega⟩ (by repeat (first | exact Sub.nil | refine Sub.cons rfl ?_))
      rw [uC.at_]
      congr 2
      refine arr5_set _ _ _ _ (by omega) ?_
      intro c hc5
      rcases (by omega : c = 0 ∨ c = 1 ∨ 2 ≤ c) with e | e | e
      · subst e; simp [rowTo]
      · subst e; simp [rowTo, hM]
      · simp [rowTo, hM, show ¬ c = 0 by omega, show ¬ c = 1 by omega]
  rintro hC ⟨loC, cC, dC, sC⟩
  have n2 := hc0 (low_hc loC hn)
  refine c_mid [(2, .pointer (some ⟨h.size, 0, none⟩)), (4, .pointer (some ⟨h.size + 1, 0, none⟩))]
    (fun q => Low h.size h q ∧ q[h.size]? = some (.cells (arr5 (fun _ => 0)).toArray 71 (0, 0)) ∧ q[h.size + 1]? = some (.cells (arr5 (rowC L M len)).toArray 71 (0, 0)) ∧ q.size = h.size + 2) ?_ ?_
  · repeat (first | refine c_seq ?_ | refine c_region ?_ | refine c_block ?_ | refine c_skip ?_ | refine c_exit ?_ | refine c_ret ?_ | refine n_then ?_ | refine n_block ?_ | refine x_then ?_ | refine x_block_eq ?_ | refine x_block_ne rfl ?_ | refine r_then ?_ | refine r_block ?_ | refine s_nil ?_ | refine c_true rfl ?_ | refine c_false rfl ?_ | refine s_pur (p_move rfl) rfl ?_ | refine s_pur (p_assign rfl) rfl ?_ | refine s_pur (p_nil rfl) rfl ?_ | refine s_pur (p_pick_t rfl rfl) rfl ?_ | refine s_pur (p_pick_f rfl rfl) rfl ?_ | refine s_pur (p_len rfl Yba.underlying28) rfl ?_ | refine s_pur (p_idx1 rfl rfl rfl (by omega) Yba.underlying28 Yba.sizeOf29) rfl ?_ | refine s_pur (p_fld (off := 1) rfl Yba.underlying52 rfl Yba.sizeOf28 rfl) rfl ?_ | refine s_pur (p_load rfl Yba.isAgg28 (by assumption)) rfl ?_ | refine s_pur (p_reslice (m := len - 1) rfl rfl (by omega) Yba.underlying28 Yba.sizeOf29) rfl ?_)
    refine c_loop (fun x : Nat => [(2, .pointer (some ⟨h.size, 0, none⟩)), (4, .pointer (some ⟨h.size + 1, 0, none⟩)), (40, .slice (some ⟨nb, 0, none⟩) (len - 1) len), (41, .int .i64 ((len - 1 : Nat) : Int)), (42, .int .i64 x)])
      (fun x q => x ≤ len - 1 ∧ Low h.size h q ∧ q[h.size]? = some (.cells (arr5 (fun _ => 0)).toArray 71 (0, 0)) ∧ q[h.size + 1]? = some (.cells (arr5 (rowTo L M len x)).toArray 71 (0, 0)) ∧ q.size = h.size + 2) (fun x => len - 1 - x) 0
      ⟨by omega, loC, cC, dC, sC⟩ (by repeat (first | exact Sub.nil | refine Sub.cons rfl ?_)) ?_
    rintro k q ⟨hk, lo, c1, d1, sz⟩
    by_cases hlt : k < len - 1
    · obtain ⟨g1, g2, g3⟩ := hx k (by omega)
      have k1 := hc0 (low_hc lo g1)
      have k2 := hc0 (low_hc lo g2)
      repeat (first | refine c_seq ?_ | refine c_region ?_ | refine c_block ?_ | refine c_skip ?_ | refine c_exit ?_ | refine c_ret ?_ | refine n_then ?_ | refine n_block ?_ | refine x_then ?_ | refine x_block_eq ?_ | refine x_block_ne rfl ?_ | refine r_then ?_ | refine r_block ?_ | refine s_nil ?_ | refine c_true rfl ?_ | refine c_false rfl ?_ | refine s_pur (p_move rfl) rfl ?_ | refine s_pur (p_assign rfl) rfl ?_ | refine s_pur (p_nil rfl) rfl ?_ | refine s_pur (p_pick_t rfl rfl) rfl ?_ | refine s_pur (p_pick_f rfl rfl) rfl ?_ | refine s_pur (p_len rfl Yba.underlying28) rfl ?_ | refine s_pur (p_idx1 rfl rfl rfl (by omega) Yba.underlying28 Yba.sizeOf29) rfl ?_ | refine s_pur (p_fld (off := 4) rfl Yba.underlying41 rfl Yba.sizeOf3 rfl) rfl ?_ | refine s_pur (p_load rfl Yba.isAgg29 (by assumption)) rfl ?_ | refine s_pur (p_load rfl Yba.isAgg3 (by assumption)) rfl ?_ | refine s_pur (p_add (c := ((2 + k : Nat) : Int)) rfl rfl (by omega) (by omega) (by omega)) rfl ?_ | refine s_pur (p_idxA1 (j := 2 + k) rfl rfl rfl (by omega) Yba.underlying71 Yba.sizeOf3) rfl ?_ | refine s_pur (p_lssT rfl rfl (by omega)) rfl ?_ | refine s_pur (p_lssF rfl rfl (by omega)) rfl ?_ | refine s_pur (p_leqT rfl rfl (by omega)) rfl ?_ | refine s_pur (p_leqF rfl rfl (by omega)) rfl ?_ | refine s_pur (p_gtrT rfl rfl (by omega)) rfl ?_ | refine s_pur (p_gtrF rfl rfl (by omega)) rfl ?_ | refine s_pur (p_geqT rfl rfl (by omega)) rfl ?_ | refine s_pur (p_geqF rfl rfl (by omega)) rfl ?_ | refine s_pur (p_eqlT rfl rfl (by omega)) rfl ?_ | refine s_pur (p_eqlF rfl rfl (by omega)) rfl ?_ | refine s_pur (p_neqT rfl rfl (by omega)) rfl ?_ | refine s_pur (p_neqF rfl rfl (by omega)) rfl ?_)
      refine s_eff0 (e_store rfl rfl rfl Yba.sizeOf3 d1 (by simp [arr5]; omega)) ?_
      rintro _ q1 u1
      repeat (first | refine c_seq ?_ | refine c_region ?_ | refine c_block ?_ | refine c_skip ?_ | refine c_exit ?_ | refine c_ret ?_ | refine n_then ?_ | refine n_block ?_ | refine x_then ?_ | refine x_block_eq ?_ | refine x_block_ne rfl ?_ | refine r_then ?_ | refine r_block ?_ | refine s_nil ?_ | refine c_true rfl ?_ | refine c_false rfl ?_ | refine s_pur (p_move rfl) rfl ?_ | refine s_pur (p_assign rfl) rfl ?_ | refine s_pur (p_nil rfl) rfl ?_ | refine s_pur (p_pick_t rfl rfl) rfl ?_ | refine s_pur (p_pick_f rfl rfl) rfl ?_ | refine s_pur (p_add rfl rfl rfl (by omega) (by omega)) rfl ?_)
      refine c_next (k + 1) ⟨by omega, lo.upd u1 (by omega), by rw [u1.other _ (by omega)]; exact c1, ?_, by have := u1.size; omega⟩ (by repeat (first | exact Sub.nil | refine Sub.cons rfl ?_)) (by omega)
      rw [u1.at_]
      congr 2
      refine arr5_set _ _ _ _ (by omega) ?_
      intro c hc5
      rcases (by omega : c = 0 ∨ c = 1 ∨ 2 ≤ c) with e | e | e
      · subst e; simp [rowTo]; omega
      · subst e; simp [rowTo]; omega
      · simp only [rowTo, show ¬ c = 0 by omega, show ¬ c = 1 by omega, if_false]
        by_cases e2 : c = 0 + (2 + k)
        · rw [if_pos e2, if_pos (by omega)]; congr 1; omega
        · rw [if_neg e2]
          by_cases e3 : c - 2 < k
          · rw [if_pos e3, if_pos (by omega)]
          · rw [if_neg e3, if_neg (by omega)]
    · repeat (first | refine c_seq ?_ | refine c_region ?_ | refine c_block ?_ | refine c_skip ?_ | refine c_exit ?_ | refine c_ret ?_ | refine n_then ?_ | refine n_block ?_ | refine x_then ?_ | refine x_block_eq ?_ | refine x_block_ne rfl ?_ | refine r_then ?_ | refine r_block ?_ | refine s_nil ?_ | refine c_true rfl ?_ | refine c_false rfl ?_ | refine s_pur (p_move rfl) rfl ?_ | refine s_pur (p_assign rfl) rfl ?_ | refine s_pur (p_nil rfl) rfl ?_ | refine s_pur (p_pick_t rfl rfl) rfl ?_ | refine s_pur (p_pick_f rfl rfl) rfl ?_ | refine s_pur (p_lssT rfl rfl (by omega)) rfl ?_ | refine s_pur (p_lssF rfl rfl (by omega)) rfl ?_ | refine s_pur (p_leqT rfl rfl (by omega)) rfl ?_ | refine s_pur (p_leqF rfl rfl (by omega)) rfl ?_ | refine s_pur (p_gtrT rfl rfl (by omega)) rfl ?_ | refine s_pur (p_gtrF rfl rfl (by omega)) rfl ?_ | refine s_pur (p_geqT rfl rfl (by omega)) rfl ?_ | refine s_pur (p_geqF rfl rfl (by omega)) rfl ?_ | refine s_pur (p_eqlT rfl rfl (by omega)) rfl ?_ | refine s_pur (p_eqlF rfl rfl (by omega)) rfl ?_ | refine s_pur (p_neqT rfl rfl (by omega)) rfl ?_ | refine s_pur (p_neqF rfl rfl (by omega)) rfl ?_)
      refine m_done ⟨lo, c1, ?_, sz⟩ (by repeat (first | exact Sub.nil | refine Sub.cons rfl ?_))
      have : k = len - 1 := by omega
      subst this
      exact d1
  rintro hD ⟨loD, cD, dD, sD⟩
  repeat (first | refine c_seq ?_ | refine c_region ?_ | refine c_block ?_ | refine c_skip ?_ | refine c_exit ?_ | refine c_ret ?_ | refine n_then ?_ | refine n_block ?_ | refine x_then ?_ | refine x_block_eq ?_ | refine x_block_ne rfl ?_ | refine r_then ?_ | refine r_block ?_ | refine s_nil ?_ | refine c_true rfl ?_ | refine c_false rfl ?_ | refine s_pur (p_move rfl) rfl ?_ | refine s_pur (p_assign rfl) rfl ?_ | refine s_pur (p_nil rfl) rfl ?_ | refine s_pur (p_pick_t rfl rfl) rfl ?_ | refine s_pur (p_pick_f rfl rfl) rfl ?_ | refine s_pur (p_loadA (vs := arr5 (rowC L M len)) rfl Yba.isAgg71 Yba.sizeOf71 rfl (fun j hj => by rw [hc_of dD, Nat.zero_add]; simp)) rfl ?_)
  refine s_eff0 (e_storeAll (vs := arr5 (rowC L M len)) rfl rfl Yba.sizeOf71 rfl cD rfl (arr5_one _)) ?_
  rintro _ hE uE
  repeat (first | refine c_seq ?_ | refine c_region ?_ | refine c_block ?_ | refine c_skip ?_ | refine c_exit ?_ | refine c_ret ?_ | refine n_then ?_ | refine n_block ?_ | refine x_then ?_ | refine x_block_eq ?_ | refine x_block_ne rfl ?_ | refine r_then ?_ | refine r_block ?_ | refine s_nil ?_ | refine c_true rfl ?_ | refine c_false rfl ?_ | refine s_pur (p_move rfl) rfl ?_ | refine s_pur (p_assign rfl) rfl ?_ | refine s_pur (p_nil rfl) rfl ?_ | refine s_pur (p_pick_t rfl rfl) rfl ?_ | refine s_pur (p_pick_f rfl rfl) rfl ?_)
  refine retCell (.inl rfl) Yba.results6 rfl Yba.isAgg71 Yba.sizeOf71 (vs := arr5 (rowC L M len)) rfl (fun j hj => by rw [hc_of uE.at_, Nat.zero_add]; simp) ⟨rfl, loD.upd uE (Nat.le_refl _)⟩
end Go.Proofs.Ybulkdisg
