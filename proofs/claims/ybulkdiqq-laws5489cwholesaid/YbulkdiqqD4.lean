/-
  D4: deliveries written, appended, compared.
-/
import Derived.Test.YbulkdiqqD3
import Derived.Test.YbulkdiqqWr
namespace Go.Proofs.Ybulkdiqq
set_option linter.unusedSimpArgs false
set_option linter.unusedVariables false
set_option linter.unnecessarySimpa false
open Go Go.RowKit V
set_option maxRecDepth 100000

theorem followsM : Yba.prog.follows .mixedOrders = true := by kernel_rfl
theorem info80 : ∃ i, Yba.prog.info? 80 = some i ∧ i.zero = some (.agg (dl (0, 0, 0)).toArray) ∧ i.size = 21 ∧ i.bytes = 120 := info_parts (by kernel_rfl)

def upd (f : Nat → Dlv) (i : Nat) (x : Dlv) : Nat → Dlv := fun j => if j = i then x else f j

def rowD : Nat → (Nat → Dlv) → List Value
  | 0, _ => []
  | n + 1, f => rowD n f ++ dl (f n)
theorem rowD_len (n : Nat) (f : Nat → Dlv) : (rowD n f).length = n * 21 := by
  induction n with
  | zero => rfl
  | succ n ih => simp only [rowD, List.length_append, ih, dl_len]; omega
theorem rowD_get {n : Nat} {f : Nat → Dlv} {i t : Nat} (hi : i < n) (ht : t < 21) : (rowD n f)[i * 21 + t]? = (dl (f i))[t]? := by
  induction n with
  | zero => omega
  | succ n ih =>
    simp only [rowD]
    by_cases h : i = n
    · subst h
      rw [List.getElem?_append_right (by rw [rowD_len]; omega), rowD_len]
      congr 1; omega
    · rw [List.getElem?_append_left (by rw [rowD_len]; omega)]
      exact ih (by omega)
theorem rowD_one {n : Nat} {f : Nat → Dlv} : ∀ u ∈ rowD n f, u.oneCell' = true := by
  induction n with
  | zero => simp [rowD]
  | succ n ih =>
    intro u hu
    simp only [rowD, List.mem_append] at hu
    exact hu.elim (ih u) (dl_one _ u)
theorem rowD_congr {n : Nat} {f f' : Nat → Dlv} (h : ∀ i, i < n → f i = f' i) : rowD n f = rowD n f' := by
  induction n with
  | zero => rfl
  | succ n ih => simp only [rowD]; rw [ih (fun i hi => h i (by omega)), h n (by omega)]

theorem DRow.owns {h : Heap} {g n m base : Nat} {f : Nat → Dlv} (r : DRow h g n m f) (hnm : n ≤ m) (hm : m ≤ 1048576) (hb : base ≤ g) : Owns h base 80 21 (.slice (some ⟨g, 0, none⟩) n m) n (rowD n f) := by
  obtain ⟨c, hg, hs, hcl⟩ := r
  refine ⟨rowD_len n f, .inr ⟨g, m, c, rfl, hb, hg, hnm, by simp only [maxLen]; omega, hs, ?_⟩⟩
  apply List.ext_getElem?
  intro j
  rw [List.getElem?_take]
  by_cases hj : j < n * 21
  · rw [if_pos hj]
    have h1 := hcl (j / 21) (by omega) (j % 21) (by omega)
    have h2 := rowD_get (f := f) (show j / 21 < n by omega) (show j % 21 < 21 by omega)
    rw [show j / 21 * 21 + j % 21 = j by omega] at h1 h2
    rw [h2, ← h1]; simp
  · rw [if_neg hj, List.getElem?_eq_none (by rw [rowD_len]; omega)]
theorem DRow.of {h : Heap} {base n : Nat} {v : Value} {f : Nat → Dlv} (ho : Owns h base 80 21 v n (rowD n f)) (hn : ¬ v = .slice none 0 0) : ∃ g m, v = .slice (some ⟨g, 0, none⟩) n m ∧ base ≤ g ∧ n ≤ m ∧ DRow h g n m f := by
  rcases ho.shape with ⟨hv, _⟩ | ⟨g, cap, cur, hv, hb, hg, hnc, hm, hs, ht⟩
  · exact absurd hv hn
  · refine ⟨g, cap, hv, hb, hnc, cur, hg, hs, fun i hi t ht' => ?_⟩
    rw [← rowD_get hi ht', ← ht, List.getElem?_take, if_pos (by omega)]
    simp

/-- h[i] = x. -/
theorem e_setD {l : Env} {h : Heap} {ty : TypeId} {x y : Operand} {g n m i : Nat} {f : Nat → Dlv} {d : Dlv} (hx : ev l x = some (.pointer (some ⟨g, 0 + i * 21, none⟩))) (hy : ev l y = some (.agg (dl d).toArray)) (r : DRow h g n m f) (hi : i < m) :
    Eff Yba.prog (.store 80 x y) ty l h (fun _ h' => DRow h' g n m (upd f i d) ∧ (i = n → DRow h' g (n + 1) m (upd f i d)) ∧ h'.size = h.size ∧ ∀ k, k ≠ g → h'[k]? = h[k]?) := by
  obtain ⟨c, hg, hs, hcl⟩ := r
  have he := e_storeN (P := Yba.prog) (ty := ty) hx hy Yba.sizeOf80 (dl_len d) hg (by omega) (dl_one d)
  refine ⟨fun ρ w dd p af g' hρ hw => ?_⟩
  obtain ⟨v, w', hr, hu, rest⟩ := he.out ρ w dd p af g' hρ hw
  have hsz : (c.toList.take (0 + i * 21) ++ dl d ++ c.toList.drop (0 + i * 21 + 21)).length = m * 21 := by
    simp only [List.length_append, List.length_take, List.length_drop, dl_len, Array.length_toList]; omega
  have hget : ∀ k t, k < m → t < 21 → (c.toList.take (0 + i * 21) ++ dl d ++ c.toList.drop (0 + i * 21 + 21)).toArray[k * 21 + t]? = if k = i then (dl d)[t]? else c[k * 21 + t]? := by
    intro k t hk ht
    rw [List.getElem?_toArray]
    by_cases e : k = i
    · subst e
      rw [if_pos rfl, List.getElem?_append_left (by simp [dl_len]; omega), List.getElem?_append_right (by simp; omega)]
      congr 1
      simp
      omega
    · rw [if_neg e]
      by_cases hlt : k < i
      · rw [List.getElem?_append_left (by simp [dl_len]; omega), List.getElem?_append_left (by simp; omega), List.getElem?_take, if_pos (by omega)]
        simp
      · rw [List.getElem?_append_right (by simp [dl_len]; omega), List.getElem?_drop]
        simp only [List.length_append, List.length_take, dl_len, Array.length_toList, Array.getElem?_toList]
        congr 1
        omega
  refine ⟨v, w', hr, ⟨⟨_, hu.at_, by simpa using hsz, fun k hk t ht => ?_⟩, fun e => ⟨_, hu.at_, by simpa using hsz, fun k hk t ht => ?_⟩, hu.size, hu.other⟩, rest⟩
  · by_cases hkm : k < m
    · rw [hget k t hkm ht]
      unfold upd
      split
      · rfl
      · exact hcl k hk t ht
    · have h0 := hcl k hk t ht
      rw [Array.getElem?_eq_none (by omega), dl_get! _ _ ht] at h0
      cases h0
  · subst e
    by_cases hkm : k < m
    · rw [hget k t hkm ht]
      unfold upd
      split
      · rfl
      · exact hcl k (by omega) t ht
    · omega

theorem e_one80 {l : Env} {h : Heap} {ty : TypeId} {x : Operand} {d : Dlv} (hx : ev l x = some (.agg (dl d).toArray)) :
    Eff Yba.prog (.buildSlice 68 1 #[(0, x)]) ty l h (fun u h' => u = .slice (some ⟨h.size, 0, none⟩) 1 1 ∧ New h h' (.cells (dl d).toArray 80)) := by
  refine ⟨fun ρ w dd p af g hρ hw => ?_⟩
  refine ⟨.slice (some ⟨h.size, 0, none⟩) 1 1, w.alloc (.cells (dl d).toArray 80), .inl ?_, ⟨rfl, ?_⟩, rfl, rfl, rfl⟩
  · simp [execOp, Instr.buildSlice, run_underlying Yba.underlying68, Yba.sizeOf80, Yba.zeroValue80, newRow, hw, Instr.fill, hρ _ _ hx, Value.cells, dl, Array.range_succ, Array.range_zero']
  · rw [← hw]; exact New.push _ _
theorem app80 {l : Env} {h : Heap} {ty : TypeId} {x y : Operand} {base n b : Nat} {v : Value} {d : Dlv} {xs : List Value} (hx : ev l x = some v) (hy : ev l y = some (.slice (some ⟨b, 0, none⟩) 1 1))
    (hown : Owns h base 80 21 v n xs) (hb : h[b]? = some (.cells (dl d).toArray 80 (0, 0))) (hn : n ≤ 1048576) (hbase : base ≤ h.size) :
    Eff Yba.prog (.call { callee := .builtin .append, args := #[x, y], argTypes := #[68, 68] }) ty l h
      (fun v' h' => Owns h' base 80 21 v' (n + 1) (xs ++ dl d) ∧ Grow h h' v.ownBlock ∧ ¬ v' = .slice none 0 0) := by
  obtain ⟨i, hi, hz, hs, hby⟩ := info80
  have := e_append (P := Yba.prog) (ty := ty) hx hy Yba.underlying68 hi hz hs hby rfl (by omega) hown (news := dl d) rfl (by
    intro j u hj
    rw [add_none, cell_hc]
    show hc h b (0 + j) = _
    rw [hc_of hb]
    simpa using hj) (dl_one d) (by simp only [maxLen]; omega) (by omega) hbase
  refine ⟨fun ρ w dd p af g hρ hw => ?_⟩
  obtain ⟨v', w', hr, ⟨h2, h3, h4, h5⟩, rest⟩ := this.out ρ w dd p af g hρ hw
  exact ⟨v', w', hr, ⟨h2, h3, fun e => by have := h4.1 e; omega⟩, rest⟩

set_option maxHeartbeats 4000000 in
theorem before_ok (h : Heap) (b1 o1 b2 o2 : Nat) (x y : Dlv) (x0 : hc h b1 (o1 + 0) = some (.int .i64 x.1)) (x1 : hc h b1 (o1 + 1) = some (.int .u64 x.2.1)) (y0 : hc h b2 (o2 + 0) = some (.int .i64 y.1)) (y1 : hc h b2 (o2 + 1) = some (.int .u64 y.2.1)) :
    CallsH Yba.prog 59 #[.pointer (some ⟨b1, o1, none⟩), .pointer (some ⟨b2, o2, none⟩)] h (fun u h' => u = .bool (lt x y) ∧ h' = h) := by
  refine calls_of (N := 36) [(0, .pointer (some ⟨b1, o1, none⟩)), (1, .pointer (some ⟨b2, o2, none⟩))] Yba.func59 rfl rfl (by simp) (by repeat (first | exact ArgsAre.nil | refine ArgsAre.cons rfl ?_)) ?_
  intro w0 _
  obtain ⟨a, s, to1⟩ := x
  obtain ⟨b, u, to2⟩ := y
  simp only at x0 x1 y0 y1
  refine c_seq ?_
  repeat (first | refine c_region ?_ | refine c_block ?_ | refine c_skip ?_ | refine c_exit ?_ | refine c_ret ?_ | refine n_then ?_ | refine n_block ?_ | refine x_then ?_ | refine x_block_eq ?_ | refine x_block_ne rfl ?_ | refine r_then ?_ | refine r_block ?_ | refine s_nil ?_ | refine c_true rfl ?_ | refine c_false rfl ?_ | refine s_pur (p_move rfl) rfl ?_ | refine s_pur (p_assign rfl) rfl ?_ | refine s_pur (p_nil rfl) rfl ?_ | refine s_pur (p_pick_t rfl rfl) rfl ?_ | refine s_pur (p_pick_f rfl rfl) rfl ?_)
  refine c_seq ?_
  refine c_quiet followsM (by kernel_rfl) ?_
  intro w1 hw1
  by_cases h1 : a < b
  · have e : lt (a, s, to1) (b, u, to2) = true := by simp [lt, h1]
    rw [e]
    repeat (first | refine q_nil hw1 ?_ | refine c_seq ?_ | refine c_region ?_ | refine c_block ?_ | refine c_skip ?_ | refine c_exit ?_ | refine c_ret ?_ | refine n_then ?_ | refine n_block ?_ | refine x_then ?_ | refine x_block_eq ?_ | refine x_block_ne rfl ?_ | refine r_then ?_ | refine r_block ?_ | refine s_nil ?_ | refine c_true rfl ?_ | refine c_false rfl ?_ | refine q_pur hw1 (p_move rfl) rfl ?_ | refine q_pur hw1 (p_assign rfl) rfl ?_ | refine q_pur hw1 (p_nil rfl) rfl ?_ | refine q_pur hw1 (p_pick_t rfl rfl) rfl ?_ | refine q_pur hw1 (p_pick_f rfl rfl) rfl ?_ | refine q_pur hw1 (p_fld (off := 0) rfl Yba.underlying80 rfl Yba.sizeOf2 rfl) rfl ?_ | refine q_pur hw1 (p_fld (off := 1) rfl Yba.underlying80 rfl Yba.sizeOf50 rfl) rfl ?_ | refine q_pur hw1 (p_load rfl Yba.isAgg2 (by assumption)) rfl ?_ | refine q_pur hw1 (p_load rfl Yba.isAgg50 (by assumption)) rfl ?_ | refine q_pur hw1 (p_lssT rfl rfl (by omega)) rfl ?_ | refine q_pur hw1 (p_lssF rfl rfl (by omega)) rfl ?_ | refine q_pur hw1 (p_leqT rfl rfl (by omega)) rfl ?_ | refine q_pur hw1 (p_leqF rfl rfl (by omega)) rfl ?_ | refine q_pur hw1 (p_gtrT rfl rfl (by omega)) rfl ?_ | refine q_pur hw1 (p_gtrF rfl rfl (by omega)) rfl ?_ | refine q_pur hw1 (p_geqT rfl rfl (by omega)) rfl ?_ | refine q_pur hw1 (p_geqF rfl rfl (by omega)) rfl ?_ | refine q_pur hw1 (p_eqlT rfl rfl (by omega)) rfl ?_ | refine q_pur hw1 (p_eqlF rfl rfl (by omega)) rfl ?_ | refine q_pur hw1 (p_neqT rfl rfl (by omega)) rfl ?_ | refine q_pur hw1 (p_neqF rfl rfl (by omega)) rfl ?_ | refine q_skip rfl rfl rfl ?_ | refine q_skip' rfl rfl rfl ?_ | refine q_pur_g hw1 rfl (p_move rfl) rfl ?_ | refine q_pur_g hw1 rfl (p_assign rfl) rfl ?_ | refine q_pur_g hw1 rfl (p_nil rfl) rfl ?_ | refine q_pur_g hw1 rfl (p_pick_t rfl rfl) rfl ?_ | refine q_pur_g hw1 rfl (p_pick_f rfl rfl) rfl ?_ | refine q_pur_g hw1 rfl (p_fld (off := 0) rfl Yba.underlying80 rfl Yba.sizeOf2 rfl) rfl ?_ | refine q_pur_g hw1 rfl (p_fld (off := 1) rfl Yba.underlying80 rfl Yba.sizeOf50 rfl) rfl ?_ | refine q_pur_g hw1 rfl (p_load rfl Yba.isAgg2 (by assumption)) rfl ?_ | refine q_pur_g hw1 rfl (p_load rfl Yba.isAgg50 (by assumption)) rfl ?_ | refine q_pur_g hw1 rfl (p_lssT rfl rfl (by omega)) rfl ?_ | refine q_pur_g hw1 rfl (p_lssF rfl rfl (by omega)) rfl ?_ | refine q_pur_g hw1 rfl (p_leqT rfl rfl (by omega)) rfl ?_ | refine q_pur_g hw1 rfl (p_leqF rfl rfl (by omega)) rfl ?_ | refine q_pur_g hw1 rfl (p_gtrT rfl rfl (by omega)) rfl ?_ | refine q_pur_g hw1 rfl (p_gtrF rfl rfl (by omega)) rfl ?_ | refine q_pur_g hw1 rfl (p_geqT rfl rfl (by omega)) rfl ?_ | refine q_pur_g hw1 rfl (p_geqF rfl rfl (by omega)) rfl ?_ | refine q_pur_g hw1 rfl (p_eqlT rfl rfl (by omega)) rfl ?_ | refine q_pur_g hw1 rfl (p_eqlF rfl rfl (by omega)) rfl ?_ | refine q_pur_g hw1 rfl (p_neqT rfl rfl (by omega)) rfl ?_ | refine q_pur_g hw1 rfl (p_neqF rfl rfl (by omega)) rfl ?_)
    exact ret1 Yba.results59 rfl ⟨rfl, rfl⟩
  · by_cases h2 : a = b
    · by_cases h3 : s < u
      · have e : lt (a, s, to1) (b, u, to2) = true := by simp [lt, h2, h3]
        rw [e]
        repeat (first | refine q_nil hw1 ?_ | refine c_seq ?_ | refine c_region ?_ | refine c_block ?_ | refine c_skip ?_ | refine c_exit ?_ | refine c_ret ?_ | refine n_then ?_ | refine n_block ?_ | refine x_then ?_ | refine x_block_eq ?_ | refine x_block_ne rfl ?_ | refine r_then ?_ | refine r_block ?_ | refine s_nil ?_ | refine c_true rfl ?_ | refine c_false rfl ?_ | refine q_pur hw1 (p_move rfl) rfl ?_ | refine q_pur hw1 (p_assign rfl) rfl ?_ | refine q_pur hw1 (p_nil rfl) rfl ?_ | refine q_pur hw1 (p_pick_t rfl rfl) rfl ?_ | refine q_pur hw1 (p_pick_f rfl rfl) rfl ?_ | refine q_pur hw1 (p_fld (off := 0) rfl Yba.underlying80 rfl Yba.sizeOf2 rfl) rfl ?_ | refine q_pur hw1 (p_fld (off := 1) rfl Yba.underlying80 rfl Yba.sizeOf50 rfl) rfl ?_ | refine q_pur hw1 (p_load rfl Yba.isAgg2 (by assumption)) rfl ?_ | refine q_pur hw1 (p_load rfl Yba.isAgg50 (by assumption)) rfl ?_ | refine q_pur hw1 (p_lssT rfl rfl (by omega)) rfl ?_ | refine q_pur hw1 (p_lssF rfl rfl (by omega)) rfl ?_ | refine q_pur hw1 (p_leqT rfl rfl (by omega)) rfl ?_ | refine q_pur hw1 (p_leqF rfl rfl (by omega)) rfl ?_ | refine q_pur hw1 (p_gtrT rfl rfl (by omega)) rfl ?_ | refine q_pur hw1 (p_gtrF rfl rfl (by omega)) rfl ?_ | refine q_pur hw1 (p_geqT rfl rfl (by omega)) rfl ?_ | refine q_pur hw1 (p_geqF rfl rfl (by omega)) rfl ?_ | refine q_pur hw1 (p_eqlT rfl rfl (by omega)) rfl ?_ | refine q_pur hw1 (p_eqlF rfl rfl (by omega)) rfl ?_ | refine q_pur hw1 (p_neqT rfl rfl (by omega)) rfl ?_ | refine q_pur hw1 (p_neqF rfl rfl (by omega)) rfl ?_ | refine q_skip rfl rfl rfl ?_ | refine q_skip' rfl rfl rfl ?_ | refine q_pur_g hw1 rfl (p_move rfl) rfl ?_ | refine q_pur_g hw1 rfl (p_assign rfl) rfl ?_ | refine q_pur_g hw1 rfl (p_nil rfl) rfl ?_ | refine q_pur_g hw1 rfl (p_pick_t rfl rfl) rfl ?_ | refine q_pur_g hw1 rfl (p_pick_f rfl rfl) rfl ?_ | refine q_pur_g hw1 rfl (p_fld (off := 0) rfl Yba.underlying80 rfl Yba.sizeOf2 rfl) rfl ?_ | refine q_pur_g hw1 rfl (p_fld (off := 1) rfl Yba.underlying80 rfl Yba.sizeOf50 rfl) rfl ?_ | refine q_pur_g hw1 rfl (p_load rfl Yba.isAgg2 (by assumption)) rfl ?_ | refine q_pur_g hw1 rfl (p_load rfl Yba.isAgg50 (by assumption)) rfl ?_ | refine q_pur_g hw1 rfl (p_lssT rfl rfl (by omega)) rfl ?_ | refine q_pur_g hw1 rfl (p_lssF rfl rfl (by omega)) rfl ?_ | refine q_pur_g hw1 rfl (p_leqT rfl rfl (by omega)) rfl ?_ | refine q_pur_g hw1 rfl (p_leqF rfl rfl (by omega)) rfl ?_ | refine q_pur_g hw1 rfl (p_gtrT rfl rfl (by omega)) rfl ?_ | refine q_pur_g hw1 rfl (p_gtrF rfl rfl (by omega)) rfl ?_ | refine q_pur_g hw1 rfl (p_geqT rfl rfl (by omega)) rfl ?_ | refine q_pur_g hw1 rfl (p_geqF rfl rfl (by omega)) rfl ?_ | refine q_pur_g hw1 rfl (p_eqlT rfl rfl (by omega)) rfl ?_ | refine q_pur_g hw1 rfl (p_eqlF rfl rfl (by omega)) rfl ?_ | refine q_pur_g hw1 rfl (p_neqT rfl rfl (by omega)) rfl ?_ | refine q_pur_g hw1 rfl (p_neqF rfl rfl (by omega)) rfl ?_)
        exact ret1 Yba.results59 rfl ⟨rfl, rfl⟩
      · have e : lt (a, s, to1) (b, u, to2) = false := by simp [lt, h2, h3]
        rw [e]
        repeat (first | refine q_nil hw1 ?_ | refine c_seq ?_ | refine c_region ?_ | refine c_block ?_ | refine c_skip ?_ | refine c_exit ?_ | refine c_ret ?_ | refine n_then ?_ | refine n_block ?_ | refine x_then ?_ | refine x_block_eq ?_ | refine x_block_ne rfl ?_ | refine r_then ?_ | refine r_block ?_ | refine s_nil ?_ | refine c_true rfl ?_ | refine c_false rfl ?_ | refine q_pur hw1 (p_move rfl) rfl ?_ | refine q_pur hw1 (p_assign rfl) rfl ?_ | refine q_pur hw1 (p_nil rfl) rfl ?_ | refine q_pur hw1 (p_pick_t rfl rfl) rfl ?_ | refine q_pur hw1 (p_pick_f rfl rfl) rfl ?_ | refine q_pur hw1 (p_fld (off := 0) rfl Yba.underlying80 rfl Yba.sizeOf2 rfl) rfl ?_ | refine q_pur hw1 (p_fld (off := 1) rfl Yba.underlying80 rfl Yba.sizeOf50 rfl) rfl ?_ | refine q_pur hw1 (p_load rfl Yba.isAgg2 (by assumption)) rfl ?_ | refine q_pur hw1 (p_load rfl Yba.isAgg50 (by assumption)) rfl ?_ | refine q_pur hw1 (p_lssT rfl rfl (by omega)) rfl ?_ | refine q_pur hw1 (p_lssF rfl rfl (by omega)) rfl ?_ | refine q_pur hw1 (p_leqT rfl rfl (by omega)) rfl ?_ | refine q_pur hw1 (p_leqF rfl rfl (by omega)) rfl ?_ | refine q_pur hw1 (p_gtrT rfl rfl (by omega)) rfl ?_ | refine q_pur hw1 (p_gtrF rfl rfl (by omega)) rfl ?_ | refine q_pur hw1 (p_geqT rfl rfl (by omega)) rfl ?_ | refine q_pur hw1 (p_geqF rfl rfl (by omega)) rfl ?_ | refine q_pur hw1 (p_eqlT rfl rfl (by omega)) rfl ?_ | refine q_pur hw1 (p_eqlF rfl rfl (by omega)) rfl ?_ | refine q_pur hw1 (p_neqT rfl rfl (by omega)) rfl ?_ | refine q_pur hw1 (p_neqF rfl rfl (by omega)) rfl ?_ | refine q_skip rfl rfl rfl ?_ | refine q_skip' rfl rfl rfl ?_ | refine q_pur_g hw1 rfl (p_move rfl) rfl ?_ | refine q_pur_g hw1 rfl (p_assign rfl) rfl ?_ | refine q_pur_g hw1 rfl (p_nil rfl) rfl ?_ | refine q_pur_g hw1 rfl (p_pick_t rfl rfl) rfl ?_ | refine q_pur_g hw1 rfl (p_pick_f rfl rfl) rfl ?_ | refine q_pur_g hw1 rfl (p_fld (off := 0) rfl Yba.underlying80 rfl Yba.sizeOf2 rfl) rfl ?_ | refine q_pur_g hw1 rfl (p_fld (off := 1) rfl Yba.underlying80 rfl Yba.sizeOf50 rfl) rfl ?_ | refine q_pur_g hw1 rfl (p_load rfl Yba.isAgg2 (by assumption)) rfl ?_ | refine q_pur_g hw1 rfl (p_load rfl Yba.isAgg50 (by assumption)) rfl ?_ | refine q_pur_g hw1 rfl (p_lssT rfl rfl (by omega)) rfl ?_ | refine q_pur_g hw1 rfl (p_lssF rfl rfl (by omega)) rfl ?_ | refine q_pur_g hw1 rfl (p_leqT rfl rfl (by omega)) rfl ?_ | refine q_pur_g hw1 rfl (p_leqF rfl rfl (by omega)) rfl ?_ | refine q_pur_g hw1 rfl (p_gtrT rfl rfl (by omega)) rfl ?_ | refine q_pur_g hw1 rfl (p_gtrF rfl rfl (by omega)) rfl ?_ | refine q_pur_g hw1 rfl (p_geqT rfl rfl (by omega)) rfl ?_ | refine q_pur_g hw1 rfl (p_geqF rfl rfl (by omega)) rfl ?_ | refine q_pur_g hw1 rfl (p_eqlT rfl rfl (by omega)) rfl ?_ | refine q_pur_g hw1 rfl (p_eqlF rfl rfl (by omega)) rfl ?_ | refine q_pur_g hw1 rfl (p_neqT rfl rfl (by omega)) rfl ?_ | refine q_pur_g hw1 rfl (p_neqF rfl rfl (by omega)) rfl ?_)
        exact ret1 Yba.results59 rfl ⟨rfl, rfl⟩
    · have e : lt (a, s, to1) (b, u, to2) = false := by simp [lt, h1, h2]
      rw [e]
      repeat (first | refine q_nil hw1 ?_ | refine c_seq ?_ | refine c_region ?_ | refine c_block ?_ | refine c_skip ?_ | refine c_exit ?_ | refine c_ret ?_ | refine n_then ?_ | refine n_block ?_ | refine x_then ?_ | refine x_block_eq ?_ | refine x_block_ne rfl ?_ | refine r_then ?_ | refine r_block ?_ | refine s_nil ?_ | refine c_true rfl ?_ | refine c_false rfl ?_ | refine q_pur hw1 (p_move rfl) rfl ?_ | refine q_pur hw1 (p_assign rfl) rfl ?_ | refine q_pur hw1 (p_nil rfl) rfl ?_ | refine q_pur hw1 (p_pick_t rfl rfl) rfl ?_ | refine q_pur hw1 (p_pick_f rfl rfl) rfl ?_ | refine q_pur hw1 (p_fld (off := 0) rfl Yba.underlying80 rfl Yba.sizeOf2 rfl) rfl ?_ | refine q_pur hw1 (p_fld (off := 1) rfl Yba.underlying80 rfl Yba.sizeOf50 rfl) rfl ?_ | refine q_pur hw1 (p_load rfl Yba.isAgg2 (by assumption)) rfl ?_ | refine q_pur hw1 (p_load rfl Yba.isAgg50 (by assumption)) rfl ?_ | refine q_pur hw1 (p_lssT rfl rfl (by omega)) rfl ?_ | refine q_pur hw1 (p_lssF rfl rfl (by omega)) rfl ?_ | refine q_pur hw1 (p_leqT rfl rfl (by omega)) rfl ?_ | refine q_pur hw1 (p_leqF rfl rfl (by omega)) rfl ?_ | refine q_pur hw1 (p_gtrT rfl rfl (by omega)) rfl ?_ | refine q_pur hw1 (p_gtrF rfl rfl (by omega)) rfl ?_ | refine q_pur hw1 (p_geqT rfl rfl (by omega)) rfl ?_ | refine q_pur hw1 (p_geqF rfl rfl (by omega)) rfl ?_ | refine q_pur hw1 (p_eqlT rfl rfl (by omega)) rfl ?_ | refine q_pur hw1 (p_eqlF rfl rfl (by omega)) rfl ?_ | refine q_pur hw1 (p_neqT rfl rfl (by omega)) rfl ?_ | refine q_pur hw1 (p_neqF rfl rfl (by omega)) rfl ?_ | refine q_skip rfl rfl rfl ?_ | refine q_skip' rfl rfl rfl ?_ | refine q_pur_g hw1 rfl (p_move rfl) rfl ?_ | refine q_pur_g hw1 rfl (p_assign rfl) rfl ?_ | refine q_pur_g hw1 rfl (p_nil rfl) rfl ?_ | refine q_pur_g hw1 rfl (p_pick_t rfl rfl) rfl ?_ | refine q_pur_g hw1 rfl (p_pick_f rfl rfl) rfl ?_ | refine q_pur_g hw1 rfl (p_fld (off := 0) rfl Yba.underlying80 rfl Yba.sizeOf2 rfl) rfl ?_ | refine q_pur_g hw1 rfl (p_fld (off := 1) rfl Yba.underlying80 rfl Yba.sizeOf50 rfl) rfl ?_ | refine q_pur_g hw1 rfl (p_load rfl Yba.isAgg2 (by assumption)) rfl ?_ | refine q_pur_g hw1 rfl (p_load rfl Yba.isAgg50 (by assumption)) rfl ?_ | refine q_pur_g hw1 rfl (p_lssT rfl rfl (by omega)) rfl ?_ | refine q_pur_g hw1 rfl (p_lssF rfl rfl (by omega)) rfl ?_ | refine q_pur_g hw1 rfl (p_leqT rfl rfl (by omega)) rfl ?_ | refine q_pur_g hw1 rfl (p_leqF rfl rfl (by omega)) rfl ?_ | refine q_pur_g hw1 rfl (p_gtrT rfl rfl (by omega)) rfl ?_ | refine q_pur_g hw1 rfl (p_gtrF rfl rfl (by omega)) rfl ?_ | refine q_pur_g hw1 rfl (p_geqT rfl rfl (by omega)) rfl ?_ | refine q_pur_g hw1 rfl (p_geqF rfl rfl (by omega)) rfl ?_ | refine q_pur_g hw1 rfl (p_eqlT rfl rfl (by omega)) rfl ?_ | refine q_pur_g hw1 rfl (p_eqlF rfl rfl (by omega)) rfl ?_ | refine q_pur_g hw1 rfl (p_neqT rfl rfl (by omega)) rfl ?_ | refine q_pur_g hw1 rfl (p_neqF rfl rfl (by omega)) rfl ?_)
      exact ret1 Yba.results59 rfl ⟨rfl, rfl⟩

set_option maxHeartbeats 4000000 in
theorem zbefore_ok (h : Heap) (x y : Dlv) :
    CallsH Yba.prog 17 #[.agg (dl x).toArray, .agg (dl y).toArray] h (fun u h' => u = .bool (lt x y) ∧ Kp h h') := by
  refine calls_of (N := 20) [(0, .agg (dl x).toArray), (1, .agg (dl y).toArray)] Yba.func17 rfl rfl (by simp) (by repeat (first | exact ArgsAre.nil | refine ArgsAre.cons rfl ?_)) ?_
  intro w0 _
  refine c_mid [(2, .pointer (some ⟨h.size, 0, none⟩)), (3, .pointer (some ⟨h.size + 1, 0, none⟩))] (fun q => Kp h q ∧ q[h.size]? = some (.cells (dl x).toArray 80 (0, 0)) ∧ q[h.size + 1]? = some (.cells (dl y).toArray 80 (0, 0))) ?_ ?_
  · repeat (first | refine c_seq ?_ | refine c_region ?_ | refine c_block ?_ | refine c_skip ?_ | refine c_exit ?_ | refine c_ret ?_ | refine n_then ?_ | refine n_block ?_ | refine x_then ?_ | refine x_block_eq ?_ | refine x_block_ne rfl ?_ | refine r_then ?_ | refine r_block ?_ | refine s_nil ?_ | refine c_true rfl ?_ | refine c_false rfl ?_ | refine s_pur (p_move rfl) rfl ?_ | refine s_pur (p_assign rfl) rfl ?_ | refine s_pur (p_nil rfl) rfl ?_ | refine s_pur (p_pick_t rfl rfl) rfl ?_ | refine s_pur (p_pick_f rfl rfl) rfl ?_)
    refine s_eff (e_box rfl) rfl ?_
    rintro _ q ⟨rfl, nq⟩
    refine s_eff (e_box rfl) rfl ?_
    rintro _ q2 ⟨rfl, nq2⟩
    have e1 : Array.size q = h.size + 1 := nq.size
    have a2 := nq2.at_
    rw [e1] at a2
    rw [e1]
    repeat (first | refine c_seq ?_ | refine c_region ?_ | refine c_block ?_ | refine c_skip ?_ | refine c_exit ?_ | refine c_ret ?_ | refine n_then ?_ | refine n_block ?_ | refine x_then ?_ | refine x_block_eq ?_ | refine x_block_ne rfl ?_ | refine r_then ?_ | refine r_block ?_ | refine s_nil ?_ | refine c_true rfl ?_ | refine c_false rfl ?_ | refine s_pur (p_move rfl) rfl ?_ | refine s_pur (p_assign rfl) rfl ?_ | refine s_pur (p_nil rfl) rfl ?_ | refine s_pur (p_pick_t rfl rfl) rfl ?_ | refine s_pur (p_pick_f rfl rfl) rfl ?_)
    exact m_done ⟨(Kp.of nq).trans (Kp.of nq2), by rw [nq2.other _ (by omega)]; exact nq.at_, a2⟩ (by repeat (first | exact Sub.nil | refine Sub.cons rfl ?_))
  rintro q ⟨kq, hx, hy⟩
  obtain ⟨a, s, to1⟩ := x
  obtain ⟨b, u, to2⟩ := y
  have x0 : hc q h.size (0 + 0) = some (.int .i64 a) := by rw [hc_of hx]; rfl
  have x1 : hc q h.size (0 + 1) = some (.int .u64 s) := by rw [hc_of hx]; rfl
  have y0 : hc q (h.size + 1) (0 + 0) = some (.int .i64 b) := by rw [hc_of hy]; rfl
  have y1 : hc q (h.size + 1) (0 + 1) = some (.int .u64 u) := by rw [hc_of hy]; rfl
  by_cases h2 : a = b
  · have e : lt (a, s, to1) (b, u, to2) = decide (s < u) := by simp [lt, h2]
    rw [e]
    repeat (first | refine c_seq ?_ | refine c_region ?_ | refine c_block ?_ | refine c_skip ?_ | refine c_exit ?_ | refine c_ret ?_ | refine n_then ?_ | refine n_block ?_ | refine x_then ?_ | refine x_block_eq ?_ | refine x_block_ne rfl ?_ | refine r_then ?_ | refine r_block ?_ | refine s_nil ?_ | refine c_true rfl ?_ | refine c_false rfl ?_ | refine s_pur (p_move rfl) rfl ?_ | refine s_pur (p_assign rfl) rfl ?_ | refine s_pur (p_nil rfl) rfl ?_ | refine s_pur (p_pick_t rfl rfl) rfl ?_ | refine s_pur (p_pick_f rfl rfl) rfl ?_ | refine s_pur (p_fld (off := 0) rfl Yba.underlying80 rfl Yba.sizeOf2 rfl) rfl ?_ | refine s_pur (p_fld (off := 1) rfl Yba.underlying80 rfl Yba.sizeOf50 rfl) rfl ?_ | refine s_pur (p_load rfl Yba.isAgg2 (by assumption)) rfl ?_ | refine s_pur (p_load rfl Yba.isAgg50 (by assumption)) rfl ?_ | refine s_pur (p_lss rfl rfl) rfl ?_ | refine s_pur (p_lssT rfl rfl (by omega)) rfl ?_ | refine s_pur (p_lssF rfl rfl (by omega)) rfl ?_ | refine s_pur (p_leqT rfl rfl (by omega)) rfl ?_ | refine s_pur (p_leqF rfl rfl (by omega)) rfl ?_ | refine s_pur (p_gtrT rfl rfl (by omega)) rfl ?_ | refine s_pur (p_gtrF rfl rfl (by omega)) rfl ?_ | refine s_pur (p_geqT rfl rfl (by omega)) rfl ?_ | refine s_pur (p_geqF rfl rfl (by omega)) rfl ?_ | refine s_pur (p_eqlT rfl rfl (by omega)) rfl ?_ | refine s_pur (p_eqlF rfl rfl (by omega)) rfl ?_ | refine s_pur (p_neqT rfl rfl (by omega)) rfl ?_ | refine s_pur (p_neqF rfl rfl (by omega)) rfl ?_)
    exact ret1 Yba.results17 rfl ⟨rfl, kq⟩
  · have e : lt (a, s, to1) (b, u, to2) = decide (a < b) := by simp [lt, h2]
    rw [e]
    repeat (first | refine c_seq ?_ | refine c_region ?_ | refine c_block ?_ | refine c_skip ?_ | refine c_exit ?_ | refine c_ret ?_ | refine n_then ?_ | refine n_block ?_ | refine x_then ?_ | refine x_block_eq ?_ | refine x_block_ne rfl ?_ | refine r_then ?_ | refine r_block ?_ | refine s_nil ?_ | refine c_true rfl ?_ | refine c_false rfl ?_ | refine s_pur (p_move rfl) rfl ?_ | refine s_pur (p_assign rfl) rfl ?_ | refine s_pur (p_nil rfl) rfl ?_ | refine s_pur (p_pick_t rfl rfl) rfl ?_ | refine s_pur (p_pick_f rfl rfl) rfl ?_ | refine s_pur (p_fld (off := 0) rfl Yba.underlying80 rfl Yba.sizeOf2 rfl) rfl ?_ | refine s_pur (p_fld (off := 1) rfl Yba.underlying80 rfl Yba.sizeOf50 rfl) rfl ?_ | refine s_pur (p_load rfl Yba.isAgg2 (by assumption)) rfl ?_ | refine s_pur (p_load rfl Yba.isAgg50 (by assumption)) rfl ?_ | refine s_pur (p_neqT rfl rfl h2) rfl ?_ | refine s_pur (p_lss rfl rfl) rfl ?_)
    exact ret1 Yba.results17 rfl ⟨rfl, kq⟩
end Go.Proofs.Ybulkdiqq
