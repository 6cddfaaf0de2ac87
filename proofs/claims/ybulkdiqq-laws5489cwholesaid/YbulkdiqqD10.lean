/-
  D10: LawS5489CWhole: the end: the wakes against what is expected.
-/
import Derived.Test.YbulkdiqqD10p
namespace Go.Proofs.Ybulkdiqq
set_option linter.unusedSimpArgs false
set_option linter.unusedVariables false
set_option linter.unnecessarySimpa false
open Go Go.RowKit V
set_option maxRecDepth 100000

set_option maxHeartbeats 8000000 in
theorem lawT4 {q : Heap} {rb g N m ge me : Nat} {F F' : Nat → Dlv} {w0 : World} {R : Value → Heap → Prop} (c5 : hc q rb 5 = some (.slice (some ⟨g, 0, none⟩) N m)) (dg : DRow q g N m F) (de : DRow q ge N me F') (hF : ∀ i, i < N → F i = F' i) (hN : N ≤ 1048576) (hR : R (.bool true) q) :
    V.Fin 531 w0 (CW Yba.prog (V.sub (Yba.f4.body.getD .skip) [1, 1, 1, 1, 1, 1, 1, 1, 1, 1, 1, 1, 1, 1, 1, 1, 1, 1, 1, 1, 1, 1, 1, 1, 1, 1, 1, 1, 1, 1, 1, 1, 1, 1, 1, 1, 1, 1, 1, 1, 1, 1, 1]) (bodyPost Yba.prog Yba.f4 (PostR w0 R))) [(46, .pointer (some ⟨rb, 0, none⟩)), (57, .slice (some ⟨ge, 0, none⟩) N me)] q := by
  have a5 : hc q rb (0 + 5) = some (.slice (some ⟨g, 0, none⟩) N m) := c5
  refine c_mid [(46, .pointer (some ⟨rb, 0, none⟩)), (57, .slice (some ⟨ge, 0, none⟩) N me)] (fun x => q = x) ?_ ?_
  · repeat (first | refine c_seq ?_ | refine c_region ?_ | refine c_block ?_ | refine c_skip ?_ | refine c_exit ?_ | refine c_ret ?_ | refine n_then ?_ | refine n_block ?_ | refine x_then ?_ | refine x_block_eq ?_ | refine x_block_ne rfl ?_ | refine r_then ?_ | refine r_block ?_ | refine s_nil ?_ | refine c_true rfl ?_ | refine c_false rfl ?_ | refine s_pur (p_move rfl) rfl ?_ | refine s_pur (p_assign rfl) rfl ?_ | refine s_pur (p_nil rfl) rfl ?_ | refine s_pur (p_pick_t rfl rfl) rfl ?_ | refine s_pur (p_pick_f rfl rfl) rfl ?_ | refine s_pur (p_fld (off := 5) rfl Yba.underlying104 rfl Yba.sizeOf68 rfl) rfl ?_ | refine s_pur (p_load rfl Yba.isAgg68 (by assumption)) rfl ?_ | refine s_pur (p_len rfl Yba.underlying68) rfl ?_ | refine s_pur (p_idx rfl rfl rfl (by omega) Yba.underlying68 Yba.sizeOf80) rfl ?_ | refine s_pur (p_lssT rfl rfl (by omega)) rfl ?_ | refine s_pur (p_lssF rfl rfl (by omega)) rfl ?_ | refine s_pur (p_leqT rfl rfl (by omega)) rfl ?_ | refine s_pur (p_leqF rfl rfl (by omega)) rfl ?_ | refine s_pur (p_gtrT rfl rfl (by omega)) rfl ?_ | refine s_pur (p_gtrF rfl rfl (by omega)) rfl ?_ | refine s_pur (p_geqT rfl rfl (by omega)) rfl ?_ | refine s_pur (p_geqF rfl rfl (by omega)) rfl ?_ | refine s_pur (p_eqlT rfl rfl (by omega)) rfl ?_ | refine s_pur (p_eqlF rfl rfl (by omega)) rfl ?_ | refine s_pur (p_neqT rfl rfl (by omega)) rfl ?_ | refine s_pur (p_neqF rfl rfl (by omega)) rfl ?_)
    exact m_done rfl (by repeat (first | exact Sub.nil | refine Sub.cons rfl ?_))
  rintro _ rfl
  refine c_mid [] (fun x => q = x) ?_ ?_
  · repeat (first | refine c_seq ?_ | refine c_region ?_ | refine c_block ?_ | refine c_skip ?_ | refine c_exit ?_ | refine c_ret ?_ | refine n_then ?_ | refine n_block ?_ | refine x_then ?_ | refine x_block_eq ?_ | refine x_block_ne rfl ?_ | refine r_then ?_ | refine r_block ?_ | refine s_nil ?_ | refine c_true rfl ?_ | refine c_false rfl ?_ | refine s_pur (p_move rfl) rfl ?_ | refine s_pur (p_assign rfl) rfl ?_ | refine s_pur (p_nil rfl) rfl ?_ | refine s_pur (p_pick_t rfl rfl) rfl ?_ | refine s_pur (p_pick_f rfl rfl) rfl ?_ | refine s_pur (p_len rfl Yba.underlying68) rfl ?_ | refine s_pur (p_idx rfl rfl rfl (by omega) Yba.underlying68 Yba.sizeOf80) rfl ?_)
    refine c_loop (fun k : Nat => [(46, .pointer (some ⟨rb, 0, none⟩)), (57, .slice (some ⟨ge, 0, none⟩) N me), (514, .int .i64 (N : Int)), (515, .int .i64 (k : Int))]) (fun k x => k ≤ N ∧ q = x) (fun k => N - k) 0 ⟨Nat.zero_le _, rfl⟩ (by repeat (first | exact Sub.nil | refine Sub.cons rfl ?_)) ?_
    rintro k _ ⟨hk, rfl⟩
    by_cases hlt : k < N
    · have l1 := dg.cell hlt
      have l2 := de.cell hlt
      rw [← hF k hlt] at l2
      refine c_seq ?_
      repeat (first | refine c_region ?_ | refine c_block ?_ | refine c_skip ?_ | refine c_exit ?_ | refine c_ret ?_ | refine n_then ?_ | refine n_block ?_ | refine x_then ?_ | refine x_block_eq ?_ | refine x_block_ne rfl ?_ | refine r_then ?_ | refine r_block ?_ | refine s_nil ?_ | refine c_true rfl ?_ | refine c_false rfl ?_ | refine s_pur (p_move rfl) rfl ?_ | refine s_pur (p_assign rfl) rfl ?_ | refine s_pur (p_nil rfl) rfl ?_ | refine s_pur (p_pick_t rfl rfl) rfl ?_ | refine s_pur (p_pick_f rfl rfl) rfl ?_ | refine s_pur (p_lssT rfl rfl (by omega)) rfl ?_ | refine s_pur (p_lssF rfl rfl (by omega)) rfl ?_ | refine s_pur (p_leqT rfl rfl (by omega)) rfl ?_ | refine s_pur (p_leqF rfl rfl (by omega)) rfl ?_ | refine s_pur (p_gtrT rfl rfl (by omega)) rfl ?_ | refine s_pur (p_gtrF rfl rfl (by omega)) rfl ?_ | refine s_pur (p_geqT rfl rfl (by omega)) rfl ?_ | refine s_pur (p_geqF rfl rfl (by omega)) rfl ?_ | refine s_pur (p_eqlT rfl rfl (by omega)) rfl ?_ | refine s_pur (p_eqlF rfl rfl (by omega)) rfl ?_ | refine s_pur (p_neqT rfl rfl (by omega)) rfl ?_ | refine s_pur (p_neqF rfl rfl (by omega)) rfl ?_)
      refine c_seq ?_
      repeat (first | refine c_region ?_ | refine c_block ?_ | refine c_skip ?_ | refine c_exit ?_ | refine c_ret ?_ | refine n_then ?_ | refine n_block ?_ | refine x_then ?_ | refine x_block_eq ?_ | refine x_block_ne rfl ?_ | refine r_then ?_ | refine r_block ?_ | refine s_nil ?_ | refine c_true rfl ?_ | refine c_false rfl ?_ | refine s_pur (p_move rfl) rfl ?_ | refine s_pur (p_assign rfl) rfl ?_ | refine s_pur (p_nil rfl) rfl ?_ | refine s_pur (p_pick_t rfl rfl) rfl ?_ | refine s_pur (p_pick_f rfl rfl) rfl ?_ | refine s_pur (p_lssT rfl rfl (by omega)) rfl ?_ | refine s_pur (p_lssF rfl rfl (by omega)) rfl ?_ | refine s_pur (p_leqT rfl rfl (by omega)) rfl ?_ | refine s_pur (p_leqF rfl rfl (by omega)) rfl ?_ | refine s_pur (p_gtrT rfl rfl (by omega)) rfl ?_ | refine s_pur (p_gtrF rfl rfl (by omega)) rfl ?_ | refine s_pur (p_geqT rfl rfl (by omega)) rfl ?_ | refine s_pur (p_geqF rfl rfl (by omega)) rfl ?_ | refine s_pur (p_eqlT rfl rfl (by omega)) rfl ?_ | refine s_pur (p_eqlF rfl rfl (by omega)) rfl ?_ | refine s_pur (p_neqT rfl rfl (by omega)) rfl ?_ | refine s_pur (p_neqF rfl rfl (by omega)) rfl ?_)
      refine c_seq ?_
      refine c_block ?_
      refine c_seq ?_
      repeat (first | refine c_region ?_ | refine c_block ?_ | refine c_skip ?_ | refine c_exit ?_ | refine c_ret ?_ | refine n_then ?_ | refine n_block ?_ | refine x_then ?_ | refine x_block_eq ?_ | refine x_block_ne rfl ?_ | refine r_then ?_ | refine r_block ?_ | refine s_nil ?_ | refine c_true rfl ?_ | refine c_false rfl ?_ | refine s_pur (p_move rfl) rfl ?_ | refine s_pur (p_assign rfl) rfl ?_ | refine s_pur (p_nil rfl) rfl ?_ | refine s_pur (p_pick_t rfl rfl) rfl ?_ | refine s_pur (p_pick_f rfl rfl) rfl ?_)
      refine c_seq ?_
      refine c_quiet followsM (by kernel_rfl) ?_
      intro w1 hw1
      repeat (first | refine q_nil hw1 ?_ | refine c_seq ?_ | refine c_region ?_ | refine c_block ?_ | refine c_skip ?_ | refine c_exit ?_ | refine c_ret ?_ | refine n_then ?_ | refine n_block ?_ | refine x_then ?_ | refine x_block_eq ?_ | refine x_block_ne rfl ?_ | refine r_then ?_ | refine r_block ?_ | refine s_nil ?_ | refine c_true rfl ?_ | refine c_false rfl ?_ | refine q_pur hw1 (p_move rfl) rfl ?_ | refine q_pur hw1 (p_assign rfl) rfl ?_ | refine q_pur hw1 (p_nil rfl) rfl ?_ | refine q_pur hw1 (p_pick_t rfl rfl) rfl ?_ | refine q_pur hw1 (p_pick_f rfl rfl) rfl ?_ | refine q_pur hw1 (p_fld (off := 5) rfl Yba.underlying104 rfl Yba.sizeOf68 rfl) rfl ?_ | refine q_pur hw1 (p_load rfl Yba.isAgg68 (by assumption)) rfl ?_ | refine q_pur hw1 (p_len rfl Yba.underlying68) rfl ?_ | refine q_pur hw1 (p_idx rfl rfl rfl (by omega) Yba.underlying68 Yba.sizeOf80) rfl ?_ | refine q_pur hw1 (p_loadA (vs := dl (F k)) rfl Yba.isAgg80 Yba.sizeOf80 rfl l1) rfl ?_ | refine q_pur hw1 (p_loadA (vs := dl (F k)) rfl Yba.isAgg80 Yba.sizeOf80 rfl l2) rfl ?_ | refine q_pur hw1 (p_neq80 rfl rfl) rfl ?_ | refine q_skip rfl rfl rfl ?_ | refine q_skip' rfl rfl rfl ?_ | refine q_pur_g hw1 rfl (p_move rfl) rfl ?_ | refine q_pur_g hw1 rfl (p_assign rfl) rfl ?_ | refine q_pur_g hw1 rfl (p_nil rfl) rfl ?_ | refine q_pur_g hw1 rfl (p_pick_t rfl rfl) rfl ?_ | refine q_pur_g hw1 rfl (p_pick_f rfl rfl) rfl ?_ | refine q_pur_g hw1 rfl (p_fld (off := 5) rfl Yba.underlying104 rfl Yba.sizeOf68 rfl) rfl ?_ | refine q_pur_g hw1 rfl (p_load rfl Yba.isAgg68 (by assumption)) rfl ?_ | refine q_pur_g hw1 rfl (p_len rfl Yba.underlying68) rfl ?_ | refine q_pur_g hw1 rfl (p_idx rfl rfl rfl (by omega) Yba.underlying68 Yba.sizeOf80) rfl ?_ | refine q_pur_g hw1 rfl (p_loadA (vs := dl (F k)) rfl Yba.isAgg80 Yba.sizeOf80 rfl l1) rfl ?_ | refine q_pur_g hw1 rfl (p_loadA (vs := dl (F k)) rfl Yba.isAgg80 Yba.sizeOf80 rfl l2) rfl ?_ | refine q_pur_g hw1 rfl (p_neq80 rfl rfl) rfl ?_)
      repeat (first | refine c_seq ?_ | refine c_region ?_ | refine c_block ?_ | refine c_skip ?_ | refine c_exit ?_ | refine c_ret ?_ | refine n_then ?_ | refine n_block ?_ | refine x_then ?_ | refine x_block_eq ?_ | refine x_block_ne rfl ?_ | refine r_then ?_ | refine r_block ?_ | refine s_nil ?_ | refine c_true rfl ?_ | refine c_false rfl ?_ | refine s_pur (p_move rfl) rfl ?_ | refine s_pur (p_assign rfl) rfl ?_ | refine s_pur (p_nil rfl) rfl ?_ | refine s_pur (p_pick_t rfl rfl) rfl ?_ | refine s_pur (p_pick_f rfl rfl) rfl ?_ | refine s_pur (p_add rfl rfl rfl (by omega) (by omega)) rfl ?_)
      exact c_next (k + 1) ⟨hlt, rfl⟩ (by repeat (first | exact Sub.nil | refine Sub.cons rfl ?_)) (by omega)
    · repeat (first | refine c_seq ?_ | refine c_region ?_ | refine c_block ?_ | refine c_skip ?_ | refine c_exit ?_ | refine c_ret ?_ | refine n_then ?_ | refine n_block ?_ | refine x_then ?_ | refine x_block_eq ?_ | refine x_block_ne rfl ?_ | refine r_then ?_ | refine r_block ?_ | refine s_nil ?_ | refine c_true rfl ?_ | refine c_false rfl ?_ | refine s_pur (p_move rfl) rfl ?_ | refine s_pur (p_assign rfl) rfl ?_ | refine s_pur (p_nil rfl) rfl ?_ | refine s_pur (p_pick_t rfl rfl) rfl ?_ | refine s_pur (p_pick_f rfl rfl) rfl ?_ | refine s_pur (p_lssT rfl rfl (by omega)) rfl ?_ | refine s_pur (p_lssF rfl rfl (by omega)) rfl ?_ | refine s_pur (p_leqT rfl rfl (by omega)) rfl ?_ | refine s_pur (p_leqF rfl rfl (by omega)) rfl ?_ | refine s_pur (p_gtrT rfl rfl (by omega)) rfl ?_ | refine s_pur (p_gtrF rfl rfl (by omega)) rfl ?_ | refine s_pur (p_geqT rfl rfl (by omega)) rfl ?_ | refine s_pur (p_geqF rfl rfl (by omega)) rfl ?_ | refine s_pur (p_eqlT rfl rfl (by omega)) rfl ?_ | refine s_pur (p_eqlF rfl rfl (by omega)) rfl ?_ | refine s_pur (p_neqT rfl rfl (by omega)) rfl ?_ | refine s_pur (p_neqF rfl rfl (by omega)) rfl ?_)
      exact m_done rfl (by repeat (first | exact Sub.nil | refine Sub.cons rfl ?_))
  rintro _ rfl
  repeat (first | refine c_seq ?_ | refine c_region ?_ | refine c_block ?_ | refine c_skip ?_ | refine c_exit ?_ | refine c_ret ?_ | refine n_then ?_ | refine n_block ?_ | refine x_then ?_ | refine x_block_eq ?_ | refine x_block_ne rfl ?_ | refine r_then ?_ | refine r_block ?_ | refine s_nil ?_ | refine c_true rfl ?_ | refine c_false rfl ?_ | refine s_pur (p_move rfl) rfl ?_ | refine s_pur (p_assign rfl) rfl ?_ | refine s_pur (p_nil rfl) rfl ?_ | refine s_pur (p_pick_t rfl rfl) rfl ?_ | refine s_pur (p_pick_f rfl rfl) rfl ?_)
  exact ret1 Yba.results4 rfl hR

/-- copy of n elements of many cells to a row's head. -/
theorem V.e_copyG {P : Program} {l : Env} {h : Heap} {ty : TypeId} {x y : Operand} {t e : TypeId} {g n dn dC sC size : Nat} {ad : Addr} {cur : Array Value} {et : TypeId} {cs : List Value} (hx : ev l x = some (.slice (some ⟨g, 0, none⟩) dn dC)) (hy : ev l y = some (.slice (some ad) n sC)) (hu : P.underlying t = some (.slice e))
    (hs : ∀ w, (sizeOf e).run P w = .ok size w) (hg : h[g]? = some (.cells cur et (0, 0))) (hdn : n ≤ dn) (hn : cs.length = n * size) (hsrc : ∀ j v, cs[j]? = some v → (mkW h).cell? (ad.add j) = some v) (hfit : cs.length ≤ cur.size) (h1 : ∀ v ∈ cs, v.oneCell' = true) :
    Eff P (.call { callee := .builtin .copy, args := #[x, y], argTypes := #[t, t] }) ty l h (fun _ h' => Upd h h' g (.cells (cs ++ cur.toList.drop cs.length).toArray et (0, 0))) := by
  refine ⟨fun ρ w d p af g' hρ hw => ?_⟩
  subst hw
  have hl := run_loadCells_list (P := P) w ad cs (fun j v hj => hsrc j v hj)
  have hst := run_storeCells_at (P := P) g 0 et cs 0 cur w hg (by omega) h1
  have he : (cur.toList.take (0 + 0) ++ cs ++ cur.toList.drop (0 + 0 + cs.length)).toArray = (cs ++ cur.toList.drop cs.length).toArray := by simp
  rw [he] at hst
  rw [hn] at hl
  have hmin : Nat.min n dn = n := Nat.min_eq_left hdn
  have hmin' : Nat.min dn n = n := Nat.min_eq_right hdn
  have hr : (Builtin.copy_ #[t, t] ty #[.slice (some ⟨g, 0, none⟩) dn dC, .slice (some ad) n sC]).run P w = .ok (goInt n) (w.setRow g (cs ++ cur.toList.drop cs.length).toArray) := by
    simp [Builtin.copy_, run_underlying hu, Builtin.lenOf, Builtin.firstCells, hs, hmin, hmin', hl, hst]
  refine ⟨goInt n, w.setRow g (cs ++ cur.toList.drop cs.length).toArray, .inl ?_, ⟨?_, ?_, ?_⟩, rfl, rfl, rfl⟩
  · simp [execOp, resolve, invoke, builtin, hρ _ _ hx, hρ _ _ hy, hr]
  · simp [World.setRow]
  · exact setRow_heap w g cur _ et _ hg
  · intro k hk
    simp only [World.setRow, Array.getElem?_modify]
    rw [if_neg (by omega)]

/-- copy(dst, old) at deliveries. -/
theorem copyD {l : Env} {h : Heap} {ty : TypeId} {x y : Operand} {g m m' dC og n : Nat} {f z : Nat → Dlv} (hx : ev l x = some (.slice (some ⟨g, 0, none⟩) m dC)) (hy : ev l y = some (.slice (some ⟨og, 0, none⟩) n n)) (ro : DRow h og n m' f) (rg : DRow h g m m z) (hnm : n ≤ m) :
    Eff Yba.prog (.call { callee := .builtin .copy, args := #[x, y], argTypes := #[68, 68] }) ty l h (fun _ h' => DRow h' g m m (fun i => if i < n then f i else z i) ∧ h'.size = h.size ∧ ∀ k, k ≠ g → h'[k]? = h[k]?) := by
  obtain ⟨c, hg, hs, hcl⟩ := rg
  obtain ⟨c', ho, hs', hcl'⟩ := ro
  have he := e_copyG (P := Yba.prog) (ty := ty) (cs := rowD n f) hx hy Yba.underlying68 Yba.sizeOf80 hg hnm (rowD_len n f) (by
    intro j v hj
    have hlt : j < n * 21 := by
      have := (List.getElem?_eq_some_iff.1 hj).1
      rwa [rowD_len] at this
    rw [add_none, cell_hc]
    show hc h og (0 + j) = _
    rw [hc_of ho, Nat.zero_add]
    have h1 := hcl' (j / 21) (by omega) (j % 21) (by omega)
    have h2 := rowD_get (f := f) (show j / 21 < n by omega) (show j % 21 < 21 by omega)
    rw [show j / 21 * 21 + j % 21 = j by omega] at h1 h2
    rw [h1, ← h2]; exact hj) (by rw [rowD_len]; omega) rowD_one
  refine ⟨fun ρ w dd p af g' hρ hw => ?_⟩
  obtain ⟨v, w', hr, hu, rest⟩ := he.out ρ w dd p af g' hρ hw
  refine ⟨v, w', hr, ⟨⟨_, hu.at_, by simp [rowD_len]; omega, fun i hi t ht => ?_⟩, hu.size, hu.other⟩, rest⟩
  rw [List.getElem?_toArray]
  by_cases hlt : i < n
  · rw [List.getElem?_append_left (by rw [rowD_len]; omega), rowD_get hlt ht]
    simp [hlt]
  · rw [List.getElem?_append_right (by rw [rowD_len]; omega), List.getElem?_drop, rowD_len]
    rw [show n * 21 + (i * 21 + t - n * 21) = i * 21 + t by omega]
    simp only [Array.getElem?_toList]
    rw [hcl i hi t ht]
    simp [hlt]
theorem e_make80 {l : Env} {h : Heap} {ty : TypeId} {x y : Operand} {m : Nat} (hx : ev l x = some (.int .i64 (m : Int))) (hy : ev l y = some (.int .i64 (m : Int))) (hm : m ≤ 1048576) :
    Eff Yba.prog (.makeSlice 68 x y) ty l h (fun u h' => u = .slice (some ⟨h.size, 0, none⟩) m m ∧ Kp h h' ∧ h'.size = h.size + 1 ∧ DRow h' h.size m m (fun _ => (0, 0, 0))) := by
  obtain ⟨i, hi, hz, hs, hby⟩ := info80
  have he := e_make (P := Yba.prog) (h := h) (ty := ty) (n := m) (c := m) hx hy Yba.underlying68 hi hz (Nat.le_refl _) (by rw [hby]; omega) (by omega)
  refine ⟨fun ρ w dd p af g' hρ hw => ?_⟩
  obtain ⟨v, w', hr, ⟨hv, hn⟩, rest⟩ := he.out ρ w dd p af g' hρ hw
  refine ⟨v, w', hr, ⟨hv, Kp.of hn, hn.size, _, hn.at_, by simp [madeCells, hs], fun k hk t ht => ?_⟩, rest⟩
  rw [madeCells_get _ _ _ (by rw [hs]; omega)]
  have e : (Value.agg (dl (0, 0, 0)).toArray).cells.size = 21 := rfl
  rw [e, show (k * 21 + t) % 21 = t by omega, dl_get! _ _ ht]
  simp [Value.cells]
end Go.Proofs.Ybulkdiqq
