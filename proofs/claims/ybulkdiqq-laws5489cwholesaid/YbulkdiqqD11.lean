/-
  D11: LawS5489CWhole: what is expected, from the top on.
-/
import Derived.Test.YbulkdiqqD10
namespace Go.Proofs.Ybulkdiqq
set_option linter.unusedSimpArgs false
set_option linter.unusedVariables false
set_option linter.unnecessarySimpa false
open Go Go.RowKit V
set_option maxRecDepth 100000

set_option maxHeartbeats 8000000 in
theorem lawT3b {x : Heap} {rb og n ge db pg cp m j : Nat} {f G : Nat → Dlv} {d : Dlv} {w0 : World} {Q : Exit → Act → World → Prop} (de : DRow x ge (n + 1) (n + 1) G) (dold : DRow x og n n f) (pr : IRow x pg (m + 1) cp (fun t => chn n (m - t))) (hd : x[db]? = some (.cells (dl d).toArray 80 (0, 0)))
    (hne : ge ≠ og) (hnd : ge ≠ db) (hm : ∀ s, s < m → 0 < chn n s) (hj : j ≤ m) (hn : n ≤ 65536) (hmn : m ≤ n)
    (hK : ∀ y, DRow y ge (n + 1) (n + 1) (upd (stepsD G f n (m - j)) (chn n (m - j)) d) → y.size = x.size → (∀ k, k ≠ ge → y[k]? = x[k]?) → V.Fin 531 w0 (XW Q .normal) [(46, .pointer (some ⟨rb, 0, none⟩)), (57, .slice (some ⟨ge, 0, none⟩) (n + 1) (n + 1))] y) :
    V.Fin 531 w0 (CW Yba.prog (V.sub (Yba.f4.body.getD .skip) [1, 1, 1, 1, 1, 1, 1, 1, 1, 1, 1, 1, 1, 1, 1, 1, 1, 1, 1, 1, 1, 1, 1, 1, 1, 1, 1, 1, 1, 1, 1, 1, 1, 1, 1, 1, 1, 1, 1, 1, 1, 1, 0, 1, 1, 1, 1, 1, 1, 1, 1, 1, 1, 1]) Q) [(41, .slice (some ⟨og, 0, none⟩) n n), (46, .pointer (some ⟨rb, 0, none⟩)), (57, .slice (some ⟨ge, 0, none⟩) (n + 1) (n + 1)), (58, .pointer (some ⟨db, 0, none⟩)), (60, .slice (some ⟨pg, 0, none⟩) (m + 1) cp), (62, .int .i64 (j : Int))] x := by
  have hpe : ge ≠ pg := de.blk.ne pr.blk (by decide)
  refine c_mid [(46, .pointer (some ⟨rb, 0, none⟩)), (57, .slice (some ⟨ge, 0, none⟩) (n + 1) (n + 1)), (58, .pointer (some ⟨db, 0, none⟩)), (60, .slice (some ⟨pg, 0, none⟩) (m + 1) cp), (62, .int .i64 (j : Int))] (fun y => DRow y ge (n + 1) (n + 1) (stepsD G f n (m - j)) ∧ y.size = x.size ∧ ∀ k, k ≠ ge → y[k]? = x[k]?) ?_ ?_
  · repeat (first | refine c_seq ?_ | refine c_region ?_ | refine c_block ?_ | refine c_skip ?_ | refine c_exit ?_ | refine c_ret ?_ | refine n_then ?_ | refine n_block ?_ | refine x_then ?_ | refine x_block_eq ?_ | refine x_block_ne rfl ?_ | refine r_then ?_ | refine r_block ?_ | refine s_nil ?_ | refine c_true rfl ?_ | refine c_false rfl ?_ | refine s_pur (p_move rfl) rfl ?_ | refine s_pur (p_assign rfl) rfl ?_ | refine s_pur (p_nil rfl) rfl ?_ | refine s_pur (p_pick_t rfl rfl) rfl ?_ | refine s_pur (p_pick_f rfl rfl) rfl ?_ | refine s_pur (p_len rfl Yba.underlying23) rfl ?_ | refine s_pur (p_idx1 rfl rfl rfl (by omega) Yba.underlying23 Yba.sizeOf3) rfl ?_ | refine s_pur (p_sub (c := (m : Int)) rfl rfl (by omega) (by omega) (by omega)) rfl ?_)
    refine c_loop (fun s : Nat => [(41, .slice (some ⟨og, 0, none⟩) n n), (46, .pointer (some ⟨rb, 0, none⟩)), (57, .slice (some ⟨ge, 0, none⟩) (n + 1) (n + 1)), (58, .pointer (some ⟨db, 0, none⟩)), (60, .slice (some ⟨pg, 0, none⟩) (m + 1) cp), (62, .int .i64 (j : Int)), (64, .int .i64 ((m - s : Nat) : Int))])
      (fun s y => s ≤ m - j ∧ DRow y ge (n + 1) (n + 1) (stepsD G f n s) ∧ y.size = x.size ∧ ∀ k, k ≠ ge → y[k]? = x[k]?) (fun s => m - s) 0 ⟨Nat.zero_le _, de, rfl, fun _ _ => rfl⟩ (by repeat (first | exact Sub.nil | refine Sub.cons rfl ?_)) ?_
    rintro s y ⟨hs, ry, sy, oy⟩
    by_cases hlt : s < m - j
    · have pry := pr.keep (oy pg hpe.symm)
      have oly := dold.keep (oy og hne.symm)
      have hp := hm s (by omega)
      have hcl := chn_lt hp
      have hcn := chn_le n s
      have l4 := pry.cell (show m - s < m + 1 by omega)
      have l10 := pry.cell (show m - s - 1 < m + 1 by omega)
      rw [show m - (m - s) = s by omega] at l4
      rw [show m - (m - s - 1) = s + 1 by omega] at l10
      have l12 := oly.cell (show chn n (s + 1) < n by omega)
      refine c_mid [(41, .slice (some ⟨og, 0, none⟩) n n), (46, .pointer (some ⟨rb, 0, none⟩)), (57, .slice (some ⟨ge, 0, none⟩) (n + 1) (n + 1)), (58, .pointer (some ⟨db, 0, none⟩)), (60, .slice (some ⟨pg, 0, none⟩) (m + 1) cp), (62, .int .i64 (j : Int)), (64, .int .i64 ((m - s : Nat) : Int))] (fun z => y = z) ?_ ?_
      · repeat (first | refine c_seq ?_ | refine c_region ?_ | refine c_block ?_ | refine c_skip ?_ | refine c_exit ?_ | refine c_ret ?_ | refine n_then ?_ | refine n_block ?_ | refine x_then ?_ | refine x_block_eq ?_ | refine x_block_ne rfl ?_ | refine r_then ?_ | refine r_block ?_ | refine s_nil ?_ | refine c_true rfl ?_ | refine c_false rfl ?_ | refine s_pur (p_move rfl) rfl ?_ | refine s_pur (p_assign rfl) rfl ?_ | refine s_pur (p_nil rfl) rfl ?_ | refine s_pur (p_pick_t rfl rfl) rfl ?_ | refine s_pur (p_pick_f rfl rfl) rfl ?_ | refine s_pur (p_lssT rfl rfl (by omega)) rfl ?_ | refine s_pur (p_lssF rfl rfl (by omega)) rfl ?_ | refine s_pur (p_leqT rfl rfl (by omega)) rfl ?_ | refine s_pur (p_leqF rfl rfl (by omega)) rfl ?_ | refine s_pur (p_gtrT rfl rfl (by omega)) rfl ?_ | refine s_pur (p_gtrF rfl rfl (by omega)) rfl ?_ | refine s_pur (p_geqT rfl rfl (by omega)) rfl ?_ | refine s_pur (p_geqF rfl rfl (by omega)) rfl ?_ | refine s_pur (p_eqlT rfl rfl (by omega)) rfl ?_ | refine s_pur (p_eqlF rfl rfl (by omega)) rfl ?_ | refine s_pur (p_neqT rfl rfl (by omega)) rfl ?_ | refine s_pur (p_neqF rfl rfl (by omega)) rfl ?_)
        exact m_done rfl (by repeat (first | exact Sub.nil | refine Sub.cons rfl ?_))
      rintro _ rfl
      refine c_mid [(41, .slice (some ⟨og, 0, none⟩) n n), (46, .pointer (some ⟨rb, 0, none⟩)), (57, .slice (some ⟨ge, 0, none⟩) (n + 1) (n + 1)), (58, .pointer (some ⟨db, 0, none⟩)), (60, .slice (some ⟨pg, 0, none⟩) (m + 1) cp), (62, .int .i64 (j : Int)), (64, .int .i64 ((m - s : Nat) : Int))] (fun z => DRow z ge (n + 1) (n + 1) (stepsD G f n (s + 1)) ∧ z.size = x.size ∧ ∀ k, k ≠ ge → z[k]? = x[k]?) ?_ ?_
      · refine c_block ?_
        refine c_held followsM rfl ?_
        refine h_any 0 rfl (by kernel_rfl) rfl (fun _ => p_move rfl) rfl ?_
        refine h_any 1 rfl (by kernel_rfl) rfl (fun _ => p_move rfl) rfl ?_
        refine h_any 2 rfl (by kernel_rfl) rfl (fun _ => p_move rfl) rfl ?_
        refine h_any 3 rfl (by kernel_rfl) rfl (fun _ => p_idx1 (j := m - s) rfl rfl rfl (by omega) Yba.underlying23 Yba.sizeOf3) rfl ?_
        refine h_any 5 rfl (by kernel_rfl) rfl (fun _ => p_move rfl) rfl ?_
        refine h_any 6 rfl (by kernel_rfl) rfl (fun _ => p_move rfl) rfl ?_
        refine h_any 7 rfl (by kernel_rfl) rfl (fun _ => p_move rfl) rfl ?_
        refine h_any 8 rfl (by kernel_rfl) rfl (fun _ => p_sub (c := ((m - s - 1 : Nat) : Int)) rfl rfl (by omega) (by omega) (by omega)) rfl ?_
        refine h_any 9 rfl (by kernel_rfl) rfl (fun _ => p_idx1 (j := m - s - 1) rfl rfl rfl (by omega) Yba.underlying23 Yba.sizeOf3) rfl ?_
        refine h_take 10 rfl (by kernel_rfl) rfl (p_load rfl Yba.isAgg3 l10) rfl ?_
        refine h_any 11 rfl (by kernel_rfl) rfl (fun _ => p_idx (j := chn n (s + 1)) rfl rfl rfl (by omega) Yba.underlying68 Yba.sizeOf80) rfl ?_
        refine h_take 12 rfl (by kernel_rfl) rfl (p_loadA (vs := dl (f (chn n (s + 1)))) rfl Yba.isAgg80 Yba.sizeOf80 rfl l12) rfl ?_
        refine h_take 4 rfl (by kernel_rfl) rfl (p_load rfl Yba.isAgg3 l4) rfl ?_
        refine h_any 13 rfl (by kernel_rfl) rfl (fun _ => p_idx (j := chn n s) rfl rfl rfl (by omega) Yba.underlying68 Yba.sizeOf80) rfl ?_
        refine h_eff0 14 rfl (by kernel_rfl) rfl (e_setD rfl rfl ry (by omega)) ?_
        rintro _ z ⟨rz, _, sz, oz⟩
        refine h_done (by kernel_rfl) ?_
        repeat (first | refine c_seq ?_ | refine c_region ?_ | refine c_block ?_ | refine c_skip ?_ | refine c_exit ?_ | refine c_ret ?_ | refine n_then ?_ | refine n_block ?_ | refine x_then ?_ | refine x_block_eq ?_ | refine x_block_ne rfl ?_ | refine r_then ?_ | refine r_block ?_ | refine s_nil ?_ | refine c_true rfl ?_ | refine c_false rfl ?_ | refine s_pur (p_move rfl) rfl ?_ | refine s_pur (p_assign rfl) rfl ?_ | refine s_pur (p_nil rfl) rfl ?_ | refine s_pur (p_pick_t rfl rfl) rfl ?_ | refine s_pur (p_pick_f rfl rfl) rfl ?_)
        exact m_done ⟨rz, by omega, fun k hk => by rw [oz k hk, oy k hk]⟩ (by repeat (first | exact Sub.nil | refine Sub.cons rfl ?_))
      rintro z ⟨rz, sz, oz⟩
      repeat (first | refine c_seq ?_ | refine c_region ?_ | refine c_block ?_ | refine c_skip ?_ | refine c_exit ?_ | refine c_ret ?_ | refine n_then ?_ | refine n_block ?_ | refine x_then ?_ | refine x_block_eq ?_ | refine x_block_ne rfl ?_ | refine r_then ?_ | refine r_block ?_ | refine s_nil ?_ | refine c_true rfl ?_ | refine c_false rfl ?_ | refine s_pur (p_move rfl) rfl ?_ | refine s_pur (p_assign rfl) rfl ?_ | refine s_pur (p_nil rfl) rfl ?_ | refine s_pur (p_pick_t rfl rfl) rfl ?_ | refine s_pur (p_pick_f rfl rfl) rfl ?_ | refine s_pur (p_sub (c := ((m - (s + 1) : Nat) : Int)) rfl rfl (by omega) (by omega) (by omega)) rfl ?_)
      exact c_next (s + 1) ⟨by omega, rz, sz, oz⟩ (by repeat (first | exact Sub.nil | refine Sub.cons rfl ?_)) (by omega)
    · obtain rfl : s = m - j := by omega
      repeat (first | refine c_seq ?_ | refine c_region ?_ | refine c_block ?_ | refine c_skip ?_ | refine c_exit ?_ | refine c_ret ?_ | refine n_then ?_ | refine n_block ?_ | refine x_then ?_ | refine x_block_eq ?_ | refine x_block_ne rfl ?_ | refine r_then ?_ | refine r_block ?_ | refine s_nil ?_ | refine c_true rfl ?_ | refine c_false rfl ?_ | refine s_pur (p_move rfl) rfl ?_ | refine s_pur (p_assign rfl) rfl ?_ | refine s_pur (p_nil rfl) rfl ?_ | refine s_pur (p_pick_t rfl rfl) rfl ?_ | refine s_pur (p_pick_f rfl rfl) rfl ?_ | refine s_pur (p_lssT rfl rfl (by omega)) rfl ?_ | refine s_pur (p_lssF rfl rfl (by omega)) rfl ?_ | refine s_pur (p_leqT rfl rfl (by omega)) rfl ?_ | refine s_pur (p_leqF rfl rfl (by omega)) rfl ?_ | refine s_pur (p_gtrT rfl rfl (by omega)) rfl ?_ | refine s_pur (p_gtrF rfl rfl (by omega)) rfl ?_ | refine s_pur (p_geqT rfl rfl (by omega)) rfl ?_ | refine s_pur (p_geqF rfl rfl (by omega)) rfl ?_ | refine s_pur (p_eqlT rfl rfl (by omega)) rfl ?_ | refine s_pur (p_eqlF rfl rfl (by omega)) rfl ?_ | refine s_pur (p_neqT rfl rfl (by omega)) rfl ?_ | refine s_pur (p_neqF rfl rfl (by omega)) rfl ?_)
      exact m_done ⟨ry, sy, oy⟩ (by repeat (first | exact Sub.nil | refine Sub.cons rfl ?_))
  rintro y ⟨ry, sy, oy⟩
  have pry := pr.keep (oy pg hpe.symm)
  have hdy : y[db]? = some (.cells (dl d).toArray 80 (0, 0)) := by rw [oy db hnd.symm]; exact hd
  have l4 := pry.cell (show j < m + 1 by omega)
  have l5 : ∀ t, t < 21 → hc y db (0 + t) = (dl d)[t]? := fun t ht => by rw [hc_of hdy, Nat.zero_add]; simp
  have hcn := chn_le n (m - j)
  refine c_held followsM rfl ?_
  refine h_any 0 rfl (by kernel_rfl) rfl (fun _ => p_move rfl) rfl ?_
  refine h_any 1 rfl (by kernel_rfl) rfl (fun _ => p_move rfl) rfl ?_
  refine h_any 2 rfl (by kernel_rfl) rfl (fun _ => p_move rfl) rfl ?_
  refine h_any 3 rfl (by kernel_rfl) rfl (fun _ => p_idx1 (j := j) rfl rfl rfl (by omega) Yba.underlying23 Yba.sizeOf3) rfl ?_
  refine h_take 4 rfl (by kernel_rfl) rfl (p_load rfl Yba.isAgg3 l4) rfl ?_
  refine h_take 5 rfl (by kernel_rfl) rfl (p_loadA (vs := dl d) rfl Yba.isAgg80 Yba.sizeOf80 rfl l5) rfl ?_
  refine h_any 6 rfl (by kernel_rfl) rfl (fun _ => p_idx (j := chn n (m - j)) rfl rfl rfl (by omega) Yba.underlying68 Yba.sizeOf80) rfl ?_
  refine h_eff0 7 rfl (by kernel_rfl) rfl (e_setD rfl rfl ry (by omega)) ?_
  rintro _ z ⟨rz, _, sz, oz⟩
  refine h_done (by kernel_rfl) ?_
  exact cut [(46, .pointer (some ⟨rb, 0, none⟩)), (57, .slice (some ⟨ge, 0, none⟩) (n + 1) (n + 1))] (by repeat (first | exact Sub.nil | refine Sub.cons rfl ?_)) (hK z rz (by omega) (fun k hk => by rw [oz k hk, oy k hk]))

theorem info3 : ∃ i, Yba.prog.info? 3 = some i ∧ i.zero = some (.int .i64 0) ∧ i.size = 1 ∧ i.bytes = 8 := info_parts (by kernel_rfl)
def chL (n s : Nat) : List Value := (List.range s).map fun t => .int .i64 (chn n t : Int)
theorem chL_succ (n s : Nat) : chL n (s + 1) = chL n s ++ [.int .i64 (chn n s : Int)] := by simp [chL, List.range_succ]

theorem app23 {l : Env} {h : Heap} {ty : TypeId} {x y : Operand} {base n b : Nat} {v : Value} {z : Int} {xs : List Value} (hx : ev l x = some v) (hy : ev l y = some (.slice (some ⟨b, 0, none⟩) 1 1))
    (hown : Owns h base 3 1 v n xs) (hb : hc h b 0 = some (.int .i64 z)) (hn : n ≤ 1048576) (hbase : base ≤ h.size) :
    Eff Yba.prog (.call { callee := .builtin .append, args := #[x, y], argTypes := #[23, 23] }) ty l h
      (fun v' h' => Owns h' base 3 1 v' (n + 1) (xs ++ [.int .i64 z]) ∧ Grow h h' v.ownBlock ∧ ¬ v' = .slice none 0 0) := by
  obtain ⟨i, hi, hz, hs, hby⟩ := info3
  have := e_append1 (P := Yba.prog) (ty := ty) hx hy Yba.underlying23 hi hz hs hby rfl hown hb rfl (by simp only [maxLen]; omega) (by omega) hbase
  refine ⟨fun ρ w dd p af g hρ hw => ?_⟩
  obtain ⟨v', w', hr, ⟨h2, h3, h4, h5⟩, rest⟩ := this.out ρ w dd p af g hρ hw
  exact ⟨v', w', hr, ⟨h2, h3, h4⟩, rest⟩
theorem Kp.grow {h h1 h2 : Heap} {base n : Nat} {v : Value} {xs : List Value} {e : TypeId} {size : Nat} (a : Kp h h1) (g : Grow h1 h2 v.ownBlock) (ho : Owns h1 base e size v n xs) (hb : h.size ≤ base) : Kp h h2 :=
  ⟨Nat.le_trans a.size g.size, fun k hk => by
    rw [g.other k (Nat.lt_of_lt_of_le hk a.size) (fun e => by have := ho.base k e.symm; omega)]
    exact a.same k hk⟩
theorem irow_of {h : Heap} {base n s : Nat} {v : Value} (ho : Owns h base 3 1 v s (chL n s)) (hn : ¬ v = .slice none 0 0) : ∃ g m, v = .slice (some ⟨g, 0, none⟩) s m ∧ base ≤ g ∧ IRow h g s m (chn n) := by
  rcases ho.shape with ⟨hv, _⟩ | ⟨g, cap, cur, hv, hb, hg, hnc, hm, hs, ht⟩
  · exact absurd hv hn
  · refine ⟨g, cap, hv, hb, cur, hg, by simpa using hs, hnc, fun i hi => ?_⟩
    have e : (chL n s)[i]? = some (.int .i64 (chn n i : Int)) := by simp [chL, hi]
    rw [← e, ← ht, List.getElem?_take, if_pos (by omega)]
    simp
end Go.Proofs.Ybulkdiqq
