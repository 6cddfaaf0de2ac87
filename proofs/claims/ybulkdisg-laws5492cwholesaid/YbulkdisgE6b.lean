/-
  E6b: link.LawS5492CWhole: a visitor's round, from its picks on.
-/
import Derived.Test.YbulkdisgE5
namespace Go.Proofs.Ybulkdisg
set_option linter.unusedSimpArgs false
set_option linter.unusedVariables false
set_option linter.unnecessarySimpa false
open Go Go.RowKit V
set_option maxRecDepth 100000

set_option maxHeartbeats 8000000 in
theorem round4 {h hh : Heap} {np nv lb mb nb cL cM vc k g cp : Nat} {va : Option Addr} {xb vb : Nat → Nat} {PL : Nat → Int} {PM : Nat → Bool} {pks : Nat → List Nat} {r : Heap} {p : List Nat}
    (D : BF h hh np lb mb nb xb PL PM) (hnv : nv ≤ 65536) (hlt : k < nv) (hpk : pks k = p) (pl1 : 1 ≤ p.length) (pl4 : p.length ≤ 4) (plt : ∀ x ∈ p, x < np)
    (lo : Low hh.size hh r) (W : PtrAt r hh.size 47 nv (k + 1) vb) (F : PtrAt r (hh.size + 1) 47 nv (k + 1) vb) (Rw : RowsAt r (hh.size + 2) nv (fun i t => if i < k then rowOf PL PM (pks i) t else 0)) (V' : ∀ i, i < k + 1 → VisB r hh.size (vb i) xb (pks i))
    (hp : ∀ j, j < p.length → hc r g (0 + j) = some (.int .i64 ((p.getD j 0 : Nat) : Int))) (hg : hh.size + 3 ≤ g) (sz : hh.size + 3 ≤ r.size)
    {w0 : World} {Q : Exit → Act → World → Prop} {K : Act → World → Prop}
    (hK : ∀ q' vb' l', LI hh q' nv (k + 1) vb' xb PL PM pks → V.Sub [(1, .slice va nv vc), (5, .int .i64 4), (6, .int .i64 np), (7, .slice (some ⟨lb, 0, none⟩) np cL), (8, .slice (some ⟨mb, 0, none⟩) np cM), (10, .slice (some ⟨nb, 0, none⟩) np np), (12, .slice (some ⟨hh.size, 0, none⟩) nv nv), (13, .slice (some ⟨hh.size + 1, 0, none⟩) nv nv), (14, .slice (some ⟨hh.size + 2, 0, none⟩) nv nv), (15, .int .i64 k)] l' → V.Fin 327 w0 K l' q') :
    V.Fin 327 w0 (CW Yba.prog (V.sub (Yba.f3.body.getD .skip) [1, 1, 1, 1, 1, 1, 1, 1, 1, 1, 1, 1, 1, 0, 1, 0, 0, 1, 0, 0, 1, 1, 1, 1, 1, 1, 1, 1, 1, 1, 1]) (Exit.inBlock 5 (Exit.then K Q))) [(1, .slice va nv vc), (5, .int .i64 4), (6, .int .i64 np), (7, .slice (some ⟨lb, 0, none⟩) np cL), (8, .slice (some ⟨mb, 0, none⟩) np cM), (10, .slice (some ⟨nb, 0, none⟩) np np), (12, .slice (some ⟨hh.size, 0, none⟩) nv nv), (13, .slice (some ⟨hh.size + 1, 0, none⟩) nv nv), (14, .slice (some ⟨hh.size + 2, 0, none⟩) nv nv), (15, .int .i64 k), (18, .slice (some ⟨g, 0, none⟩) p.length cp)] r := by
  have hnp := D.hnp
  have hh1 := D.h1
  have pin : ∀ j, j < p.length → p.getD j 0 < np := fun j hj => by rw [getD_ltN p j hj]; exact plt _ (List.getElem_mem _)
  have hp1 := hp (p.length - 1) (by omega)
  have host := pin (p.length - 1) (by omega)
  have lkh := low_hc lo (D.lk _ host)
  have mmh := D.mm _ host
  -- host
  refine c_mid [(1, .slice va nv vc), (5, .int .i64 4), (6, .int .i64 np), (7, .slice (some ⟨lb, 0, none⟩) np cL), (8, .slice (some ⟨mb, 0, none⟩) np cM), (10, .slice (some ⟨nb, 0, none⟩) np np), (12, .slice (some ⟨hh.size, 0, none⟩) nv nv), (13, .slice (some ⟨hh.size + 1, 0, none⟩) nv nv), (14, .slice (some ⟨hh.size + 2, 0, none⟩) nv nv), (15, .int .i64 k), (18, .slice (some ⟨g, 0, none⟩) p.length cp), (23, .int .i64 ((p.getD (p.length - 1) 0 : Nat) : Int))] (fun x => r = x) ?_ ?_
  · repeat (first | refine c_seq ?_ | refine c_region ?_ | refine c_block ?_ | refine c_skip ?_ | refine c_exit ?_ | refine c_ret ?_ | refine n_then ?_ | refine n_block ?_ | refine x_then ?_ | refine x_block_eq ?_ | refine x_block_ne rfl ?_ | refine r_then ?_ | refine r_block ?_ | refine s_nil ?_ | refine c_true rfl ?_ | refine c_false rfl ?_ | refine s_pur (p_move rfl) rfl ?_ | refine s_pur (p_assign rfl) rfl ?_ | refine s_pur (p_nil rfl) rfl ?_ | refine s_pur (p_pick_t rfl rfl) rfl ?_ | refine s_pur (p_pick_f rfl rfl) rfl ?_ | refine s_pur (p_len rfl Yba.underlying24) rfl ?_ | refine s_pur (p_idx1 rfl rfl rfl (by omega) Yba.underlying24 Yba.sizeOf3) rfl ?_ | refine s_pur (p_load rfl Yba.isAgg3 (by assumption)) rfl ?_ | refine s_pur (p_sub rfl rfl (c := ((p.length - 1 : Nat) : Int)) (by omega) (by omega) (by omega)) rfl ?_)
    exact m_done rfl (by repeat (first | exact Sub.nil | refine Sub.cons rfl ?_))
  rintro _ rfl
  -- rows[k][0]
  refine c_mid [(1, .slice va nv vc), (5, .int .i64 4), (6, .int .i64 np), (7, .slice (some ⟨lb, 0, none⟩) np cL), (8, .slice (some ⟨mb, 0, none⟩) np cM), (10, .slice (some ⟨nb, 0, none⟩) np np), (12, .slice (some ⟨hh.size, 0, none⟩) nv nv), (13, .slice (some ⟨hh.size + 1, 0, none⟩) nv nv), (14, .slice (some ⟨hh.size + 2, 0, none⟩) nv nv), (15, .int .i64 k), (18, .slice (some ⟨g, 0, none⟩) p.length cp), (23, .int .i64 ((p.getD (p.length - 1) 0 : Nat) : Int))]
    (fun x => (∀ b, b ≠ hh.size + 2 → x[b]? = r[b]?) ∧ x.size = r.size ∧ RowsAt x (hh.size + 2) nv (fun i t => if i < k then rowOf PL PM (pks i) t else if i = k ∧ t = 0 then PL (p.getD (p.length - 1) 0) else 0)) ?_ ?_
  · obtain ⟨cr, hcr, scr, gcr⟩ := id Rw
    refine c_held followsM rfl ?_
    refine h_any 0 rfl (by kernel_rfl) rfl (fun _ => p_move rfl) rfl ?_
    refine h_any 1 rfl (by kernel_rfl) rfl (fun _ => p_move rfl) rfl ?_
    refine h_any 2 rfl (by kernel_rfl) rfl (fun _ => p_move rfl) rfl ?_
    refine h_any 3 rfl (by kernel_rfl) rfl (fun _ => p_move rfl) rfl ?_
    refine h_any 4 rfl (by kernel_rfl) rfl (fun _ => p_idx1 (j := p.getD (p.length - 1) 0) rfl rfl rfl host Yba.underlying24 Yba.sizeOf3) rfl ?_
    refine h_any 6 rfl (by kernel_rfl) rfl (fun _ => p_idx (j := k) rfl rfl rfl hlt Yba.underlying43 Yba.sizeOf53) rfl ?_
    refine h_take 5 rfl (by kernel_rfl) rfl (p_load rfl Yba.isAgg3 lkh) rfl ?_
    refine h_any 7 rfl (by kernel_rfl) rfl (fun _ => p_idxA1 (j := 0) rfl rfl rfl (by omega) Yba.underlying53 Yba.sizeOf3) rfl ?_
    refine h_eff0 8 rfl (by kernel_rfl) rfl (e_store rfl rfl rfl Yba.sizeOf3 hcr (by omega)) ?_
    rintro _ x ux
    refine h_done (by kernel_rfl) ?_
    repeat (first | refine c_seq ?_ | refine c_region ?_ | refine c_block ?_ | refine c_skip ?_ | refine c_exit ?_ | refine c_ret ?_ | refine n_then ?_ | refine n_block ?_ | refine x_then ?_ | refine x_block_eq ?_ | refine x_block_ne rfl ?_ | refine r_then ?_ | refine r_block ?_ | refine s_nil ?_ | refine c_true rfl ?_ | refine c_false rfl ?_ | refine s_pur (p_move rfl) rfl ?_ | refine s_pur (p_assign rfl) rfl ?_ | refine s_pur (p_nil rfl) rfl ?_ | refine s_pur (p_pick_t rfl rfl) rfl ?_ | refine s_pur (p_pick_f rfl rfl) rfl ?_)
    refine m_done ⟨ux.other, ux.size, RowsAt.set scr gcr ux hlt (by omega) ?_⟩ (by repeat (first | exact Sub.nil | refine Sub.cons rfl ?_))
    intro i hi t ht
    by_cases hik : i < k
    · simp only [hik, if_true]; rw [if_neg (by omega)]
    · simp only [hik, if_false]
  rintro r1 ⟨ot1, sz1, rw1⟩
  have mm1 : hc r1 mb (0 + p.getD (p.length - 1) 0) = some (.bool (PM (p.getD (p.length - 1) 0))) := by
    rw [hc_congr (ot1 mb (by have := lt_of_hc mmh; omega))]; exact low_hc lo mmh
  -- rows[k][1]
  refine c_mid [(1, .slice va nv vc), (5, .int .i64 4), (6, .int .i64 np), (7, .slice (some ⟨lb, 0, none⟩) np cL), (8, .slice (some ⟨mb, 0, none⟩) np cM), (10, .slice (some ⟨nb, 0, none⟩) np np), (12, .slice (some ⟨hh.size, 0, none⟩) nv nv), (13, .slice (some ⟨hh.size + 1, 0, none⟩) nv nv), (14, .slice (some ⟨hh.size + 2, 0, none⟩) nv nv), (15, .int .i64 k), (18, .slice (some ⟨g, 0, none⟩) p.length cp)]
    (fun x => (∀ b, b ≠ hh.size + 2 → x[b]? = r[b]?) ∧ x.size = r.size ∧ RowsAt x (hh.size + 2) nv (fun i t => if i < k then rowOf PL PM (pks i) t else if i = k then rowTo (fun j => PL (p.getD j 0)) (fun j => PM (p.getD j 0)) p.length 0 t else 0)) ?_ ?_
  · cases hM : PM (p.getD (p.length - 1) 0)
    · rw [hM] at mm1
      obtain ⟨cr, hcr, scr, gcr⟩ := id rw1
      repeat (first | refine c_seq ?_ | refine c_region ?_ | refine c_block ?_ | refine c_skip ?_ | refine c_exit ?_ | refine c_ret ?_ | refine n_then ?_ | refine n_block ?_ | refine x_then ?_ | refine x_block_eq ?_ | refine x_block_ne rfl ?_ | refine r_then ?_ | refine r_block ?_ | refine s_nil ?_ | refine c_true rfl ?_ | refine c_false rfl ?_ | refine s_pur (p_move rfl) rfl ?_ | refine s_pur (p_assign rfl) rfl ?_ | refine s_pur (p_nil rfl) rfl ?_ | refine s_pur (p_pick_t rfl rfl) rfl ?_ | refine s_pur (p_pick_f rfl rfl) rfl ?_ | refine s_pur (p_len rfl Yba.underlying25) rfl ?_ | refine s_pur (p_idx1 rfl rfl rfl (by omega) Yba.underlying25 Yba.sizeOf4) rfl ?_ | refine s_pur (p_load rfl Yba.isAgg4 (by assumption)) rfl ?_ | refine s_pur (p_not rfl) rfl ?_ | refine s_pur (p_idx (j := k) rfl rfl rfl hlt Yba.underlying43 Yba.sizeOf53) rfl ?_ | refine s_pur (p_idxA1 (j := 1) rfl rfl rfl (by omega) Yba.underlying53 Yba.sizeOf3) rfl ?_)
      refine s_eff0 (e_store rfl rfl rfl Yba.sizeOf3 hcr (by omega)) ?_
      rintro _ x ux
      repeat (first | refine c_seq ?_ | refine c_region ?_ | refine c_block ?_ | refine c_skip ?_ | refine c_exit ?_ | refine c_ret ?_ | refine n_then ?_ | refine n_block ?_ | refine x_then ?_ | refine x_block_eq ?_ | refine x_block_ne rfl ?_ | refine r_then ?_ | refine r_block ?_ | refine s_nil ?_ | refine c_true rfl ?_ | refine c_false rfl ?_ | refine s_pur (p_move rfl) rfl ?_ | refine s_pur (p_assign rfl) rfl ?_ | refine s_pur (p_nil rfl) rfl ?_ | refine s_pur (p_pick_t rfl rfl) rfl ?_ | refine s_pur (p_pick_f rfl rfl) rfl ?_)
      refine m_done ⟨fun b hb => by rw [ux.other b hb]; exact ot1 b hb, by have := ux.size; omega, RowsAt.set scr gcr ux hlt (by omega) ?_⟩ (by repeat (first | exact Sub.nil | refine Sub.cons rfl ?_))
      intro i hi t ht
      by_cases hik : i < k
      · simp only [hik, if_true]; rw [if_neg (by omega)]
      · simp only [hik, if_false]
        by_cases e : i = k
        · simp only [e, true_and, if_true]
          rcases (by omega : t = 0 ∨ t = 1 ∨ 2 ≤ t) with q | q | q
          · subst q; simp [rowTo]
          · subst q; have hM' := hM; simp only [List.getD_eq_getElem?_getD] at hM'; simp [rowTo, hM']
          · simp [rowTo, show ¬ t = 0 by omega, show ¬ t = 1 by omega]
        · simp [e]
    · rw [hM] at mm1
      repeat (first | refine c_seq ?_ | refine c_region ?_ | refine c_block ?_ | refine c_skip ?_ | refine c_exit ?_ | refine c_ret ?_ | refine n_then ?_ | refine n_block ?_ | refine x_then ?_ | refine x_block_eq ?_ | refine x_block_ne rfl ?_ | refine r_then ?_ | refine r_block ?_ | refine s_nil ?_ | refine c_true rfl ?_ | refine c_false rfl ?_ | refine s_pur (p_move rfl) rfl ?_ | refine s_pur (p_assign rfl) rfl ?_ | refine s_pur (p_nil rfl) rfl ?_ | refine s_pur (p_pick_t rfl rfl) rfl ?_ | refine s_pur (p_pick_f rfl rfl) rfl ?_ | refine s_pur (p_len rfl Yba.underlying25) rfl ?_ | refine s_pur (p_idx1 rfl rfl rfl (by omega) Yba.underlying25 Yba.sizeOf4) rfl ?_ | refine s_pur (p_load rfl Yba.isAgg4 (by assumption)) rfl ?_ | refine s_pur (p_not rfl) rfl ?_)
      refine m_done ⟨ot1, sz1, rw1.congr ?_⟩ (by repeat (first | exact Sub.nil | refine Sub.cons rfl ?_))
      intro i hi t ht
      by_cases hik : i < k
      · simp only [hik, if_true]
      · simp only [hik, if_false]
        by_cases e : i = k
        · simp only [e, true_and, if_true]
          rcases (by omega : t = 0 ∨ t = 1 ∨ 2 ≤ t) with q | q | q
          · subst q; simp [rowTo]
          · subst q; have hM' := hM; simp only [List.getD_eq_getElem?_getD] at hM'; simp [rowTo, hM']
          · simp [rowTo, show ¬ t = 0 by omega, show ¬ t = 1 by omega]
        · simp [e]
  rintro r2 ⟨ot2, sz2, rw2⟩
  -- the tail of the row
  refine c_seq ?_
  repeat (first | refine c_region ?_ | refine c_block ?_ | refine c_skip ?_ | refine c_exit ?_ | refine c_ret ?_ | refine n_then ?_ | refine n_block ?_ | refine x_then ?_ | refine x_block_eq ?_ | refine x_block_ne rfl ?_ | refine r_then ?_ | refine r_block ?_ | refine s_nil ?_ | refine c_true rfl ?_ | refine c_false rfl ?_ | refine s_pur (p_move rfl) rfl ?_ | refine s_pur (p_assign rfl) rfl ?_ | refine s_pur (p_nil rfl) rfl ?_ | refine s_pur (p_pick_t rfl rfl) rfl ?_ | refine s_pur (p_pick_f rfl rfl) rfl ?_)
  refine c_loop (fun x : Nat => [(1, .slice va nv vc), (5, .int .i64 4), (6, .int .i64 np), (7, .slice (some ⟨lb, 0, none⟩) np cL), (8, .slice (some ⟨mb, 0, none⟩) np cM), (10, .slice (some ⟨nb, 0, none⟩) np np), (12, .slice (some ⟨hh.size, 0, none⟩) nv nv), (13, .slice (some ⟨hh.size + 1, 0, none⟩) nv nv), (14, .slice (some ⟨hh.size + 2, 0, none⟩) nv nv), (15, .int .i64 k), (18, .slice (some ⟨g, 0, none⟩) p.length cp), (24, .int .i64 x)])
    (fun x y => x ≤ p.length - 1 ∧ (∀ b, b ≠ hh.size + 2 → y[b]? = r[b]?) ∧ y.size = r.size ∧ RowsAt y (hh.size + 2) nv (fun i t => if i < k then rowOf PL PM (pks i) t else if i = k then rowTo (fun j => PL (p.getD j 0)) (fun j => PM (p.getD j 0)) p.length x t else 0)) (fun x => p.length - 1 - x) 0
    ⟨by omega, ot2, sz2, rw2⟩ (by repeat (first | exact Sub.nil | refine Sub.cons rfl ?_)) ?_
  rintro j y ⟨hj, ot, szy, rwy⟩
  by_cases hjl : j + 1 < p.length
  · obtain ⟨cr, hcr, scr, gcr⟩ := id rwy
    have hpj : hc y g (0 + j) = some (.int .i64 ((p.getD j 0 : Nat) : Int)) := by rw [hc_congr (ot g (by omega))]; exact hp j (by omega)
    have hin := pin j (by omega)
    have lkj : hc y lb (0 + p.getD j 0) = some (.int .i64 (PL (p.getD j 0))) := by
      rw [hc_congr (ot lb (by have := lt_of_hc (D.lk _ hin); omega))]; exact low_hc lo (D.lk _ hin)
    repeat (first | refine c_seq ?_ | refine c_region ?_ | refine c_block ?_ | refine c_skip ?_ | refine c_exit ?_ | refine c_ret ?_ | refine n_then ?_ | refine n_block ?_ | refine x_then ?_ | refine x_block_eq ?_ | refine x_block_ne rfl ?_ | refine r_then ?_ | refine r_block ?_ | refine s_nil ?_ | refine c_true rfl ?_ | refine c_false rfl ?_ | refine s_pur (p_move rfl) rfl ?_ | refine s_pur (p_assign rfl) rfl ?_ | refine s_pur (p_nil rfl) rfl ?_ | refine s_pur (p_pick_t rfl rfl) rfl ?_ | refine s_pur (p_pick_f rfl rfl) rfl ?_ | refine s_pur (p_len rfl Yba.underlying24) rfl ?_ | refine s_pur (p_idx1 rfl rfl rfl (by omega) Yba.underlying24 Yba.sizeOf3) rfl ?_ | refine s_pur (p_add (c := ((j + 1 : Nat) : Int)) rfl rfl (by omega) (by omega) (by omega)) rfl ?_ | refine s_pur (p_lssT rfl rfl (by omega)) rfl ?_)
    refine c_held followsM rfl ?_
    refine h_any 0 rfl (by kernel_rfl) rfl (fun _ => p_move rfl) rfl ?_
    refine h_any 1 rfl (by kernel_rfl) rfl (fun _ => p_move rfl) rfl ?_
    refine h_any 2 rfl (by kernel_rfl) rfl (fun _ => p_move rfl) rfl ?_
    refine h_any 3 rfl (by kernel_rfl) rfl (fun _ => p_add (c := ((2 + j : Nat) : Int)) rfl rfl (by omega) (by omega) (by omega)) rfl ?_
    refine h_any 4 rfl (by kernel_rfl) rfl (fun _ => p_move rfl) rfl ?_
    refine h_any 5 rfl (by kernel_rfl) rfl (fun _ => p_move rfl) rfl ?_
    refine h_any 6 rfl (by kernel_rfl) rfl (fun _ => p_move rfl) rfl ?_
    refine h_any 7 rfl (by kernel_rfl) rfl (fun _ => p_idx1 (j := j) rfl rfl rfl (by omega) Yba.underlying24 Yba.sizeOf3) rfl ?_
    refine h_any 11 rfl (by kernel_rfl) rfl (fun _ => p_idx (j := k) rfl rfl rfl hlt Yba.underlying43 Yba.sizeOf53) rfl ?_
    refine h_take 8 rfl (by kernel_rfl) rfl (p_load rfl Yba.isAgg3 hpj) rfl ?_
    refine h_any 9 rfl (by kernel_rfl) rfl (fun _ => p_idx1 (j := p.getD j 0) rfl rfl rfl hin Yba.underlying24 Yba.sizeOf3) rfl ?_
    refine h_take 10 rfl (by kernel_rfl) rfl (p_load rfl Yba.isAgg3 lkj) rfl ?_
    refine h_any 12 rfl (by kernel_rfl) rfl (fun _ => p_idxA1 (j := 2 + j) rfl rfl rfl (by omega) Yba.underlying53 Yba.sizeOf3) rfl ?_
    refine h_eff0 13 rfl (by kernel_rfl) rfl (e_store rfl rfl rfl Yba.sizeOf3 hcr (by omega)) ?_
    rintro _ x ux
    refine h_done (by kernel_rfl) ?_
    repeat (first | refine c_seq ?_ | refine c_region ?_ | refine c_block ?_ | refine c_skip ?_ | refine c_exit ?_ | refine c_ret ?_ | refine n_then ?_ | refine n_block ?_ | refine x_then ?_ | refine x_block_eq ?_ | refine x_block_ne rfl ?_ | refine r_then ?_ | refine r_block ?_ | refine s_nil ?_ | refine c_true rfl ?_ | refine c_false rfl ?_ | refine s_pur (p_move rfl) rfl ?_ | refine s_pur (p_assign rfl) rfl ?_ | refine s_pur (p_nil rfl) rfl ?_ | refine s_pur (p_pick_t rfl rfl) rfl ?_ | refine s_pur (p_pick_f rfl rfl) rfl ?_ | refine s_pur (p_add rfl rfl rfl (by omega) (by omega)) rfl ?_)
    refine c_next (j + 1) ⟨by omega, fun b hb => by rw [ux.other b hb]; exact ot b hb, by have := ux.size; omega, RowsAt.set scr gcr ux hlt (by omega) ?_⟩ (by repeat (first | exact Sub.nil | refine Sub.cons rfl ?_)) (by omega)
    intro i hi t ht
    by_cases hik : i < k
    · simp only [hik, if_true]; rw [if_neg (by omega)]
    · simp only [hik, if_false]
      by_cases e : i = k
      · simp only [e, true_and, if_true]
        rcases (by omega : t = 0 ∨ t = 1 ∨ 2 ≤ t) with q | q | q
        · subst q; simp only [rowTo, if_true]; rw [if_neg (by omega)]
        · subst q; simp only [rowTo]; rw [if_neg (by omega : ¬ (1 = 2 + j))]; simp
        · simp only [rowTo, show ¬ t = 0 by omega, show ¬ t = 1 by omega, if_false]
          by_cases e2 : t = 2 + j
          · rw [if_pos e2, if_pos (by omega)]; congr 2; omega
          · rw [if_neg e2]
            by_cases e3 : t - 2 < j
            · rw [if_pos e3, if_pos (by omega)]
            · rw [if_neg e3, if_neg (by omega)]
      · simp [e]
  · have : j = p.length - 1 := by omega
    subst this
    refine c_seq ?_
    refine c_seq ?_
    refine c_region ?_
    repeat (first | refine c_region ?_ | refine c_block ?_ | refine c_skip ?_ | refine c_exit ?_ | refine c_ret ?_ | refine n_then ?_ | refine n_block ?_ | refine x_then ?_ | refine x_block_eq ?_ | refine x_block_ne rfl ?_ | refine r_then ?_ | refine r_block ?_ | refine s_nil ?_ | refine c_true rfl ?_ | refine c_false rfl ?_ | refine s_pur (p_move rfl) rfl ?_ | refine s_pur (p_assign rfl) rfl ?_ | refine s_pur (p_nil rfl) rfl ?_ | refine s_pur (p_pick_t rfl rfl) rfl ?_ | refine s_pur (p_pick_f rfl rfl) rfl ?_ | refine s_pur (p_len rfl Yba.underlying24) rfl ?_ | refine s_pur (p_idx1 rfl rfl rfl (by omega) Yba.underlying24 Yba.sizeOf3) rfl ?_ | refine s_pur (p_add (c := ((p.length - 1 + 1 : Nat) : Int)) rfl rfl (by omega) (by omega) (by omega)) rfl ?_ | refine s_pur (p_lssF rfl rfl (by omega)) rfl ?_)
    refine hK y vb _ ⟨⟨by have := lo.size; omega, fun b hb => by rw [ot b (by omega)]; exact lo.same b hb⟩, W.keep (ot _ (by omega)), F.keep (ot _ (by omega)), rwy.congr ?_, fun i hi => (V' i hi).keep (fun b hb _ => ot b (by omega)), by omega⟩ (by repeat (first | exact Sub.nil | refine Sub.cons rfl ?_))
    intro i hi t ht
    by_cases hik : i < k
    · rw [if_pos hik, if_pos (by omega)]
    · rw [if_neg hik]
      by_cases e : i = k
      · subst e
        rw [if_pos rfl, if_pos (by omega), hpk]
        rfl
      · rw [if_neg e, if_neg (by omega)]

set_option maxHeartbeats 8000000 in
theorem round3 {h hh : Heap} {np nv lb mb nb cL cM vc k g cp : Nat} {va : Option Addr} {xb vb : Nat → Nat} {PL : Nat → Int} {PM : Nat → Bool} {pks : Nat → List Nat} {q r : Heap} {p : List Nat}
    (D : BF h hh np lb mb nb xb PL PM) (hnv : nv ≤ 65536) (hlt : k < nv) (I : LI hh q nv k vb xb PL PM pks) (hpk : pks k = p) (pl1 : 1 ≤ p.length) (pl4 : p.length ≤ 4) (plt : ∀ x ∈ p, x < np) (lor : Low q.size q r)
    (hp : ∀ j, j < p.length → hc r g (0 + j) = some (.int .i64 ((p.getD j 0 : Nat) : Int))) (hg : q.size ≤ g)
    {w0 : World} {Q : Exit → Act → World → Prop} {K : Act → World → Prop}
    (hK : ∀ q' vb' l', LI hh q' nv (k + 1) vb' xb PL PM pks → V.Sub [(1, .slice va nv vc), (5, .int .i64 4), (6, .int .i64 np), (7, .slice (some ⟨lb, 0, none⟩) np cL), (8, .slice (some ⟨mb, 0, none⟩) np cM), (10, .slice (some ⟨nb, 0, none⟩) np np), (12, .slice (some ⟨hh.size, 0, none⟩) nv nv), (13, .slice (some ⟨hh.size + 1, 0, none⟩) nv nv), (14, .slice (some ⟨hh.size + 2, 0, none⟩) nv nv), (15, .int .i64 k)] l' → V.Fin 327 w0 K l' q') :
    V.Fin 327 w0 (CW Yba.prog (V.sub (Yba.f3.body.getD .skip) [1, 1, 1, 1, 1, 1, 1, 1, 1, 1, 1, 1, 1, 0, 1, 0, 0, 1, 0, 0, 1, 1, 1, 1, 1, 1]) (Exit.inBlock 5 (Exit.then K Q))) [(1, .slice va nv vc), (5, .int .i64 4), (6, .int .i64 np), (7, .slice (some ⟨lb, 0, none⟩) np cL), (8, .slice (some ⟨mb, 0, none⟩) np cM), (10, .slice (some ⟨nb, 0, none⟩) np np), (12, .slice (some ⟨hh.size, 0, none⟩) nv nv), (13, .slice (some ⟨hh.size + 1, 0, none⟩) nv nv), (14, .slice (some ⟨hh.size + 2, 0, none⟩) nv nv), (15, .int .i64 k), (18, .slice (some ⟨g, 0, none⟩) p.length cp)] r := by
  have hnp := D.hnp
  have Isz := I.sz
  have sr := lor.size
  have loH : Low hh.size hh r := I.low.then lor
  have pin : ∀ j, j < p.length → p.getD j 0 < np := fun j hj => by rw [getD_ltN p j hj]; exact plt _ (List.getElem_mem _)
  have hgr : g < r.size := lt_of_hc (hp 0 (by omega))
  obtain ⟨i29, hi29, hz29, hs29, hb29⟩ := info29
  refine c_mid [(1, .slice va nv vc), (5, .int .i64 4), (6, .int .i64 np), (7, .slice (some ⟨lb, 0, none⟩) np cL), (8, .slice (some ⟨mb, 0, none⟩) np cM), (10, .slice (some ⟨nb, 0, none⟩) np np), (12, .slice (some ⟨hh.size, 0, none⟩) nv nv), (13, .slice (some ⟨hh.size + 1, 0, none⟩) nv nv), (14, .slice (some ⟨hh.size + 2, 0, none⟩) nv nv), (15, .int .i64 k), (18, .slice (some ⟨g, 0, none⟩) p.length cp), (20, .slice (some ⟨r.size, 0, none⟩) p.length p.length)] (fun x => Low r.size r x ∧ x.size = r.size + 1 ∧ PtrAt x r.size 29 p.length 0 (fun t => xb (p.getD t 0))) ?_ ?_
  · repeat (first | refine c_seq ?_ | refine c_region ?_ | refine c_block ?_ | refine c_skip ?_ | refine c_exit ?_ | refine c_ret ?_ | refine n_then ?_ | refine n_block ?_ | refine x_then ?_ | refine x_block_eq ?_ | refine x_block_ne rfl ?_ | refine r_then ?_ | refine r_block ?_ | refine s_nil ?_ | refine c_true rfl ?_ | refine c_false rfl ?_ | refine s_pur (p_move rfl) rfl ?_ | refine s_pur (p_assign rfl) rfl ?_ | refine s_pur (p_nil rfl) rfl ?_ | refine s_pur (p_pick_t rfl rfl) rfl ?_ | refine s_pur (p_pick_f rfl rfl) rfl ?_ | refine s_pur (p_len rfl Yba.underlying24) rfl ?_ | refine s_pur (p_idx1 rfl rfl rfl (by omega) Yba.underlying24 Yba.sizeOf3) rfl ?_)
    refine s_eff (e_make rfl rfl Yba.underlying28 hi29 hz29 (Nat.le_refl _) (by rw [hb29]; omega) (by omega)) rfl ?_
    rintro _ x ⟨rfl, nx⟩
    repeat (first | refine c_seq ?_ | refine c_region ?_ | refine c_block ?_ | refine c_skip ?_ | refine c_exit ?_ | refine c_ret ?_ | refine n_then ?_ | refine n_block ?_ | refine x_then ?_ | refine x_block_eq ?_ | refine x_block_ne rfl ?_ | refine r_then ?_ | refine r_block ?_ | refine s_nil ?_ | refine c_true rfl ?_ | refine c_false rfl ?_ | refine s_pur (p_move rfl) rfl ?_ | refine s_pur (p_assign rfl) rfl ?_ | refine s_pur (p_nil rfl) rfl ?_ | refine s_pur (p_pick_t rfl rfl) rfl ?_ | refine s_pur (p_pick_f rfl rfl) rfl ?_)
    exact m_done ⟨(Low.refl _ _).new nx (Nat.le_refl _), nx.size, _, nx.at_, by simp [madeCells, hs29], fun i hi => by omega⟩ (by repeat (first | exact Sub.nil | refine Sub.cons rfl ?_))
  rintro r1 ⟨lo1, sz1, v1⟩
  refine c_mid [(1, .slice va nv vc), (5, .int .i64 4), (6, .int .i64 np), (7, .slice (some ⟨lb, 0, none⟩) np cL), (8, .slice (some ⟨mb, 0, none⟩) np cM), (10, .slice (some ⟨nb, 0, none⟩) np np), (12, .slice (some ⟨hh.size, 0, none⟩) nv nv), (13, .slice (some ⟨hh.size + 1, 0, none⟩) nv nv), (14, .slice (some ⟨hh.size + 2, 0, none⟩) nv nv), (15, .int .i64 k), (18, .slice (some ⟨g, 0, none⟩) p.length cp), (20, .slice (some ⟨r.size, 0, none⟩) p.length p.length)] (fun x => Low r.size r x ∧ x.size = r.size + 1 ∧ PtrAt x r.size 29 p.length p.length (fun t => xb (p.getD t 0))) ?_ ?_
  · repeat (first | refine c_seq ?_ | refine c_region ?_ | refine c_block ?_ | refine c_skip ?_ | refine c_exit ?_ | refine c_ret ?_ | refine n_then ?_ | refine n_block ?_ | refine x_then ?_ | refine x_block_eq ?_ | refine x_block_ne rfl ?_ | refine r_then ?_ | refine r_block ?_ | refine s_nil ?_ | refine c_true rfl ?_ | refine c_false rfl ?_ | refine s_pur (p_move rfl) rfl ?_ | refine s_pur (p_assign rfl) rfl ?_ | refine s_pur (p_nil rfl) rfl ?_ | refine s_pur (p_pick_t rfl rfl) rfl ?_ | refine s_pur (p_pick_f rfl rfl) rfl ?_)
    refine c_loop (fun x : Nat => [(1, .slice va nv vc), (5, .int .i64 4), (6, .int .i64 np), (7, .slice (some ⟨lb, 0, none⟩) np cL), (8, .slice (some ⟨mb, 0, none⟩) np cM), (10, .slice (some ⟨nb, 0, none⟩) np np), (12, .slice (some ⟨hh.size, 0, none⟩) nv nv), (13, .slice (some ⟨hh.size + 1, 0, none⟩) nv nv), (14, .slice (some ⟨hh.size + 2, 0, none⟩) nv nv), (15, .int .i64 k), (18, .slice (some ⟨g, 0, none⟩) p.length cp), (20, .slice (some ⟨r.size, 0, none⟩) p.length p.length), (21, .int .i64 x)])
      (fun x y => x ≤ p.length ∧ Low r.size r y ∧ y.size = r.size + 1 ∧ PtrAt y r.size 29 p.length x (fun t => xb (p.getD t 0))) (fun x => p.length - x) 0 ⟨by omega, lo1, sz1, v1⟩ (by repeat (first | exact Sub.nil | refine Sub.cons rfl ?_)) ?_
    rintro j y ⟨hj, loy, szy, ⟨c, hcy, scy, gcy⟩⟩
    by_cases hjl : j < p.length
    · have e1 := low_hc loy (hp j hjl)
      have e2 := low_hc (loH.then loy) (D.nt _ (pin j hjl)).1
      have e3 := pin j hjl
      repeat (first | refine c_seq ?_ | refine c_region ?_ | refine c_block ?_ | refine c_skip ?_ | refine c_exit ?_ | refine c_ret ?_ | refine n_then ?_ | refine n_block ?_ | refine x_then ?_ | refine x_block_eq ?_ | refine x_block_ne rfl ?_ | refine r_then ?_ | refine r_block ?_ | refine s_nil ?_ | refine c_true rfl ?_ | refine c_false rfl ?_ | refine s_pur (p_move rfl) rfl ?_ | refine s_pur (p_assign rfl) rfl ?_ | refine s_pur (p_nil rfl) rfl ?_ | refine s_pur (p_pick_t rfl rfl) rfl ?_ | refine s_pur (p_pick_f rfl rfl) rfl ?_ | refine s_pur (p_len rfl Yba.underlying24) rfl ?_ | refine s_pur (p_idx1 rfl rfl rfl (by omega) Yba.underlying24 Yba.sizeOf3) rfl ?_ | refine s_pur (p_len rfl Yba.underlying28) rfl ?_ | refine s_pur (p_idx1 rfl rfl rfl (by omega) Yba.underlying28 Yba.sizeOf29) rfl ?_ | refine s_pur (p_load rfl Yba.isAgg3 (by assumption)) rfl ?_ | refine s_pur (p_load rfl Yba.isAgg29 (by assumption)) rfl ?_ | refine s_pur (p_lssT rfl rfl (by omega)) rfl ?_ | refine s_pur (p_lssF rfl rfl (by omega)) rfl ?_ | refine s_pur (p_leqT rfl rfl (by omega)) rfl ?_ | refine s_pur (p_leqF rfl rfl (by omega)) rfl ?_ | refine s_pur (p_gtrT rfl rfl (by omega)) rfl ?_ | refine s_pur (p_gtrF rfl rfl (by omega)) rfl ?_ | refine s_pur (p_geqT rfl rfl (by omega)) rfl ?_ | refine s_pur (p_geqF rfl rfl (by omega)) rfl ?_ | refine s_pur (p_eqlT rfl rfl (by omega)) rfl ?_ | refine s_pur (p_eqlF rfl rfl (by omega)) rfl ?_ | refine s_pur (p_neqT rfl rfl (by omega)) rfl ?_ | refine s_pur (p_neqF rfl rfl (by omega)) rfl ?_)
      refine s_eff0 (e_store rfl rfl rfl Yba.sizeOf29 hcy (by omega)) ?_
      rintro _ y1 u1
      repeat (first | refine c_seq ?_ | refine c_region ?_ | refine c_block ?_ | refine c_skip ?_ | refine c_exit ?_ | refine c_ret ?_ | refine n_then ?_ | refine n_block ?_ | refine x_then ?_ | refine x_block_eq ?_ | refine x_block_ne rfl ?_ | refine r_then ?_ | refine r_block ?_ | refine s_nil ?_ | refine c_true rfl ?_ | refine c_false rfl ?_ | refine s_pur (p_move rfl) rfl ?_ | refine s_pur (p_assign rfl) rfl ?_ | refine s_pur (p_nil rfl) rfl ?_ | refine s_pur (p_pick_t rfl rfl) rfl ?_ | refine s_pur (p_pick_f rfl rfl) rfl ?_ | refine s_pur (p_add rfl rfl rfl (by omega) (by omega)) rfl ?_)
      exact c_next (j + 1) ⟨hjl, loy.upd u1 (Nat.le_refl _), by have := u1.size; omega, PtrAt.set scy gcy u1 hjl rfl (fun _ _ => rfl)⟩ (by repeat (first | exact Sub.nil | refine Sub.cons rfl ?_)) (by omega)
    · have : j = p.length := by omega
      subst this
      repeat (first | refine c_seq ?_ | refine c_region ?_ | refine c_block ?_ | refine c_skip ?_ | refine c_exit ?_ | refine c_ret ?_ | refine n_then ?_ | refine n_block ?_ | refine x_then ?_ | refine x_block_eq ?_ | refine x_block_ne rfl ?_ | refine r_then ?_ | refine r_block ?_ | refine s_nil ?_ | refine c_true rfl ?_ | refine c_false rfl ?_ | refine s_pur (p_move rfl) rfl ?_ | refine s_pur (p_assign rfl) rfl ?_ | refine s_pur (p_nil rfl) rfl ?_ | refine s_pur (p_pick_t rfl rfl) rfl ?_ | refine s_pur (p_pick_f rfl rfl) rfl ?_ | refine s_pur (p_len rfl Yba.underlying24) rfl ?_ | refine s_pur (p_idx1 rfl rfl rfl (by omega) Yba.underlying24 Yba.sizeOf3) rfl ?_ | refine s_pur (p_lssT rfl rfl (by omega)) rfl ?_ | refine s_pur (p_lssF rfl rfl (by omega)) rfl ?_ | refine s_pur (p_leqT rfl rfl (by omega)) rfl ?_ | refine s_pur (p_leqF rfl rfl (by omega)) rfl ?_ | refine s_pur (p_gtrT rfl rfl (by omega)) rfl ?_ | refine s_pur (p_gtrF rfl rfl (by omega)) rfl ?_ | refine s_pur (p_geqT rfl rfl (by omega)) rfl ?_ | refine s_pur (p_geqF rfl rfl (by omega)) rfl ?_ | refine s_pur (p_eqlT rfl rfl (by omega)) rfl ?_ | refine s_pur (p_eqlF rfl rfl (by omega)) rfl ?_ | refine s_pur (p_neqT rfl rfl (by omega)) rfl ?_ | refine s_pur (p_neqF rfl rfl (by omega)) rfl ?_)
      exact m_done ⟨loy, szy, c, hcy, scy, gcy⟩ (by repeat (first | exact Sub.nil | refine Sub.cons rfl ?_))
  rintro r2 ⟨lo2, sz2, v2⟩
  refine c_mid [(1, .slice va nv vc), (5, .int .i64 4), (6, .int .i64 np), (7, .slice (some ⟨lb, 0, none⟩) np cL), (8, .slice (some ⟨mb, 0, none⟩) np cM), (10, .slice (some ⟨nb, 0, none⟩) np np), (12, .slice (some ⟨hh.size, 0, none⟩) nv nv), (13, .slice (some ⟨hh.size + 1, 0, none⟩) nv nv), (14, .slice (some ⟨hh.size + 2, 0, none⟩) nv nv), (15, .int .i64 k), (18, .slice (some ⟨g, 0, none⟩) p.length cp), (22, .pointer (some ⟨r.size + 1, 0, none⟩))] (fun x => Low r2.size r2 x ∧ x.size = r.size + 2 ∧ VisB x hh.size (r.size + 1) xb p) ?_ ?_
  · repeat (first | refine c_seq ?_ | refine c_region ?_ | refine c_block ?_ | refine c_skip ?_ | refine c_exit ?_ | refine c_ret ?_ | refine n_then ?_ | refine n_block ?_ | refine x_then ?_ | refine x_block_eq ?_ | refine x_block_ne rfl ?_ | refine r_then ?_ | refine r_block ?_ | refine s_nil ?_ | refine c_true rfl ?_ | refine c_false rfl ?_ | refine s_pur (p_move rfl) rfl ?_ | refine s_pur (p_assign rfl) rfl ?_ | refine s_pur (p_nil rfl) rfl ?_ | refine s_pur (p_pick_t rfl rfl) rfl ?_ | refine s_pur (p_pick_f rfl rfl) rfl ?_ | refine s_pur (p_build52 rfl) rfl ?_)
    refine s_eff (e_box rfl) rfl ?_
    rintro _ x ⟨rfl, nx⟩
    repeat (first | refine c_seq ?_ | refine c_region ?_ | refine c_block ?_ | refine c_skip ?_ | refine c_exit ?_ | refine c_ret ?_ | refine n_then ?_ | refine n_block ?_ | refine x_then ?_ | refine x_block_eq ?_ | refine x_block_ne rfl ?_ | refine r_then ?_ | refine r_block ?_ | refine s_nil ?_ | refine c_true rfl ?_ | refine c_false rfl ?_ | refine s_pur (p_move rfl) rfl ?_ | refine s_pur (p_assign rfl) rfl ?_ | refine s_pur (p_nil rfl) rfl ?_ | refine s_pur (p_pick_t rfl rfl) rfl ?_ | refine s_pur (p_pick_f rfl rfl) rfl ?_)
    rw [sz2]
    have lx : Low r2.size r2 x := (Low.refl _ _).new nx (Nat.le_refl _)
    have ax := nx.at_
    rw [sz2] at ax
    refine m_done ⟨by rw [← sz2]; exact lx, by have := nx.size; omega, by omega, r.size, by omega, by rw [hc_of ax]; rfl, fun j hj => ?_⟩ (by repeat (first | exact Sub.nil | refine Sub.cons rfl ?_))
    have := low_hc lx (v2.hc j hj)
    rw [Nat.zero_add] at this; exact this
  rintro r3 ⟨lo3, sz3, v3⟩
  -- everything below is as it was in q
  have loq : Low q.size q r3 := lor.then (lo2.then lo3)
  have W0 : PtrAt r3 hh.size 47 nv k vb := I.w.keep (loq.same _ (by omega))
  have F0 : PtrAt r3 (hh.size + 1) 47 nv k vb := I.f.keep (loq.same _ (by omega))
  have R0 := I.r.keep (loq.same (hh.size + 2) (by omega))
  have V0 : ∀ i, i < k → VisB r3 hh.size (vb i) xb (pks i) := fun i hi => (I.v i hi).keep fun b _ hb => loq.same b hb
  have loH3 : Low hh.size hh r3 := I.low.then loq
  have hp3 : ∀ j, j < p.length → hc r3 g (0 + j) = some (.int .i64 ((p.getD j 0 : Nat) : Int)) := fun j hj => low_hc (lo2.then lo3) (hp j hj)
  obtain ⟨cw, hcw, scw, gcw⟩ := W0
  refine c_mid [(1, .slice va nv vc), (5, .int .i64 4), (6, .int .i64 np), (7, .slice (some ⟨lb, 0, none⟩) np cL), (8, .slice (some ⟨mb, 0, none⟩) np cM), (10, .slice (some ⟨nb, 0, none⟩) np np), (12, .slice (some ⟨hh.size, 0, none⟩) nv nv), (13, .slice (some ⟨hh.size + 1, 0, none⟩) nv nv), (14, .slice (some ⟨hh.size + 2, 0, none⟩) nv nv), (15, .int .i64 k), (18, .slice (some ⟨g, 0, none⟩) p.length cp), (22, .pointer (some ⟨r.size + 1, 0, none⟩))]
    (fun x => (∀ b, b ≠ hh.size → x[b]? = r3[b]?) ∧ x.size = r3.size ∧ PtrAt x hh.size 47 nv (k + 1) (fun i => if i = k then r.size + 1 else vb i)) ?_ ?_
  · repeat (first | refine c_seq ?_ | refine c_region ?_ | refine c_block ?_ | refine c_skip ?_ | refine c_exit ?_ | refine c_ret ?_ | refine n_then ?_ | refine n_block ?_ | refine x_then ?_ | refine x_block_eq ?_ | refine x_block_ne rfl ?_ | refine r_then ?_ | refine r_block ?_ | refine s_nil ?_ | refine c_true rfl ?_ | refine c_false rfl ?_ | refine s_pur (p_move rfl) rfl ?_ | refine s_pur (p_assign rfl) rfl ?_ | refine s_pur (p_nil rfl) rfl ?_ | refine s_pur (p_pick_t rfl rfl) rfl ?_ | refine s_pur (p_pick_f rfl rfl) rfl ?_ | refine s_pur (p_len rfl Yba.underlying42) rfl ?_ | refine s_pur (p_idx1 rfl rfl rfl (by omega) Yba.underlying42 Yba.sizeOf47) rfl ?_)
    refine s_eff0 (e_store rfl rfl rfl Yba.sizeOf47 hcw (by omega)) ?_
    rintro _ x ux
    repeat (first | refine c_seq ?_ | refine c_region ?_ | refine c_block ?_ | refine c_skip ?_ | refine c_exit ?_ | refine c_ret ?_ | refine n_then ?_ | refine n_block ?_ | refine x_then ?_ | refine x_block_eq ?_ | refine x_block_ne rfl ?_ | refine r_then ?_ | refine r_block ?_ | refine s_nil ?_ | refine c_true rfl ?_ | refine c_false rfl ?_ | refine s_pur (p_move rfl) rfl ?_ | refine s_pur (p_assign rfl) rfl ?_ | refine s_pur (p_nil rfl) rfl ?_ | refine s_pur (p_pick_t rfl rfl) rfl ?_ | refine s_pur (p_pick_f rfl rfl) rfl ?_)
    exact m_done ⟨ux.other, ux.size, PtrAt.set scw gcw ux hlt (by simp) (fun i hi => by simp; omega)⟩ (by repeat (first | exact Sub.nil | refine Sub.cons rfl ?_))
  rintro r4 ⟨ot4, sz4, w4⟩
  have F4 := F0.keep (ot4 (hh.size + 1) (by omega))
  obtain ⟨cf, hcf, scf, gcf⟩ := F4
  refine c_mid [(1, .slice va nv vc), (5, .int .i64 4), (6, .int .i64 np), (7, .slice (some ⟨lb, 0, none⟩) np cL), (8, .slice (some ⟨mb, 0, none⟩) np cM), (10, .slice (some ⟨nb, 0, none⟩) np np), (12, .slice (some ⟨hh.size, 0, none⟩) nv nv), (13, .slice (some ⟨hh.size + 1, 0, none⟩) nv nv), (14, .slice (some ⟨hh.size + 2, 0, none⟩) nv nv), (15, .int .i64 k), (18, .slice (some ⟨g, 0, none⟩) p.length cp)]
    (fun x => (∀ b, b ≠ hh.size → b ≠ hh.size + 1 → x[b]? = r3[b]?) ∧ x.size = r3.size ∧ PtrAt x hh.size 47 nv (k + 1) (fun i => if i = k then r.size + 1 else vb i) ∧ PtrAt x (hh.size + 1) 47 nv (k + 1) (fun i => if i = k then r.size + 1 else vb i)) ?_ ?_
  · repeat (first | refine c_seq ?_ | refine c_region ?_ | refine c_block ?_ | refine c_skip ?_ | refine c_exit ?_ | refine c_ret ?_ | refine n_then ?_ | refine n_block ?_ | refine x_then ?_ | refine x_block_eq ?_ | refine x_block_ne rfl ?_ | refine r_then ?_ | refine r_block ?_ | refine s_nil ?_ | refine c_true rfl ?_ | refine c_false rfl ?_ | refine s_pur (p_move rfl) rfl ?_ | refine s_pur (p_assign rfl) rfl ?_ | refine s_pur (p_nil rfl) rfl ?_ | refine s_pur (p_pick_t rfl rfl) rfl ?_ | refine s_pur (p_pick_f rfl rfl) rfl ?_ | refine s_pur (p_len rfl Yba.underlying42) rfl ?_ | refine s_pur (p_idx1 rfl rfl rfl (by omega) Yba.underlying42 Yba.sizeOf47) rfl ?_)
    refine s_eff0 (e_store rfl rfl rfl Yba.sizeOf47 hcf (by omega)) ?_
    rintro _ x ux
    repeat (first | refine c_seq ?_ | refine c_region ?_ | refine c_block ?_ | refine c_skip ?_ | refine c_exit ?_ | refine c_ret ?_ | refine n_then ?_ | refine n_block ?_ | refine x_then ?_ | refine x_block_eq ?_ | refine x_block_ne rfl ?_ | refine r_then ?_ | refine r_block ?_ | refine s_nil ?_ | refine c_true rfl ?_ | refine c_false rfl ?_ | refine s_pur (p_move rfl) rfl ?_ | refine s_pur (p_assign rfl) rfl ?_ | refine s_pur (p_nil rfl) rfl ?_ | refine s_pur (p_pick_t rfl rfl) rfl ?_ | refine s_pur (p_pick_f rfl rfl) rfl ?_)
    exact m_done ⟨fun b h1 h2 => by rw [ux.other b h2]; exact ot4 b h1, by have := ux.size; omega, w4.keep (ux.other _ (by omega)), PtrAt.set scf gcf ux hlt (by simp) (fun i hi => by simp; omega)⟩ (by repeat (first | exact Sub.nil | refine Sub.cons rfl ?_))
  rintro r5 ⟨ot5, sz5, w5, f5⟩
  refine round4 D hnv hlt hpk pl1 pl4 plt ⟨by have := loH3.size; omega, fun b hb => by rw [ot5 b (by omega) (by omega)]; exact loH3.same b hb⟩ w5 f5 (R0.keep (ot5 _ (by omega) (by omega))) ?_ (fun j hj => by rw [hc_congr (ot5 g (by omega) (by omega))]; exact hp3 j hj) (by omega) (by omega) hK
  intro i hi
  by_cases e : i = k
  · simp only [e, if_true, hpk]
    exact v3.keep fun b hb _ => ot5 b (by omega) (by omega)
  · simp only [e, if_false]
    exact (V0 i (by omega)).keep fun b hb _ => ot5 b (by omega) (by omega)
end Go.Proofs.Ybulkdisg
