/-
  B5: math/big: nat.sub.
-/
import Derived.Test.YbulkdirsB5p
namespace Go.Proofs.Ybulkdirs
set_option linter.unusedSimpArgs false
set_option linter.unusedVariables false
set_option linter.unnecessarySimpa false
open Go Go.RowKit V
set_option maxRecDepth 100000


set_option maxHeartbeats 4000000 in
theorem sub11_ok (h : Heap) (base nz X Y : Nat) (zv xv yv : Value) (zs : List Value) (hz : Owns h base 45 1 zv nz zs) (hbase : base ≤ h.size) (hx : NV h base xv X) (hy : NV h base yv Y) (lx : (dg X).length = 1) (ly : (dg Y).length = 1) (hs : Y ≤ X) :
    CallsH Yba.prog 21 #[zv, xv, yv] h (fun u h' => NRes h h' base zv u (X - Y)) := by
  have hX0 : X ≠ 0 := by intro e; subst e; simp [dg] at lx
  have hY0 : Y ≠ 0 := by intro e; subst e; simp [dg] at ly
  have ba := dg_getD_lt X hx.2
  have bb := dg_getD_lt Y hy.2
  obtain ⟨gx, cx, curx, rfl, hgx, hsx, hnx, hbx, hcx⟩ := hx.cells hX0
  obtain ⟨gy, cy, cury, rfl, hgy, hsy, hny, hby, hcy⟩ := hy.cells hY0
  rw [lx] at hnx hcx ⊢
  rw [ly] at hny hcy ⊢
  generalize hA : (fun j => (dg X).getD j 0) = a
  generalize hBB : (fun j => (dg Y).getD j 0) = b
  have ba' : ∀ j, a j < B := fun j => by rw [← hA]; exact ba j
  have bb' : ∀ j, b j < B := fun j => by rw [← hBB]; exact bb j
  have hcx' : ∀ j, j < 1 → hc h gx (0 + j) = some (.int .u64 (a j)) := fun j hj => by rw [← hA]; exact hcx j hj
  have hcy' : ∀ j, j < 1 → hc h gy (0 + j) = some (.int .u64 (b j)) := fun j hj => by rw [← hBB]; exact hcy j hj
  refine calls_of [(0, zv), (1, .slice (some ⟨gx, 0, none⟩) 1 cx), (2, .slice (some ⟨gy, 0, none⟩) 1 cy)] Yba.func21 rfl Yba.ntmps21 (by simp) (.cons rfl (.cons rfl (.cons rfl .nil))) ?_
  intro w0 hw0
  repeat (first | refine c_seq ?_ | refine c_region ?_ | refine c_block ?_ | refine c_skip ?_ | refine c_exit ?_ | refine c_ret ?_ | refine n_then ?_ | refine n_block ?_ | refine x_then ?_ | refine x_block_eq ?_ | refine x_block_ne rfl ?_ | refine r_then ?_ | refine r_block ?_ | refine s_nil ?_ | refine c_true rfl ?_ | refine c_false rfl ?_ | refine s_pur (p_move rfl) rfl ?_ | refine s_pur (p_assign rfl) rfl ?_ | refine s_pur (p_nil rfl) rfl ?_ | refine s_pur (p_pick_t rfl rfl) rfl ?_ | refine s_pur (p_pick_f rfl rfl) rfl ?_ | refine s_pur (p_len rfl Yba.underlying30) rfl ?_ | refine s_pur (p_idx1 rfl rfl rfl (by omega) Yba.underlying30 Yba.sizeOf45) rfl ?_ | refine s_pur (p_add (c := ((1 : Nat) : Int)) rfl rfl (by omega) (by omega) (by omega)) rfl ?_ | refine s_pur (p_lssT rfl rfl (by omega)) rfl ?_ | refine s_pur (p_lssF rfl rfl (by omega)) rfl ?_ | refine s_pur (p_leqT rfl rfl (by omega)) rfl ?_ | refine s_pur (p_leqF rfl rfl (by omega)) rfl ?_ | refine s_pur (p_gtrT rfl rfl (by omega)) rfl ?_ | refine s_pur (p_gtrF rfl rfl (by omega)) rfl ?_ | refine s_pur (p_geqT rfl rfl (by omega)) rfl ?_ | refine s_pur (p_geqF rfl rfl (by omega)) rfl ?_ | refine s_pur (p_eqlT rfl rfl (by omega)) rfl ?_ | refine s_pur (p_eqlF rfl rfl (by omega)) rfl ?_ | refine s_pur (p_neqT rfl rfl (by omega)) rfl ?_ | refine s_pur (p_neqF rfl rfl (by omega)) rfl ?_)
  refine s_call Yba.call26 rfl rfl (make_ok h base nz 1 zv zs hz (by omega) (by omega)) ?_
  rintro _ h1 ⟨g, c, cur, ⟨rfl, hg, hsz, hmc, hmx⟩, hm⟩
  have rd : ∀ q j v, hc h q j = some v → hc h1 q j = some v := by
    intro q j v hv
    rcases hm with ⟨_, rfl⟩ | ⟨_, nn⟩
    · exact hv
    · rw [hc_congr (nn.other q (lt_of_hc hv))]; exact hv
  have hvv := sV_ok h1 g gx gy c cx cy 1 cur a b hg (by omega) (fun j hj => rd _ _ _ (hcx' j (by omega))) (fun j hj => rd _ _ _ (hcy' j hj)) ba' bb' (by omega)
  repeat (first | refine c_seq ?_ | refine c_region ?_ | refine c_block ?_ | refine c_skip ?_ | refine c_exit ?_ | refine c_ret ?_ | refine n_then ?_ | refine n_block ?_ | refine x_then ?_ | refine x_block_eq ?_ | refine x_block_ne rfl ?_ | refine r_then ?_ | refine r_block ?_ | refine s_nil ?_ | refine c_true rfl ?_ | refine c_false rfl ?_ | refine s_pur (p_move rfl) rfl ?_ | refine s_pur (p_assign rfl) rfl ?_ | refine s_pur (p_nil rfl) rfl ?_ | refine s_pur (p_pick_t rfl rfl) rfl ?_ | refine s_pur (p_pick_f rfl rfl) rfl ?_)
  refine c_held followsM rfl ?_
  refine h_any 0 rfl (by kernel_rfl) rfl (fun _ => p_move rfl) rfl ?_
  refine h_any 1 rfl (by kernel_rfl) rfl (fun _ => p_move rfl) rfl ?_
  refine h_any 2 rfl (by kernel_rfl) rfl (fun _ => p_reslice (m := 1) rfl rfl (by omega) Yba.underlying30 Yba.sizeOf45) rfl ?_
  refine h_any 3 rfl (by kernel_rfl) rfl (fun _ => p_move rfl) rfl ?_
  refine h_any 4 rfl (by kernel_rfl) rfl (fun _ => p_move rfl) rfl ?_
  refine h_any 5 rfl (by kernel_rfl) rfl (fun _ => p_reslice (m := 1) rfl rfl (by omega) Yba.underlying30 Yba.sizeOf45) rfl ?_
  refine h_any 6 rfl (by kernel_rfl) rfl (fun _ => p_move rfl) rfl ?_
  refine h_any 7 rfl (by kernel_rfl) rfl (fun _ => p_move rfl) rfl ?_
  refine h_any 8 rfl (by kernel_rfl) rfl (fun _ => p_reslice (m := 1) rfl rfl (by omega) Yba.underlying30 Yba.sizeOf45) rfl ?_
  refine h_call' 9 rfl (by kernel_rfl) rfl Yba.call31 rfl rfl hvv ?_
  rintro _ h2 ⟨cur1, u1, s1, w1, k1, rfl⟩
  refine h_any 10 rfl (by kernel_rfl) rfl (fun _ => p_assign rfl) rfl ?_
  refine h_done (by kernel_rfl) ?_

  have c0 : sVcar a b 1 = 0 := by
    obtain ⟨_, x1b, xd⟩ := dg_len1 lx
    obtain ⟨_, y1b, yd⟩ := dg_len1 ly
    have a0 : a 0 = X := by rw [← hA]; simp [xd]
    have b0 : b 0 = Y := by rw [← hBB]; simp [yd]
    simp only [sVcar, a0, b0]
    rw [if_neg (by omega)]
  rw [c0]
  repeat (first | refine c_seq ?_ | refine c_region ?_ | refine c_block ?_ | refine c_skip ?_ | refine c_exit ?_ | refine c_ret ?_ | refine n_then ?_ | refine n_block ?_ | refine x_then ?_ | refine x_block_eq ?_ | refine x_block_ne rfl ?_ | refine r_then ?_ | refine r_block ?_ | refine s_nil ?_ | refine c_true rfl ?_ | refine c_false rfl ?_ | refine s_pur (p_move rfl) rfl ?_ | refine s_pur (p_assign rfl) rfl ?_ | refine s_pur (p_nil rfl) rfl ?_ | refine s_pur (p_pick_t rfl rfl) rfl ?_ | refine s_pur (p_pick_f rfl rfl) rfl ?_ | refine s_pur (p_lssT rfl rfl (by omega)) rfl ?_ | refine s_pur (p_lssF rfl rfl (by omega)) rfl ?_ | refine s_pur (p_leqT rfl rfl (by omega)) rfl ?_ | refine s_pur (p_leqF rfl rfl (by omega)) rfl ?_ | refine s_pur (p_gtrT rfl rfl (by omega)) rfl ?_ | refine s_pur (p_gtrF rfl rfl (by omega)) rfl ?_ | refine s_pur (p_geqT rfl rfl (by omega)) rfl ?_ | refine s_pur (p_geqF rfl rfl (by omega)) rfl ?_ | refine s_pur (p_eqlT rfl rfl (by omega)) rfl ?_ | refine s_pur (p_eqlF rfl rfl (by omega)) rfl ?_ | refine s_pur (p_neqT rfl rfl (by omega)) rfl ?_ | refine s_pur (p_neqF rfl rfl (by omega)) rfl ?_)
  have fcell : ∀ j, j < 1 → cur1[j]? = some (wd ((fun j => sVwrd a b 0) j)) := by
    intro j hj
    have : j = 0 := by omega
    subst this
    exact w1 0 (by omega)
  have hnorm := norm_ok h2 (some ⟨g, 0, none⟩) 1 c (fun j => sVwrd a b 0) (fun j hj => ⟨g, rfl, by rw [hc_of u1.at_, show 0 + j = j from Nat.zero_add j]; exact fcell j hj⟩) (by omega) (by omega)
  refine s_call Yba.call29 rfl rfl hnorm ?_
  rintro _ _ ⟨rfl, rfl⟩
  repeat (first | refine c_seq ?_ | refine c_region ?_ | refine c_block ?_ | refine c_skip ?_ | refine c_exit ?_ | refine c_ret ?_ | refine n_then ?_ | refine n_block ?_ | refine x_then ?_ | refine x_block_eq ?_ | refine x_block_ne rfl ?_ | refine r_then ?_ | refine r_block ?_ | refine s_nil ?_ | refine c_true rfl ?_ | refine c_false rfl ?_ | refine s_pur (p_move rfl) rfl ?_ | refine s_pur (p_assign rfl) rfl ?_ | refine s_pur (p_nil rfl) rfl ?_ | refine s_pur (p_pick_t rfl rfl) rfl ?_ | refine s_pur (p_pick_f rfl rfl) rfl ?_)
  refine ret1 Yba.results21 rfl (nres_mk hz hbase hm (fun q hq => by rw [u1.other q hq]) (by have := u1.size; omega) u1.at_ (by first | omega | (simp; omega)) (by omega) hmx fcell ?_ (by have := hx.2; omega))
  obtain ⟨_, x1b, xd⟩ := dg_len1 lx
  obtain ⟨_, y1b, yd⟩ := dg_len1 ly
  have a0 : a 0 = X := by rw [← hA]; simp [xd]
  have b0 : b 0 = Y := by rw [← hBB]; simp [yd]
  simp only [sVwrd, sVcar, a0, b0]
  exact nd1 (Nat.mod_lt _ B_pos) (pS11 x1b hs)

set_option maxHeartbeats 4000000 in
theorem sub21_ok (h : Heap) (base nz X Y : Nat) (zv xv yv : Value) (zs : List Value) (hz : Owns h base 45 1 zv nz zs) (hbase : base ≤ h.size) (hx : NV h base xv X) (hy : NV h base yv Y) (lx : (dg X).length = 2) (ly : (dg Y).length = 1) (hs : Y ≤ X) :
    CallsH Yba.prog 21 #[zv, xv, yv] h (fun u h' => NRes h h' base zv u (X - Y)) := by
  have hX0 : X ≠ 0 := by intro e; subst e; simp [dg] at lx
  have hY0 : Y ≠ 0 := by intro e; subst e; simp [dg] at ly
  have ba := dg_getD_lt X hx.2
  have bb := dg_getD_lt Y hy.2
  obtain ⟨gx, cx, curx, rfl, hgx, hsx, hnx, hbx, hcx⟩ := hx.cells hX0
  obtain ⟨gy, cy, cury, rfl, hgy, hsy, hny, hby, hcy⟩ := hy.cells hY0
  rw [lx] at hnx hcx ⊢
  rw [ly] at hny hcy ⊢
  generalize hA : (fun j => (dg X).getD j 0) = a
  generalize hBB : (fun j => (dg Y).getD j 0) = b
  have ba' : ∀ j, a j < B := fun j => by rw [← hA]; exact ba j
  have bb' : ∀ j, b j < B := fun j => by rw [← hBB]; exact bb j
  have hcx' : ∀ j, j < 2 → hc h gx (0 + j) = some (.int .u64 (a j)) := fun j hj => by rw [← hA]; exact hcx j hj
  have hcy' : ∀ j, j < 1 → hc h gy (0 + j) = some (.int .u64 (b j)) := fun j hj => by rw [← hBB]; exact hcy j hj
  refine calls_of [(0, zv), (1, .slice (some ⟨gx, 0, none⟩) 2 cx), (2, .slice (some ⟨gy, 0, none⟩) 1 cy)] Yba.func21 rfl Yba.ntmps21 (by simp) (.cons rfl (.cons rfl (.cons rfl .nil))) ?_
  intro w0 hw0
  repeat (first | refine c_seq ?_ | refine c_region ?_ | refine c_block ?_ | refine c_skip ?_ | refine c_exit ?_ | refine c_ret ?_ | refine n_then ?_ | refine n_block ?_ | refine x_then ?_ | refine x_block_eq ?_ | refine x_block_ne rfl ?_ | refine r_then ?_ | refine r_block ?_ | refine s_nil ?_ | refine c_true rfl ?_ | refine c_false rfl ?_ | refine s_pur (p_move rfl) rfl ?_ | refine s_pur (p_assign rfl) rfl ?_ | refine s_pur (p_nil rfl) rfl ?_ | refine s_pur (p_pick_t rfl rfl) rfl ?_ | refine s_pur (p_pick_f rfl rfl) rfl ?_ | refine s_pur (p_len rfl Yba.underlying30) rfl ?_ | refine s_pur (p_idx1 rfl rfl rfl (by omega) Yba.underlying30 Yba.sizeOf45) rfl ?_ | refine s_pur (p_add (c := ((2 : Nat) : Int)) rfl rfl (by omega) (by omega) (by omega)) rfl ?_ | refine s_pur (p_lssT rfl rfl (by omega)) rfl ?_ | refine s_pur (p_lssF rfl rfl (by omega)) rfl ?_ | refine s_pur (p_leqT rfl rfl (by omega)) rfl ?_ | refine s_pur (p_leqF rfl rfl (by omega)) rfl ?_ | refine s_pur (p_gtrT rfl rfl (by omega)) rfl ?_ | refine s_pur (p_gtrF rfl rfl (by omega)) rfl ?_ | refine s_pur (p_geqT rfl rfl (by omega)) rfl ?_ | refine s_pur (p_geqF rfl rfl (by omega)) rfl ?_ | refine s_pur (p_eqlT rfl rfl (by omega)) rfl ?_ | refine s_pur (p_eqlF rfl rfl (by omega)) rfl ?_ | refine s_pur (p_neqT rfl rfl (by omega)) rfl ?_ | refine s_pur (p_neqF rfl rfl (by omega)) rfl ?_)
  refine s_call Yba.call26 rfl rfl (make_ok h base nz 2 zv zs hz (by omega) (by omega)) ?_
  rintro _ h1 ⟨g, c, cur, ⟨rfl, hg, hsz, hmc, hmx⟩, hm⟩
  have rd : ∀ q j v, hc h q j = some v → hc h1 q j = some v := by
    intro q j v hv
    rcases hm with ⟨_, rfl⟩ | ⟨_, nn⟩
    · exact hv
    · rw [hc_congr (nn.other q (lt_of_hc hv))]; exact hv
  have hvv := sV_ok h1 g gx gy c cx cy 1 cur a b hg (by omega) (fun j hj => rd _ _ _ (hcx' j (by omega))) (fun j hj => rd _ _ _ (hcy' j hj)) ba' bb' (by omega)
  repeat (first | refine c_seq ?_ | refine c_region ?_ | refine c_block ?_ | refine c_skip ?_ | refine c_exit ?_ | refine c_ret ?_ | refine n_then ?_ | refine n_block ?_ | refine x_then ?_ | refine x_block_eq ?_ | refine x_block_ne rfl ?_ | refine r_then ?_ | refine r_block ?_ | refine s_nil ?_ | refine c_true rfl ?_ | refine c_false rfl ?_ | refine s_pur (p_move rfl) rfl ?_ | refine s_pur (p_assign rfl) rfl ?_ | refine s_pur (p_nil rfl) rfl ?_ | refine s_pur (p_pick_t rfl rfl) rfl ?_ | refine s_pur (p_pick_f rfl rfl) rfl ?_)
  refine c_held followsM rfl ?_
  refine h_any 0 rfl (by kernel_rfl) rfl (fun _ => p_move rfl) rfl ?_
  refine h_any 1 rfl (by kernel_rfl) rfl (fun _ => p_move rfl) rfl ?_
  refine h_any 2 rfl (by kernel_rfl) rfl (fun _ => p_reslice (m := 1) rfl rfl (by omega) Yba.underlying30 Yba.sizeOf45) rfl ?_
  refine h_any 3 rfl (by kernel_rfl) rfl (fun _ => p_move rfl) rfl ?_
  refine h_any 4 rfl (by kernel_rfl) rfl (fun _ => p_move rfl) rfl ?_
  refine h_any 5 rfl (by kernel_rfl) rfl (fun _ => p_reslice (m := 1) rfl rfl (by omega) Yba.underlying30 Yba.sizeOf45) rfl ?_
  refine h_any 6 rfl (by kernel_rfl) rfl (fun _ => p_move rfl) rfl ?_
  refine h_any 7 rfl (by kernel_rfl) rfl (fun _ => p_move rfl) rfl ?_
  refine h_any 8 rfl (by kernel_rfl) rfl (fun _ => p_reslice (m := 1) rfl rfl (by omega) Yba.underlying30 Yba.sizeOf45) rfl ?_
  refine h_call' 9 rfl (by kernel_rfl) rfl Yba.call31 rfl rfl hvv ?_
  rintro _ h2 ⟨cur1, u1, s1, w1, k1, rfl⟩
  refine h_any 10 rfl (by kernel_rfl) rfl (fun _ => p_assign rfl) rfl ?_
  refine h_done (by kernel_rfl) ?_
  have x1 : hc h2 gx (0 + 1 + 0) = some (.int .u64 (a 1)) := by
    by_cases e : gx = g
    · subst e
      rw [hc_of u1.at_, k1 (0 + 1 + 0) (by omega)]
      have := rd _ _ _ (hcx' 1 (by omega))
      rw [hc_of hg] at this
      exact this
    · rw [hc_congr (u1.other gx e)]; exact rd _ _ _ (hcx' 1 (by omega))
  have bx2 : ∃ curx', h2[gx]? = some (.cells curx' 45 (0, 0)) := by
    by_cases e : gx = g
    · subst e; exact ⟨_, u1.at_⟩
    · refine ⟨curx, ?_⟩
      rw [u1.other gx e]
      rcases hm with ⟨_, rfl⟩ | ⟨_, nn⟩
      · exact hgx
      · rw [nn.other gx (lt_of_get hgx)]; exact hgx
  obtain ⟨curx', bx2⟩ := bx2
  have hvw := sW_ok h2 g gx (0 + 1) (c - 1) (cx - 1) (a 1) (sVcar a b 1) cur1 curx' u1.at_ (by omega) bx2 x1 (by omega) (by omega) (sVcar_le a b ba' bb' 1) (ba' 1)
  repeat (first | refine c_seq ?_ | refine c_region ?_ | refine c_block ?_ | refine c_skip ?_ | refine c_exit ?_ | refine c_ret ?_ | refine n_then ?_ | refine n_block ?_ | refine x_then ?_ | refine x_block_eq ?_ | refine x_block_ne rfl ?_ | refine r_then ?_ | refine r_block ?_ | refine s_nil ?_ | refine c_true rfl ?_ | refine c_false rfl ?_ | refine s_pur (p_move rfl) rfl ?_ | refine s_pur (p_assign rfl) rfl ?_ | refine s_pur (p_nil rfl) rfl ?_ | refine s_pur (p_pick_t rfl rfl) rfl ?_ | refine s_pur (p_pick_f rfl rfl) rfl ?_ | refine s_pur (p_lssT rfl rfl (by omega)) rfl ?_ | refine s_pur (p_lssF rfl rfl (by omega)) rfl ?_ | refine s_pur (p_leqT rfl rfl (by omega)) rfl ?_ | refine s_pur (p_leqF rfl rfl (by omega)) rfl ?_ | refine s_pur (p_gtrT rfl rfl (by omega)) rfl ?_ | refine s_pur (p_gtrF rfl rfl (by omega)) rfl ?_ | refine s_pur (p_geqT rfl rfl (by omega)) rfl ?_ | refine s_pur (p_geqF rfl rfl (by omega)) rfl ?_ | refine s_pur (p_eqlT rfl rfl (by omega)) rfl ?_ | refine s_pur (p_eqlF rfl rfl (by omega)) rfl ?_ | refine s_pur (p_neqT rfl rfl (by omega)) rfl ?_ | refine s_pur (p_neqF rfl rfl (by omega)) rfl ?_)
  refine c_held followsM rfl ?_
  refine h_any 0 rfl (by kernel_rfl) rfl (fun _ => p_move rfl) rfl ?_
  refine h_any 1 rfl (by kernel_rfl) rfl (fun _ => p_move rfl) rfl ?_
  refine h_any 2 rfl (by kernel_rfl) rfl (fun _ => p_sliceL (p := 1) rfl rfl (by omega) (by omega) Yba.underlying30 Yba.sizeOf45) rfl ?_
  refine h_any 3 rfl (by kernel_rfl) rfl (fun _ => p_move rfl) rfl ?_
  refine h_any 4 rfl (by kernel_rfl) rfl (fun _ => p_move rfl) rfl ?_
  refine h_any 5 rfl (by kernel_rfl) rfl (fun _ => p_sliceL (p := 1) rfl rfl (by omega) (by omega) Yba.underlying30 Yba.sizeOf45) rfl ?_
  refine h_any 6 rfl (by kernel_rfl) rfl (fun _ => p_move rfl) rfl ?_
  refine h_call 7 rfl (by kernel_rfl) rfl Yba.call32 rfl rfl hvw ?_
  rintro _ h3 ⟨u2, rfl⟩
  refine h_any 8 rfl (by kernel_rfl) rfl (fun _ => p_assign rfl) rfl ?_
  refine h_done (by kernel_rfl) ?_
  have c0 : (if a 1 < sVcar a b 1 then 1 else 0) = 0 := by
    obtain ⟨xb, xd⟩ := dg_len2 lx
    obtain ⟨_, y1b, yd⟩ := dg_len1 ly
    have a0 : a 0 = X % B := by rw [← hA]; simp [xd]
    have a1 : a 1 = X / B := by rw [← hA]; simp [xd]
    have b0 : b 0 = Y := by rw [← hBB]; simp [yd]
    have hp := pS21 xb hx.2 y1b rfl
    simp only [sVcar, a0, a1, b0]
    rw [if_neg hp.1]
  rw [c0]
  repeat (first | refine c_seq ?_ | refine c_region ?_ | refine c_block ?_ | refine c_skip ?_ | refine c_exit ?_ | refine c_ret ?_ | refine n_then ?_ | refine n_block ?_ | refine x_then ?_ | refine x_block_eq ?_ | refine x_block_ne rfl ?_ | refine r_then ?_ | refine r_block ?_ | refine s_nil ?_ | refine c_true rfl ?_ | refine c_false rfl ?_ | refine s_pur (p_move rfl) rfl ?_ | refine s_pur (p_assign rfl) rfl ?_ | refine s_pur (p_nil rfl) rfl ?_ | refine s_pur (p_pick_t rfl rfl) rfl ?_ | refine s_pur (p_pick_f rfl rfl) rfl ?_ | refine s_pur (p_lssT rfl rfl (by omega)) rfl ?_ | refine s_pur (p_lssF rfl rfl (by omega)) rfl ?_ | refine s_pur (p_leqT rfl rfl (by omega)) rfl ?_ | refine s_pur (p_leqF rfl rfl (by omega)) rfl ?_ | refine s_pur (p_gtrT rfl rfl (by omega)) rfl ?_ | refine s_pur (p_gtrF rfl rfl (by omega)) rfl ?_ | refine s_pur (p_geqT rfl rfl (by omega)) rfl ?_ | refine s_pur (p_geqF rfl rfl (by omega)) rfl ?_ | refine s_pur (p_eqlT rfl rfl (by omega)) rfl ?_ | refine s_pur (p_eqlF rfl rfl (by omega)) rfl ?_ | refine s_pur (p_neqT rfl rfl (by omega)) rfl ?_ | refine s_pur (p_neqF rfl rfl (by omega)) rfl ?_)
  have fcell : ∀ j, j < 2 → (cur1.setIfInBounds (0 + 1 + 0) (.int .u64 (((a 1 + B - sVcar a b 1) % B : Nat) : Int)))[j]? = some (wd ((fun j => if j = 0 then sVwrd a b 0 else (a 1 + B - sVcar a b 1) % B) j)) := by
    intro j hj
    rcases (by omega : j = 0 ∨ j = 1) with rfl | rfl
    · rw [Array.getElem?_setIfInBounds, if_neg (by omega)]
      simp only [if_true]
      exact w1 0 (by omega)
    · rw [Array.getElem?_setIfInBounds, if_pos (by omega), if_pos (by omega)]
      simp only [Nat.one_ne_zero, if_false]
      rfl
  have hnorm := norm_ok h3 (some ⟨g, 0, none⟩) 2 c (fun j => if j = 0 then sVwrd a b 0 else (a 1 + B - sVcar a b 1) % B) (fun j hj => ⟨g, rfl, by rw [hc_of u2.at_, show 0 + j = j from Nat.zero_add j]; exact fcell j hj⟩) (by omega) (by omega)
  refine s_call Yba.call29 rfl rfl hnorm ?_
  rintro _ _ ⟨rfl, rfl⟩
  repeat (first | refine c_seq ?_ | refine c_region ?_ | refine c_block ?_ | refine c_skip ?_ | refine c_exit ?_ | refine c_ret ?_ | refine n_then ?_ | refine n_block ?_ | refine x_then ?_ | refine x_block_eq ?_ | refine x_block_ne rfl ?_ | refine r_then ?_ | refine r_block ?_ | refine s_nil ?_ | refine c_true rfl ?_ | refine c_false rfl ?_ | refine s_pur (p_move rfl) rfl ?_ | refine s_pur (p_assign rfl) rfl ?_ | refine s_pur (p_nil rfl) rfl ?_ | refine s_pur (p_pick_t rfl rfl) rfl ?_ | refine s_pur (p_pick_f rfl rfl) rfl ?_)
  refine ret1 Yba.results21 rfl (nres_mk hz hbase hm (fun q hq => by rw [u2.other q hq, u1.other q hq]) (by have := u2.size; have := u1.size; omega) u2.at_ (by first | omega | (simp; omega)) (by omega) hmx fcell ?_ (by have := hx.2; omega))
  obtain ⟨xb, xd⟩ := dg_len2 lx
  obtain ⟨_, y1b, yd⟩ := dg_len1 ly
  have a0 : a 0 = X % B := by rw [← hA]; simp [xd]
  have a1 : a 1 = X / B := by rw [← hA]; simp [xd]
  have b0 : b 0 = Y := by rw [← hBB]; simp [yd]
  have hp := pS21 xb hx.2 y1b rfl
  simp only [sVwrd, sVcar, a0, a1, b0]
  refine nd2 ?_ ?_ ?_
  · simp only [if_true]; exact Nat.mod_lt _ B_pos
  · simp only [Nat.one_ne_zero, if_false]; exact Nat.mod_lt _ B_pos
  · simp only [if_true, Nat.one_ne_zero, if_false]; exact hp.2

set_option maxHeartbeats 4000000 in
theorem sub22_ok (h : Heap) (base nz X Y : Nat) (zv xv yv : Value) (zs : List Value) (hz : Owns h base 45 1 zv nz zs) (hbase : base ≤ h.size) (hx : NV h base xv X) (hy : NV h base yv Y) (lx : (dg X).length = 2) (ly : (dg Y).length = 2) (hs : Y ≤ X) :
    CallsH Yba.prog 21 #[zv, xv, yv] h (fun u h' => NRes h h' base zv u (X - Y)) := by
  have hX0 : X ≠ 0 := by intro e; subst e; simp [dg] at lx
  have hY0 : Y ≠ 0 := by intro e; subst e; simp [dg] at ly
  have ba := dg_getD_lt X hx.2
  have bb := dg_getD_lt Y hy.2
  obtain ⟨gx, cx, curx, rfl, hgx, hsx, hnx, hbx, hcx⟩ := hx.cells hX0
  obtain ⟨gy, cy, cury, rfl, hgy, hsy, hny, hby, hcy⟩ := hy.cells hY0
  rw [lx] at hnx hcx ⊢
  rw [ly] at hny hcy ⊢
  generalize hA : (fun j => (dg X).getD j 0) = a
  generalize hBB : (fun j => (dg Y).getD j 0) = b
  have ba' : ∀ j, a j < B := fun j => by rw [← hA]; exact ba j
  have bb' : ∀ j, b j < B := fun j => by rw [← hBB]; exact bb j
  have hcx' : ∀ j, j < 2 → hc h gx (0 + j) = some (.int .u64 (a j)) := fun j hj => by rw [← hA]; exact hcx j hj
  have hcy' : ∀ j, j < 2 → hc h gy (0 + j) = some (.int .u64 (b j)) := fun j hj => by rw [← hBB]; exact hcy j hj
  refine calls_of [(0, zv), (1, .slice (some ⟨gx, 0, none⟩) 2 cx), (2, .slice (some ⟨gy, 0, none⟩) 2 cy)] Yba.func21 rfl Yba.ntmps21 (by simp) (.cons rfl (.cons rfl (.cons rfl .nil))) ?_
  intro w0 hw0
  repeat (first | refine c_seq ?_ | refine c_region ?_ | refine c_block ?_ | refine c_skip ?_ | refine c_exit ?_ | refine c_ret ?_ | refine n_then ?_ | refine n_block ?_ | refine x_then ?_ | refine x_block_eq ?_ | refine x_block_ne rfl ?_ | refine r_then ?_ | refine r_block ?_ | refine s_nil ?_ | refine c_true rfl ?_ | refine c_false rfl ?_ | refine s_pur (p_move rfl) rfl ?_ | refine s_pur (p_assign rfl) rfl ?_ | refine s_pur (p_nil rfl) rfl ?_ | refine s_pur (p_pick_t rfl rfl) rfl ?_ | refine s_pur (p_pick_f rfl rfl) rfl ?_ | refine s_pur (p_len rfl Yba.underlying30) rfl ?_ | refine s_pur (p_idx1 rfl rfl rfl (by omega) Yba.underlying30 Yba.sizeOf45) rfl ?_ | refine s_pur (p_add (c := ((2 : Nat) : Int)) rfl rfl (by omega) (by omega) (by omega)) rfl ?_ | refine s_pur (p_lssT rfl rfl (by omega)) rfl ?_ | refine s_pur (p_lssF rfl rfl (by omega)) rfl ?_ | refine s_pur (p_leqT rfl rfl (by omega)) rfl ?_ | refine s_pur (p_leqF rfl rfl (by omega)) rfl ?_ | refine s_pur (p_gtrT rfl rfl (by omega)) rfl ?_ | refine s_pur (p_gtrF rfl rfl (by omega)) rfl ?_ | refine s_pur (p_geqT rfl rfl (by omega)) rfl ?_ | refine s_pur (p_geqF rfl rfl (by omega)) rfl ?_ | refine s_pur (p_eqlT rfl rfl (by omega)) rfl ?_ | refine s_pur (p_eqlF rfl rfl (by omega)) rfl ?_ | refine s_pur (p_neqT rfl rfl (by omega)) rfl ?_ | refine s_pur (p_neqF rfl rfl (by omega)) rfl ?_)
  refine s_call Yba.call26 rfl rfl (make_ok h base nz 2 zv zs hz (by omega) (by omega)) ?_
  rintro _ h1 ⟨g, c, cur, ⟨rfl, hg, hsz, hmc, hmx⟩, hm⟩
  have rd : ∀ q j v, hc h q j = some v → hc h1 q j = some v := by
    intro q j v hv
    rcases hm with ⟨_, rfl⟩ | ⟨_, nn⟩
    · exact hv
    · rw [hc_congr (nn.other q (lt_of_hc hv))]; exact hv
  have hvv := sV_ok h1 g gx gy c cx cy 2 cur a b hg (by omega) (fun j hj => rd _ _ _ (hcx' j (by omega))) (fun j hj => rd _ _ _ (hcy' j hj)) ba' bb' (by omega)
  repeat (first | refine c_seq ?_ | refine c_region ?_ | refine c_block ?_ | refine c_skip ?_ | refine c_exit ?_ | refine c_ret ?_ | refine n_then ?_ | refine n_block ?_ | refine x_then ?_ | refine x_block_eq ?_ | refine x_block_ne rfl ?_ | refine r_then ?_ | refine r_block ?_ | refine s_nil ?_ | refine c_true rfl ?_ | refine c_false rfl ?_ | refine s_pur (p_move rfl) rfl ?_ | refine s_pur (p_assign rfl) rfl ?_ | refine s_pur (p_nil rfl) rfl ?_ | refine s_pur (p_pick_t rfl rfl) rfl ?_ | refine s_pur (p_pick_f rfl rfl) rfl ?_)
  refine c_held followsM rfl ?_
  refine h_any 0 rfl (by kernel_rfl) rfl (fun _ => p_move rfl) rfl ?_
  refine h_any 1 rfl (by kernel_rfl) rfl (fun _ => p_move rfl) rfl ?_
  refine h_any 2 rfl (by kernel_rfl) rfl (fun _ => p_reslice (m := 2) rfl rfl (by omega) Yba.underlying30 Yba.sizeOf45) rfl ?_
  refine h_any 3 rfl (by kernel_rfl) rfl (fun _ => p_move rfl) rfl ?_
  refine h_any 4 rfl (by kernel_rfl) rfl (fun _ => p_move rfl) rfl ?_
  refine h_any 5 rfl (by kernel_rfl) rfl (fun _ => p_reslice (m := 2) rfl rfl (by omega) Yba.underlying30 Yba.sizeOf45) rfl ?_
  refine h_any 6 rfl (by kernel_rfl) rfl (fun _ => p_move rfl) rfl ?_
  refine h_any 7 rfl (by kernel_rfl) rfl (fun _ => p_move rfl) rfl ?_
  refine h_any 8 rfl (by kernel_rfl) rfl (fun _ => p_reslice (m := 2) rfl rfl (by omega) Yba.underlying30 Yba.sizeOf45) rfl ?_
  refine h_call' 9 rfl (by kernel_rfl) rfl Yba.call31 rfl rfl hvv ?_
  rintro _ h2 ⟨cur1, u1, s1, w1, k1, rfl⟩
  refine h_any 10 rfl (by kernel_rfl) rfl (fun _ => p_assign rfl) rfl ?_
  refine h_done (by kernel_rfl) ?_

  have c0 : sVcar a b 2 = 0 := by
    obtain ⟨xb, xd⟩ := dg_len2 lx
    obtain ⟨yb, yd⟩ := dg_len2 ly
    have a0 : a 0 = X % B := by rw [← hA]; simp [xd]
    have a1 : a 1 = X / B := by rw [← hA]; simp [xd]
    have b0 : b 0 = Y % B := by rw [← hBB]; simp [yd]
    have b1 : b 1 = Y / B := by rw [← hBB]; simp [yd]
    have hp := pS22 hx.2 yb hs rfl
    simp only [sVcar, a0, a1, b0, b1]
    rw [if_neg hp.1]
  rw [c0]
  repeat (first | refine c_seq ?_ | refine c_region ?_ | refine c_block ?_ | refine c_skip ?_ | refine c_exit ?_ | refine c_ret ?_ | refine n_then ?_ | refine n_block ?_ | refine x_then ?_ | refine x_block_eq ?_ | refine x_block_ne rfl ?_ | refine r_then ?_ | refine r_block ?_ | refine s_nil ?_ | refine c_true rfl ?_ | refine c_false rfl ?_ | refine s_pur (p_move rfl) rfl ?_ | refine s_pur (p_assign rfl) rfl ?_ | refine s_pur (p_nil rfl) rfl ?_ | refine s_pur (p_pick_t rfl rfl) rfl ?_ | refine s_pur (p_pick_f rfl rfl) rfl ?_ | refine s_pur (p_lssT rfl rfl (by omega)) rfl ?_ | refine s_pur (p_lssF rfl rfl (by omega)) rfl ?_ | refine s_pur (p_leqT rfl rfl (by omega)) rfl ?_ | refine s_pur (p_leqF rfl rfl (by omega)) rfl ?_ | refine s_pur (p_gtrT rfl rfl (by omega)) rfl ?_ | refine s_pur (p_gtrF rfl rfl (by omega)) rfl ?_ | refine s_pur (p_geqT rfl rfl (by omega)) rfl ?_ | refine s_pur (p_geqF rfl rfl (by omega)) rfl ?_ | refine s_pur (p_eqlT rfl rfl (by omega)) rfl ?_ | refine s_pur (p_eqlF rfl rfl (by omega)) rfl ?_ | refine s_pur (p_neqT rfl rfl (by omega)) rfl ?_ | refine s_pur (p_neqF rfl rfl (by omega)) rfl ?_)
  have fcell : ∀ j, j < 2 → cur1[j]? = some (wd ((fun j => if j = 0 then sVwrd a b 0 else sVwrd a b 1) j)) := by
    intro j hj
    rcases (by omega : j = 0 ∨ j = 1) with rfl | rfl
    · simp only [if_true]
      exact w1 0 (by omega)
    · simp only [Nat.one_ne_zero, if_false]
      exact w1 1 (by omega)
  have hnorm := norm_ok h2 (some ⟨g, 0, none⟩) 2 c (fun j => if j = 0 then sVwrd a b 0 else sVwrd a b 1) (fun j hj => ⟨g, rfl, by rw [hc_of u1.at_, show 0 + j = j from Nat.zero_add j]; exact fcell j hj⟩) (by omega) (by omega)
  refine s_call Yba.call29 rfl rfl hnorm ?_
  rintro _ _ ⟨rfl, rfl⟩
  repeat (first | refine c_seq ?_ | refine c_region ?_ | refine c_block ?_ | refine c_skip ?_ | refine c_exit ?_ | refine c_ret ?_ | refine n_then ?_ | refine n_block ?_ | refine x_then ?_ | refine x_block_eq ?_ | refine x_block_ne rfl ?_ | refine r_then ?_ | refine r_block ?_ | refine s_nil ?_ | refine c_true rfl ?_ | refine c_false rfl ?_ | refine s_pur (p_move rfl) rfl ?_ | refine s_pur (p_assign rfl) rfl ?_ | refine s_pur (p_nil rfl) rfl ?_ | refine s_pur (p_pick_t rfl rfl) rfl ?_ | refine s_pur (p_pick_f rfl rfl) rfl ?_)
  refine ret1 Yba.results21 rfl (nres_mk hz hbase hm (fun q hq => by rw [u1.other q hq]) (by have := u1.size; omega) u1.at_ (by first | omega | (simp; omega)) (by omega) hmx fcell ?_ (by have := hx.2; omega))
  obtain ⟨xb, xd⟩ := dg_len2 lx
  obtain ⟨yb, yd⟩ := dg_len2 ly
  have a0 : a 0 = X % B := by rw [← hA]; simp [xd]
  have a1 : a 1 = X / B := by rw [← hA]; simp [xd]
  have b0 : b 0 = Y % B := by rw [← hBB]; simp [yd]
  have b1 : b 1 = Y / B := by rw [← hBB]; simp [yd]
  have hp := pS22 hx.2 yb hs rfl
  simp only [sVwrd, sVcar, a0, a1, b0, b1]
  refine nd2 ?_ ?_ ?_
  · simp only [if_true]; exact Nat.mod_lt _ B_pos
  · simp only [Nat.one_ne_zero, if_false]; exact Nat.mod_lt _ B_pos
  · simp only [if_true, Nat.one_ne_zero, if_false]; exact hp.2
end Go.Proofs.Ybulkdirs
