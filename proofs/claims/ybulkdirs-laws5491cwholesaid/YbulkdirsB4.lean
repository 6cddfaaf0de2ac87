/-
  B4: math/big: nat.add, nat.sub.
-/
import Derived.Test.YbulkdirsB3
namespace Go.Proofs.Ybulkdirs
set_option linter.unusedSimpArgs false
set_option linter.unusedVariables false
set_option linter.unnecessarySimpa false
open Go Go.RowKit V
set_option maxRecDepth 100000

/-- The words a 0 .. a (n-1), without the zeros at the top, are V's. -/
def NDg (a : Nat → Nat) (n V : Nat) : Prop := nrm a n = (dg V).length ∧ ∀ j, j < (dg V).length → a j = (dg V).getD j 0
theorem nd1 {a : Nat → Nat} {V : Nat} (h0 : a 0 < B) (hV : a 0 = V) : NDg a 1 V := by
  by_cases e : V = 0
  · subst e; exact ⟨by simp [nrm, hV, dg], fun j hj => by simp [dg] at hj⟩
  · rw [NDg, dg_1 e (by omega)]
    refine ⟨by simp [nrm, hV, e], fun j hj => ?_⟩
    have : j = 0 := by simpa using hj
    subst this; simpa using hV
theorem nd2 {a : Nat → Nat} {V : Nat} (h0 : a 0 < B) (h1 : a 1 < B) (hV : a 0 + a 1 * B = V) : NDg a 2 V := by
  by_cases e : a 1 = 0
  · have : nrm a 2 = nrm a 1 := by simp [nrm, e]
    have h := nd1 (a := a) (V := V) h0 (by rw [← hV, e]; omega)
    exact ⟨by rw [this]; exact h.1, h.2⟩
  · have hb : B ≤ V := by rw [← hV]; simp only [B] at *; omega
    rw [NDg, dg_2 hb]
    refine ⟨by simp [nrm, e], fun j hj => ?_⟩
    have h2 : V % B = a 0 := by rw [← hV]; simp only [B] at *; omega
    have h3 : V / B = a 1 := by rw [← hV]; simp only [B] at *; omega
    rcases (by simp at hj; omega : j = 0 ∨ j = 1) with rfl | rfl
    · simp [h2]
    · simp [h3]
theorem nd3 {a : Nat → Nat} {V : Nat} (h0 : a 0 < B) (h1 : a 1 < B) (h2 : a 2 = 0) (hV : a 0 + a 1 * B = V) : NDg a 3 V := by
  have : nrm a 3 = nrm a 2 := by simp [nrm, h2]
  have h := nd2 (a := a) (V := V) h0 h1 hV
  exact ⟨by rw [this]; exact h.1, h.2⟩
theorem dg_getD_lt (V : Nat) (hV : V < B * B) (j : Nat) : (dg V).getD j 0 < B := by
  by_cases h0 : V = 0
  · subst h0; simp [dg, B]
  · by_cases h1 : V < B
    · rw [dg_1 h0 h1]
      match j with
      | 0 => simpa using h1
      | j + 1 => simp [B]
    · rw [dg_2 (by omega)]
      match j with
      | 0 => simp; exact Nat.mod_lt _ (by simp [B])
      | 1 => simp; exact Nat.div_lt_of_lt_mul hV
      | j + 2 => simp [B]
theorem dg_len1 {V : Nat} (h : (dg V).length = 1) : V ≠ 0 ∧ V < B ∧ dg V = [V] := by
  by_cases h0 : V = 0
  · subst h0; simp [dg] at h
  · by_cases h1 : V < B
    · exact ⟨h0, h1, dg_1 h0 h1⟩
    · rw [dg_2 (by omega)] at h; simp at h
theorem dg_len2 {V : Nat} (h : (dg V).length = 2) : B ≤ V ∧ dg V = [V % B, V / B] := by
  by_cases h0 : V = 0
  · subst h0; simp [dg] at h
  · by_cases h1 : V < B
    · rw [dg_1 h0 h1] at h; simp at h
    · exact ⟨by omega, dg_2 (by omega)⟩
theorem dg_len0 {V : Nat} (h : (dg V).length = 0) : V = 0 := by
  by_cases h0 : V = 0
  · exact h0
  · by_cases h1 : V < B
    · rw [dg_1 h0 h1] at h; simp at h
    · rw [dg_2 (by omega)] at h; simp at h
theorem dg_le2 (V : Nat) : (dg V).length ≤ 2 := by unfold dg; split; simp; split <;> simp

/-- The end of nat.add and nat.sub: norm's answer is the number's words. -/
theorem nres_mk {h h1 h2 : Heap} {base g c nz n V : Nat} {zv : Value} {zs : List Value} {cur curF : Array Value} {a : Nat → Nat} (hz : Owns h base 45 1 zv nz zs) (hbase : base ≤ h.size) (hm : (zv.ownBlock = some g ∧ h1 = h) ∨ (g = h.size ∧ New h h1 (.cells cur 45)))
    (ho : ∀ b, b ≠ g → h2[b]? = h1[b]?) (hs : h2.size = h1.size) (hg : h2[g]? = some (.cells curF 45 (0, 0))) (hsz : curF.size = c) (hnc : n ≤ c) (hmx : c ≤ maxLen) (hcell : ∀ j, j < n → curF[j]? = some (wd (a j))) (hnd : NDg a n V) (hV : V < B * B) :
    NRes h h2 base zv (.slice (some ⟨g, 0, none⟩) (nrm a n) c) V := by
  have hle := nrm_le a n
  rw [hnd.1] at hle ⊢
  exact ⟨⟨owns_mk (mk_base hz hbase hm) hg hsz (by omega) hmx (fun j hj => by rw [hcell j (by omega), hnd.2 j hj]), hV⟩, mk_grow hm ho hs _ c⟩

set_option maxHeartbeats 4000000 in
theorem add11_ok (h : Heap) (base nz X Y : Nat) (zv xv yv : Value) (zs : List Value) (hz : Owns h base 45 1 zv nz zs) (hbase : base ≤ h.size) (hx : NV h base xv X) (hy : NV h base yv Y) (lx : (dg X).length = 1) (ly : (dg Y).length = 1) (hs : X + Y < B * B) :
    CallsH Yba.prog 20 #[zv, xv, yv] h (fun u h' => NRes h h' base zv u (X + Y)) := by
  have hX0 : X ≠ 0 := by intro e; subst e; simp [dg] at lx
  have hY0 : Y ≠ 0 := by intro e; subst e; simp [dg] at ly
  have ba := dg_getD_lt X hx.2
  have bb := dg_getD_lt Y hy.2
  obtain ⟨gx, cx, curx, rfl, hgx, hsx, hnx, hbx, hcx⟩ := hx.cells hX0
  obtain ⟨gy, cy, cury, rfl, hgy, hsy, hny, hby, hcy⟩ := hy.cells hY0
  rw [lx] at hnx hcx ⊢
  rw [ly] at hny hcy ⊢
  generalize hA : (fun j => (dg X).getD j 0) = a
  generalize hBB : (fun j => (dg Y).getD j 0) = b
  have ba' : ∀ j, a j < B := fun j => by rw [← hA]; exact ba j
  have bb' : ∀ j, b j < B := fun j => by rw [← hBB]; exact bb j
  have hcx' : ∀ j, j < 1 → hc h gx (0 + j) = some (.int .u64 (a j)) := fun j hj => by rw [← hA]; exact hcx j hj
  have hcy' : ∀ j, j < 1 → hc h gy (0 + j) = some (.int .u64 (b j)) := fun j hj => by rw [← hBB]; exact hcy j hj
  refine calls_of [(0, zv), (1, .slice (some ⟨gx, 0, none⟩) 1 cx), (2, .slice (some ⟨gy, 0, none⟩) 1 cy)] Yba.func20 rfl Yba.ntmps20 (by simp) (.cons rfl (.cons rfl (.cons rfl .nil))) ?_
  intro w0 hw0
  repeat (first | refine c_seq ?_ | refine c_region ?_ | refine c_block ?_ | refine c_skip ?_ | refine c_exit ?_ | refine c_ret ?_ | refine n_then ?_ | refine n_block ?_ | refine x_then ?_ | refine x_block_eq ?_ | refine x_block_ne rfl ?_ | refine r_then ?_ | refine r_block ?_ | refine s_nil ?_ | refine c_true rfl ?_ | refine c_false rfl ?_ | refine s_pur (p_move rfl) rfl ?_ | refine s_pur (p_assign rfl) rfl ?_ | refine s_pur (p_nil rfl) rfl ?_ | refine s_pur (p_pick_t rfl rfl) rfl ?_ | refine s_pur (p_pick_f rfl rfl) rfl ?_ | refine s_pur (p_len rfl Yba.underlying30) rfl ?_ | refine s_pur (p_idx1 rfl rfl rfl (by omega) Yba.underlying30 Yba.sizeOf45) rfl ?_ | refine s_pur (p_add (c := ((2 : Nat) : Int)) rfl rfl (by omega) (by omega) (by omega)) rfl ?_ | refine s_pur (p_lssT rfl rfl (by omega)) rfl ?_ | refine s_pur (p_lssF rfl rfl (by omega)) rfl ?_ | refine s_pur (p_leqT rfl rfl (by omega)) rfl ?_ | refine s_pur (p_leqF rfl rfl (by omega)) rfl ?_ | refine s_pur (p_gtrT rfl rfl (by omega)) rfl ?_ | refine s_pur (p_gtrF rfl rfl (by omega)) rfl ?_ | refine s_pur (p_geqT rfl rfl (by omega)) rfl ?_ | refine s_pur (p_geqF rfl rfl (by omega)) rfl ?_ | refine s_pur (p_eqlT rfl rfl (by omega)) rfl ?_ | refine s_pur (p_eqlF rfl rfl (by omega)) rfl ?_ | refine s_pur (p_neqT rfl rfl (by omega)) rfl ?_ | refine s_pur (p_neqF rfl rfl (by omega)) rfl ?_)
  refine s_call Yba.call26 rfl rfl (make_ok h base nz 2 zv zs hz (by omega) (by omega)) ?_
  rintro _ h1 ⟨g, c, cur, ⟨rfl, hg, hsz, hmc, hmx⟩, hm⟩
  have rd : ∀ q j v, hc h q j = some v → hc h1 q j = some v := by
    intro q j v hv
    rcases hm with ⟨_, rfl⟩ | ⟨_, nn⟩
    · exact hv
    · rw [hc_congr (nn.other q (lt_of_hc hv))]; exact hv
  have hvv := aV_ok h1 g gx gy c cx cy 1 cur a b hg (by omega) (fun j hj => rd _ _ _ (hcx' j (by omega))) (fun j hj => rd _ _ _ (hcy' j hj)) ba' bb' (by omega)
  repeat (first | refine c_seq ?_ | refine c_region ?_ | refine c_block ?_ | refine c_skip ?_ | refine c_exit ?_ | refine c_ret ?_ | refine n_then ?_ | refine n_block ?_ | refine x_then ?_ | refine x_block_eq ?_ | refine x_block_ne rfl ?_ | refine r_then ?_ | refine r_block ?_ | refine s_nil ?_ | refine c_true rfl ?_ | refine c_false rfl ?_ | refine s_pur (p_move rfl) rfl ?_ | refine s_pur (p_assign rfl) rfl ?_ | refine s_pur (p_nil rfl) rfl ?_ | refine s_pur (p_pick_t rfl rfl) rfl ?_ | refine s_pur (p_pick_f rfl rfl) rfl ?_)
  refine c_held followsM rfl ?_
  refine h_any 0 rfl (by kernel_rfl) rfl (fun _ => p_move rfl) rfl ?_
  refine h_any 1 rfl (by kernel_rfl) rfl (fun _ => p_move rfl) rfl ?_
  refine h_any 2 rfl (by kernel_rfl) rfl (fun _ => p_reslice (m := 1) rfl rfl (by omega) Yba.underlying30 Yba.sizeOf45) rfl ?_
  refine h_any 3 rfl (by kernel_rfl) rfl (fun _ => p_move rfl) rfl ?_
  refine h_any 4 rfl (by kernel_rfl) rfl (fun _ => p_move rfl) rfl ?_
  refine h_any 5 rfl (by kernel_rfl) rfl (fun _ => p_reslice (m := 1) rfl rfl (by omega) Yba.underlying30 Yba.sizeOf45) rfl ?_
  refine h_any 6 rfl (by kernel_rfl) rfl (fun _ => p_move rfl) rfl ?_
  refine h_any 7 rfl (by kernel_rfl) rfl (fun _ => p_move rfl) rfl ?_
  refine h_any 8 rfl (by kernel_rfl) rfl (fun _ => p_reslice (m := 1) rfl rfl (by omega) Yba.underlying30 Yba.sizeOf45) rfl ?_
  refine h_call' 9 rfl (by kernel_rfl) rfl Yba.call27 rfl rfl hvv ?_
  rintro _ h2 ⟨cur1, u1, s1, w1, k1, rfl⟩
  refine h_any 10 rfl (by kernel_rfl) rfl (fun _ => p_assign rfl) rfl ?_
  refine h_done (by kernel_rfl) ?_
  repeat (first | refine c_seq ?_ | refine c_region ?_ | refine c_block ?_ | refine c_skip ?_ | refine c_exit ?_ | refine c_ret ?_ | refine n_then ?_ | refine n_block ?_ | refine x_then ?_ | refine x_block_eq ?_ | refine x_block_ne rfl ?_ | refine r_then ?_ | refine r_block ?_ | refine s_nil ?_ | refine c_true rfl ?_ | refine c_false rfl ?_ | refine s_pur (p_move rfl) rfl ?_ | refine s_pur (p_assign rfl) rfl ?_ | refine s_pur (p_nil rfl) rfl ?_ | refine s_pur (p_pick_t rfl rfl) rfl ?_ | refine s_pur (p_pick_f rfl rfl) rfl ?_ | refine s_pur (p_lssT rfl rfl (by omega)) rfl ?_ | refine s_pur (p_lssF rfl rfl (by omega)) rfl ?_ | refine s_pur (p_leqT rfl rfl (by omega)) rfl ?_ | refine s_pur (p_leqF rfl rfl (by omega)) rfl ?_ | refine s_pur (p_gtrT rfl rfl (by omega)) rfl ?_ | refine s_pur (p_gtrF rfl rfl (by omega)) rfl ?_ | refine s_pur (p_geqT rfl rfl (by omega)) rfl ?_ | refine s_pur (p_geqF rfl rfl (by omega)) rfl ?_ | refine s_pur (p_eqlT rfl rfl (by omega)) rfl ?_ | refine s_pur (p_eqlF rfl rfl (by omega)) rfl ?_ | refine s_pur (p_neqT rfl rfl (by omega)) rfl ?_ | refine s_pur (p_neqF rfl rfl (by omega)) rfl ?_)
  have hcur : h2[g]? = some (.cells cur1 45 (0, 0)) := u1.at_
  repeat (first | refine c_seq ?_ | refine c_region ?_ | refine c_block ?_ | refine c_skip ?_ | refine c_exit ?_ | refine c_ret ?_ | refine n_then ?_ | refine n_block ?_ | refine x_then ?_ | refine x_block_eq ?_ | refine x_block_ne rfl ?_ | refine r_then ?_ | refine r_block ?_ | refine s_nil ?_ | refine c_true rfl ?_ | refine c_false rfl ?_ | refine s_pur (p_move rfl) rfl ?_ | refine s_pur (p_assign rfl) rfl ?_ | refine s_pur (p_nil rfl) rfl ?_ | refine s_pur (p_pick_t rfl rfl) rfl ?_ | refine s_pur (p_pick_f rfl rfl) rfl ?_ | refine s_pur (p_idx1 (j := 1) rfl rfl rfl (by omega) Yba.underlying30 Yba.sizeOf45) rfl ?_ | refine s_pur (p_lssT rfl rfl (by omega)) rfl ?_ | refine s_pur (p_lssF rfl rfl (by omega)) rfl ?_ | refine s_pur (p_leqT rfl rfl (by omega)) rfl ?_ | refine s_pur (p_leqF rfl rfl (by omega)) rfl ?_ | refine s_pur (p_gtrT rfl rfl (by omega)) rfl ?_ | refine s_pur (p_gtrF rfl rfl (by omega)) rfl ?_ | refine s_pur (p_geqT rfl rfl (by omega)) rfl ?_ | refine s_pur (p_geqF rfl rfl (by omega)) rfl ?_ | refine s_pur (p_eqlT rfl rfl (by omega)) rfl ?_ | refine s_pur (p_eqlF rfl rfl (by omega)) rfl ?_ | refine s_pur (p_neqT rfl rfl (by omega)) rfl ?_ | refine s_pur (p_neqF rfl rfl (by omega)) rfl ?_)
  refine s_eff0 (e_store rfl rfl rfl Yba.sizeOf45 hcur (by simp; omega)) ?_
  rintro _ hF uF
  have fcell : ∀ j, j < 2 → (cur1.setIfInBounds (0 + 1) (.int .u64 ((aVcar a b 1 : Nat) : Int)))[j]? = some (wd ((fun j => if j = 0 then aVwrd a b 0 else aVcar a b 1) j)) := by
    intro j hj
    rw [Array.getElem?_setIfInBounds]
    rcases (by omega : j = 0 ∨ j = 1) with rfl | rfl
    · rw [if_neg (by omega)]; exact w1 0 (by omega)
    · simp [wd]; omega
  have hnorm := norm_ok hF (some ⟨g, 0, none⟩) 2 c (fun j => if j = 0 then aVwrd a b 0 else aVcar a b 1) (fun j hj => ⟨g, rfl, by rw [hc_of uF.at_, show 0 + j = j from Nat.zero_add j]; exact fcell j hj⟩) (by omega) (by omega)
  repeat (first | refine c_seq ?_ | refine c_region ?_ | refine c_block ?_ | refine c_skip ?_ | refine c_exit ?_ | refine c_ret ?_ | refine n_then ?_ | refine n_block ?_ | refine x_then ?_ | refine x_block_eq ?_ | refine x_block_ne rfl ?_ | refine r_then ?_ | refine r_block ?_ | refine s_nil ?_ | refine c_true rfl ?_ | refine c_false rfl ?_ | refine s_pur (p_move rfl) rfl ?_ | refine s_pur (p_assign rfl) rfl ?_ | refine s_pur (p_nil rfl) rfl ?_ | refine s_pur (p_pick_t rfl rfl) rfl ?_ | refine s_pur (p_pick_f rfl rfl) rfl ?_)
  refine s_call Yba.call29 rfl rfl hnorm ?_
  rintro _ _ ⟨rfl, rfl⟩
  repeat (first | refine c_seq ?_ | refine c_region ?_ | refine c_block ?_ | refine c_skip ?_ | refine c_exit ?_ | refine c_ret ?_ | refine n_then ?_ | refine n_block ?_ | refine x_then ?_ | refine x_block_eq ?_ | refine x_block_ne rfl ?_ | refine r_then ?_ | refine r_block ?_ | refine s_nil ?_ | refine c_true rfl ?_ | refine c_false rfl ?_ | refine s_pur (p_move rfl) rfl ?_ | refine s_pur (p_assign rfl) rfl ?_ | refine s_pur (p_nil rfl) rfl ?_ | refine s_pur (p_pick_t rfl rfl) rfl ?_ | refine s_pur (p_pick_f rfl rfl) rfl ?_)
  refine ret1 Yba.results20 rfl (nres_mk hz hbase hm (fun q hq => by rw [uF.other q hq, u1.other q hq]) (by have := uF.size; have := u1.size; omega) uF.at_ (by simp; omega) hmc hmx fcell ?_ hs)
  obtain ⟨_, x1b, xd⟩ := dg_len1 lx
  obtain ⟨_, y1b, yd⟩ := dg_len1 ly
  have a0 : a 0 = X := by rw [← hA]; simp [xd]
  have b0 : b 0 = Y := by rw [← hBB]; simp [yd]
  simp only [aVwrd, aVcar, a0, b0]
  refine nd2 ?_ ?_ ?_ <;> simp only [if_true, Nat.one_ne_zero, if_false, B] at * <;> omega

set_option maxHeartbeats 4000000 in
theorem add21_ok (h : Heap) (base nz X Y : Nat) (zv xv yv : Value) (zs : List Value) (hz : Owns h base 45 1 zv nz zs) (hbase : base ≤ h.size) (hx : NV h base xv X) (hy : NV h base yv Y) (lx : (dg X).length = 2) (ly : (dg Y).length = 1) (hs : X + Y < B * B) :
    CallsH Yba.prog 20 #[zv, xv, yv] h (fun u h' => NRes h h' base zv u (X + Y)) := by
  have hX0 : X ≠ 0 := by intro e; subst e; simp [dg] at lx
  have hY0 : Y ≠ 0 := by intro e; subst e; simp [dg] at ly
  have ba := dg_getD_lt X hx.2
  have bb := dg_getD_lt Y hy.2
  obtain ⟨gx, cx, curx, rfl, hgx, hsx, hnx, hbx, hcx⟩ := hx.cells hX0
  obtain ⟨gy, cy, cury, rfl, hgy, hsy, hny, hby, hcy⟩ := hy.cells hY0
  rw [lx] at hnx hcx ⊢
  rw [ly] at hny hcy ⊢
  generalize hA : (fun j => (dg X).getD j 0) = a
  generalize hBB : (fun j => (dg Y).getD j 0) = b
  have ba' : ∀ j, a j < B := fun j => by rw [← hA]; exact ba j
  have bb' : ∀ j, b j < B := fun j => by rw [← hBB]; exact bb j
  have hcx' : ∀ j, j < 2 → hc h gx (0 + j) = some (.int .u64 (a j)) := fun j hj => by rw [← hA]; exact hcx j hj
  have hcy' : ∀ j, j < 1 → hc h gy (0 + j) = some (.int .u64 (b j)) := fun j hj => by rw [← hBB]; exact hcy j hj
  refine calls_of [(0, zv), (1, .slice (some ⟨gx, 0, none⟩) 2 cx), (2, .slice (some ⟨gy, 0, none⟩) 1 cy)] Yba.func20 rfl Yba.ntmps20 (by simp) (.cons rfl (.cons rfl (.cons rfl .nil))) ?_
  intro w0 hw0
  repeat (first | refine c_seq ?_ | refine c_region ?_ | refine c_block ?_ | refine c_skip ?_ | refine c_exit ?_ | refine c_ret ?_ | refine n_then ?_ | refine n_block ?_ | refine x_then ?_ | refine x_block_eq ?_ | refine x_block_ne rfl ?_ | refine r_then ?_ | refine r_block ?_ | refine s_nil ?_ | refine c_true rfl ?_ | refine c_false rfl ?_ | refine s_pur (p_move rfl) rfl ?_ | refine s_pur (p_assign rfl) rfl ?_ | refine s_pur (p_nil rfl) rfl ?_ | refine s_pur (p_pick_t rfl rfl) rfl ?_ | refine s_pur (p_pick_f rfl rfl) rfl ?_ | refine s_pur (p_len rfl Yba.underlying30) rfl ?_ | refine s_pur (p_idx1 rfl rfl rfl (by omega) Yba.underlying30 Yba.sizeOf45) rfl ?_ | refine s_pur (p_add (c := ((3 : Nat) : Int)) rfl rfl (by omega) (by omega) (by omega)) rfl ?_ | refine s_pur (p_lssT rfl rfl (by omega)) rfl ?_ | refine s_pur (p_lssF rfl rfl (by omega)) rfl ?_ | refine s_pur (p_leqT rfl rfl (by omega)) rfl ?_ | refine s_pur (p_leqF rfl rfl (by omega)) rfl ?_ | refine s_pur (p_gtrT rfl rfl (by omega)) rfl ?_ | refine s_pur (p_gtrF rfl rfl (by omega)) rfl ?_ | refine s_pur (p_geqT rfl rfl (by omega)) rfl ?_ | refine s_pur (p_geqF rfl rfl (by omega)) rfl ?_ | refine s_pur (p_eqlT rfl rfl (by omega)) rfl ?_ | refine s_pur (p_eqlF rfl rfl (by omega)) rfl ?_ | refine s_pur (p_neqT rfl rfl (by omega)) rfl ?_ | refine s_pur (p_neqF rfl rfl (by omega)) rfl ?_)
  refine s_call Yba.call26 rfl rfl (make_ok h base nz 3 zv zs hz (by omega) (by omega)) ?_
  rintro _ h1 ⟨g, c, cur, ⟨rfl, hg, hsz, hmc, hmx⟩, hm⟩
  have rd : ∀ q j v, hc h q j = some v → hc h1 q j = some v := by
    intro q j v hv
    rcases hm with ⟨_, rfl⟩ | ⟨_, nn⟩
    · exact hv
    · rw [hc_congr (nn.other q (lt_of_hc hv))]; exact hv
  have hvv := aV_ok h1 g gx gy c cx cy 1 cur a b hg (by omega) (fun j hj => rd _ _ _ (hcx' j (by omega))) (fun j hj => rd _ _ _ (hcy' j hj)) ba' bb' (by omega)
  repeat (first | refine c_seq ?_ | refine c_region ?_ | refine c_block ?_ | refine c_skip ?_ | refine c_exit ?_ | refine c_ret ?_ | refine n_then ?_ | refine n_block ?_ | refine x_then ?_ | refine x_block_eq ?_ | refine x_block_ne rfl ?_ | refine r_then ?_ | refine r_block ?_ | refine s_nil ?_ | refine c_true rfl ?_ | refine c_false rfl ?_ | refine s_pur (p_move rfl) rfl ?_ | refine s_pur (p_assign rfl) rfl ?_ | refine s_pur (p_nil rfl) rfl ?_ | refine s_pur (p_pick_t rfl rfl) rfl ?_ | refine s_pur (p_pick_f rfl rfl) rfl ?_)
  refine c_held followsM rfl ?_
  refine h_any 0 rfl (by kernel_rfl) rfl (fun _ => p_move rfl) rfl ?_
  refine h_any 1 rfl (by kernel_rfl) rfl (fun _ => p_move rfl) rfl ?_
  refine h_any 2 rfl (by kernel_rfl) rfl (fun _ => p_reslice (m := 1) rfl rfl (by omega) Yba.underlying30 Yba.sizeOf45) rfl ?_
  refine h_any 3 rfl (by kernel_rfl) rfl (fun _ => p_move rfl) rfl ?_
  refine h_any 4 rfl (by kernel_rfl) rfl (fun _ => p_move rfl) rfl ?_
  refine h_any 5 rfl (by kernel_rfl) rfl (fun _ => p_reslice (m := 1) rfl rfl (by omega) Yba.underlying30 Yba.sizeOf45) rfl ?_
  refine h_any 6 rfl (by kernel_rfl) rfl (fun _ => p_move rfl) rfl ?_
  refine h_any 7 rfl (by kernel_rfl) rfl (fun _ => p_move rfl) rfl ?_
  refine h_any 8 rfl (by kernel_rfl) rfl (fun _ => p_reslice (m := 1) rfl rfl (by omega) Yba.underlying30 Yba.sizeOf45) rfl ?_
  refine h_call' 9 rfl (by kernel_rfl) rfl Yba.call27 rfl rfl hvv ?_
  rintro _ h2 ⟨cur1, u1, s1, w1, k1, rfl⟩
  refine h_any 10 rfl (by kernel_rfl) rfl (fun _ => p_assign rfl) rfl ?_
  refine h_done (by kernel_rfl) ?_
  have x1 : hc h2 gx (0 + 1 + 0) = some (.int .u64 (a 1)) := by
    by_cases e : gx = g
    · subst e
      rw [hc_of u1.at_, k1 (0 + 1 + 0) (by omega)]
      have := rd _ _ _ (hcx' 1 (by omega))
      rw [hc_of hg] at this
      exact this
    · rw [hc_congr (u1.other gx e)]; exact rd _ _ _ (hcx' 1 (by omega))
  have bx2 : ∃ curx', h2[gx]? = some (.cells curx' 45 (0, 0)) := by
    by_cases e : gx = g
    · subst e; exact ⟨_, u1.at_⟩
    · refine ⟨curx, ?_⟩
      rw [u1.other gx e]
      rcases hm with ⟨_, rfl⟩ | ⟨_, nn⟩
      · exact hgx
      · rw [nn.other gx (lt_of_get hgx)]; exact hgx
  obtain ⟨curx', bx2⟩ := bx2
  have hvw := aW_ok h2 g gx (0 + 1) (c - 1) (cx - 1) (a 1) (aVcar a b 1) cur1 curx' u1.at_ (by omega) bx2 x1 (by omega) (by omega) (aVcar_le a b ba' bb' 1) (ba' 1)
  repeat (first | refine c_seq ?_ | refine c_region ?_ | refine c_block ?_ | refine c_skip ?_ | refine c_exit ?_ | refine c_ret ?_ | refine n_then ?_ | refine n_block ?_ | refine x_then ?_ | refine x_block_eq ?_ | refine x_block_ne rfl ?_ | refine r_then ?_ | refine r_block ?_ | refine s_nil ?_ | refine c_true rfl ?_ | refine c_false rfl ?_ | refine s_pur (p_move rfl) rfl ?_ | refine s_pur (p_assign rfl) rfl ?_ | refine s_pur (p_nil rfl) rfl ?_ | refine s_pur (p_pick_t rfl rfl) rfl ?_ | refine s_pur (p_pick_f rfl rfl) rfl ?_ | refine s_pur (p_lssT rfl rfl (by omega)) rfl ?_ | refine s_pur (p_lssF rfl rfl (by omega)) rfl ?_ | refine s_pur (p_leqT rfl rfl (by omega)) rfl ?_ | refine s_pur (p_leqF rfl rfl (by omega)) rfl ?_ | refine s_pur (p_gtrT rfl rfl (by omega)) rfl ?_ | refine s_pur (p_gtrF rfl rfl (by omega)) rfl ?_ | refine s_pur (p_geqT rfl rfl (by omega)) rfl ?_ | refine s_pur (p_geqF rfl rfl (by omega)) rfl ?_ | refine s_pur (p_eqlT rfl rfl (by omega)) rfl ?_ | refine s_pur (p_eqlF rfl rfl (by omega)) rfl ?_ | refine s_pur (p_neqT rfl rfl (by omega)) rfl ?_ | refine s_pur (p_neqF rfl rfl (by omega)) rfl ?_)
  refine c_held followsM rfl ?_
  refine h_any 0 rfl (by kernel_rfl) rfl (fun _ => p_move rfl) rfl ?_
  refine h_any 1 rfl (by kernel_rfl) rfl (fun _ => p_move rfl) rfl ?_
  refine h_any 2 rfl (by kernel_rfl) rfl (fun _ => p_move rfl) rfl ?_
  refine h_any 3 rfl (by kernel_rfl) rfl (fun _ => p_sliceLH (p := 1) (q := 2) rfl rfl rfl (by omega) (by omega) (by omega) Yba.underlying30 Yba.sizeOf45) rfl ?_
  refine h_any 4 rfl (by kernel_rfl) rfl (fun _ => p_move rfl) rfl ?_
  refine h_any 5 rfl (by kernel_rfl) rfl (fun _ => p_move rfl) rfl ?_
  refine h_any 6 rfl (by kernel_rfl) rfl (fun _ => p_sliceL (p := 1) rfl rfl (by omega) (by omega) Yba.underlying30 Yba.sizeOf45) rfl ?_
  refine h_any 7 rfl (by kernel_rfl) rfl (fun _ => p_move rfl) rfl ?_
  refine h_call 8 rfl (by kernel_rfl) rfl Yba.call28 rfl rfl hvw ?_
  rintro _ h3 ⟨u2, rfl⟩
  refine h_any 9 rfl (by kernel_rfl) rfl (fun _ => p_assign rfl) rfl ?_
  refine h_done (by kernel_rfl) ?_
  have hcur : h3[g]? = some (.cells (cur1.setIfInBounds (0 + 1 + 0) (.int .u64 (((a 1 + aVcar a b 1) % B : Nat) : Int))) 45 (0, 0)) := u2.at_
  repeat (first | refine c_seq ?_ | refine c_region ?_ | refine c_block ?_ | refine c_skip ?_ | refine c_exit ?_ | refine c_ret ?_ | refine n_then ?_ | refine n_block ?_ | refine x_then ?_ | refine x_block_eq ?_ | refine x_block_ne rfl ?_ | refine r_then ?_ | refine r_block ?_ | refine s_nil ?_ | refine c_true rfl ?_ | refine c_false rfl ?_ | refine s_pur (p_move rfl) rfl ?_ | refine s_pur (p_assign rfl) rfl ?_ | refine s_pur (p_nil rfl) rfl ?_ | refine s_pur (p_pick_t rfl rfl) rfl ?_ | refine s_pur (p_pick_f rfl rfl) rfl ?_ | refine s_pur (p_idx1 (j := 2) rfl rfl rfl (by omega) Yba.underlying30 Yba.sizeOf45) rfl ?_ | refine s_pur (p_lssT rfl rfl (by omega)) rfl ?_ | refine s_pur (p_lssF rfl rfl (by omega)) rfl ?_ | refine s_pur (p_leqT rfl rfl (by omega)) rfl ?_ | refine s_pur (p_leqF rfl rfl (by omega)) rfl ?_ | refine s_pur (p_gtrT rfl rfl (by omega)) rfl ?_ | refine s_pur (p_gtrF rfl rfl (by omega)) rfl ?_ | refine s_pur (p_geqT rfl rfl (by omega)) rfl ?_ | refine s_pur (p_geqF rfl rfl (by omega)) rfl ?_ | refine s_pur (p_eqlT rfl rfl (by omega)) rfl ?_ | refine s_pur (p_eqlF rfl rfl (by omega)) rfl ?_ | refine s_pur (p_neqT rfl rfl (by omega)) rfl ?_ | refine s_pur (p_neqF rfl rfl (by omega)) rfl ?_)
  refine s_eff0 (e_store rfl rfl rfl Yba.sizeOf45 hcur (by simp; omega)) ?_
  rintro _ hF uF
  have fcell : ∀ j, j < 3 → ((cur1.setIfInBounds (0 + 1 + 0) (.int .u64 (((a 1 + aVcar a b 1) % B : Nat) : Int))).setIfInBounds (0 + 2) (.int .u64 (((a 1 + aVcar a b 1) / B : Nat) : Int)))[j]? = some (wd ((fun j => if j = 0 then aVwrd a b 0 else if j = 1 then (a 1 + aVcar a b 1) % B else (a 1 + aVcar a b 1) / B) j)) := by
    intro j hj
    rw [Array.getElem?_setIfInBounds]
    rcases (by omega : j = 0 ∨ j = 1 ∨ j = 2) with rfl | rfl | rfl
    · rw [if_neg (by omega), Array.getElem?_setIfInBounds, if_neg (by omega)]; exact w1 0 (by omega)
    · rw [if_neg (by omega), Array.getElem?_setIfInBounds]; simp [wd]; omega
    · simp [wd]; omega
  have hnorm := norm_ok hF (some ⟨g, 0, none⟩) 3 c (fun j => if j = 0 then aVwrd a b 0 else if j = 1 then (a 1 + aVcar a b 1) % B else (a 1 + aVcar a b 1) / B) (fun j hj => ⟨g, rfl, by rw [hc_of uF.at_, show 0 + j = j from Nat.zero_add j]; exact fcell j hj⟩) (by omega) (by omega)
  repeat (first | refine c_seq ?_ | refine c_region ?_ | refine c_block ?_ | refine c_skip ?_ | refine c_exit ?_ | refine c_ret ?_ | refine n_then ?_ | refine n_block ?_ | refine x_then ?_ | refine x_block_eq ?_ | refine x_block_ne rfl ?_ | refine r_then ?_ | refine r_block ?_ | refine s_nil ?_ | refine c_true rfl ?_ | refine c_false rfl ?_ | refine s_pur (p_move rfl) rfl ?_ | refine s_pur (p_assign rfl) rfl ?_ | refine s_pur (p_nil rfl) rfl ?_ | refine s_pur (p_pick_t rfl rfl) rfl ?_ | refine s_pur (p_pick_f rfl rfl) rfl ?_)
  refine s_call Yba.call29 rfl rfl hnorm ?_
  rintro _ _ ⟨rfl, rfl⟩
  repeat (first | refine c_seq ?_ | refine c_region ?_ | refine c_block ?_ | refine c_skip ?_ | refine c_exit ?_ | refine c_ret ?_ | refine n_then ?_ | refine n_block ?_ | refine x_then ?_ | refine x_block_eq ?_ | refine x_block_ne rfl ?_ | refine r_then ?_ | refine r_block ?_ | refine s_nil ?_ | refine c_true rfl ?_ | refine c_false rfl ?_ | refine s_pur (p_move rfl) rfl ?_ | refine s_pur (p_assign rfl) rfl ?_ | refine s_pur (p_nil rfl) rfl ?_ | refine s_pur (p_pick_t rfl rfl) rfl ?_ | refine s_pur (p_pick_f rfl rfl) rfl ?_)
  refine ret1 Yba.results20 rfl (nres_mk hz hbase hm (fun q hq => by rw [uF.other q hq, u2.other q hq, u1.other q hq]) (by have := uF.size; have := u2.size; have := u1.size; omega) uF.at_ (by simp; omega) hmc hmx fcell ?_ hs)
  obtain ⟨xb, xd⟩ := dg_len2 lx
  obtain ⟨_, y1b, yd⟩ := dg_len1 ly
  have a0 : a 0 = X % B := by rw [← hA]; simp [xd]
  have a1 : a 1 = X / B := by rw [← hA]; simp [xd]
  have b0 : b 0 = Y := by rw [← hBB]; simp [yd]
  simp only [aVwrd, aVcar, a0, a1, b0]
  refine nd3 ?_ ?_ ?_ ?_ <;> simp only [if_true, Nat.one_ne_zero, if_false, show ¬ (2 : Nat) = 0 by omega, show ¬ (2 : Nat) = 1 by omega, B] at * <;> omega

set_option maxHeartbeats 4000000 in
theorem add22_ok (h : Heap) (base nz X Y : Nat) (zv xv yv : Value) (zs : List Value) (hz : Owns h base 45 1 zv nz zs) (hbase : base ≤ h.size) (hx : NV h base xv X) (hy : NV h base yv Y) (lx : (dg X).length = 2) (ly : (dg Y).length = 2) (hs : X + Y < B * B) :
    CallsH Yba.prog 20 #[zv, xv, yv] h (fun u h' => NRes h h' base zv u (X + Y)) := by
  have hX0 : X ≠ 0 := by intro e; subst e; simp [dg] at lx
  have hY0 : Y ≠ 0 := by intro e; subst e; simp [dg] at ly
  have ba := dg_getD_lt X hx.2
  have bb := dg_getD_lt Y hy.2
  obtain ⟨gx, cx, curx, rfl, hgx, hsx, hnx, hbx, hcx⟩ := hx.cells hX0
  obtain ⟨gy, cy, cury, rfl, hgy, hsy, hny, hby, hcy⟩ := hy.cells hY0
  rw [lx] at hnx hcx ⊢
  rw [ly] at hny hcy ⊢
  generalize hA : (fun j => (dg X).getD j 0) = a
  generalize hBB : (fun j => (dg Y).getD j 0) = b
  have ba' : ∀ j, a j < B := fun j => by rw [← hA]; exact ba j
  have bb' : ∀ j, b j < B := fun j => by rw [← hBB]; exact bb j
  have hcx' : ∀ j, j < 2 → hc h gx (0 + j) = some (.int .u64 (a j)) := fun j hj => by rw [← hA]; exact hcx j hj
  have hcy' : ∀ j, j < 2 → hc h gy (0 + j) = some (.int .u64 (b j)) := fun j hj => by rw [← hBB]; exact hcy j hj
  refine calls_of [(0, zv), (1, .slice (some ⟨gx, 0, none⟩) 2 cx), (2, .slice (some ⟨gy, 0, none⟩) 2 cy)] Yba.func20 rfl Yba.ntmps20 (by simp) (.cons rfl (.cons rfl (.cons rfl .nil))) ?_
  intro w0 hw0
  repeat (first | refine c_seq ?_ | refine c_region ?_ | refine c_block ?_ | refine c_skip ?_ | refine c_exit ?_ | refine c_ret ?_ | refine n_then ?_ | refine n_block ?_ | refine x_then ?_ | refine x_block_eq ?_ | refine x_block_ne rfl ?_ | refine r_then ?_ | refine r_block ?_ | refine s_nil ?_ | refine c_true rfl ?_ | refine c_false rfl ?_ | refine s_pur (p_move rfl) rfl ?_ | refine s_pur (p_assign rfl) rfl ?_ | refine s_pur (p_nil rfl) rfl ?_ | refine s_pur (p_pick_t rfl rfl) rfl ?_ | refine s_pur (p_pick_f rfl rfl) rfl ?_ | refine s_pur (p_len rfl Yba.underlying30) rfl ?_ | refine s_pur (p_idx1 rfl rfl rfl (by omega) Yba.underlying30 Yba.sizeOf45) rfl ?_ | refine s_pur (p_add (c := ((3 : Nat) : Int)) rfl rfl (by omega) (by omega) (by omega)) rfl ?_ | refine s_pur (p_lssT rfl rfl (by omega)) rfl ?_ | refine s_pur (p_lssF rfl rfl (by omega)) rfl ?_ | refine s_pur (p_leqT rfl rfl (by omega)) rfl ?_ | refine s_pur (p_leqF rfl rfl (by omega)) rfl ?_ | refine s_pur (p_gtrT rfl rfl (by omega)) rfl ?_ | refine s_pur (p_gtrF rfl rfl (by omega)) rfl ?_ | refine s_pur (p_geqT rfl rfl (by omega)) rfl ?_ | refine s_pur (p_geqF rfl rfl (by omega)) rfl ?_ | refine s_pur (p_eqlT rfl rfl (by omega)) rfl ?_ | refine s_pur (p_eqlF rfl rfl (by omega)) rfl ?_ | refine s_pur (p_neqT rfl rfl (by omega)) rfl ?_ | refine s_pur (p_neqF rfl rfl (by omega)) rfl ?_)
  refine s_call Yba.call26 rfl rfl (make_ok h base nz 3 zv zs hz (by omega) (by omega)) ?_
  rintro _ h1 ⟨g, c, cur, ⟨rfl, hg, hsz, hmc, hmx⟩, hm⟩
  have rd : ∀ q j v, hc h q j = some v → hc h1 q j = some v := by
    intro q j v hv
    rcases hm with ⟨_, rfl⟩ | ⟨_, nn⟩
    · exact hv
    · rw [hc_congr (nn.other q (lt_of_hc hv))]; exact hv
  have hvv := aV_ok h1 g gx gy c cx cy 2 cur a b hg (by omega) (fun j hj => rd _ _ _ (hcx' j (by omega))) (fun j hj => rd _ _ _ (hcy' j hj)) ba' bb' (by omega)
  repeat (first | refine c_seq ?_ | refine c_region ?_ | refine c_block ?_ | refine c_skip ?_ | refine c_exit ?_ | refine c_ret ?_ | refine n_then ?_ | refine n_block ?_ | refine x_then ?_ | refine x_block_eq ?_ | refine x_block_ne rfl ?_ | refine r_then ?_ | refine r_block ?_ | refine s_nil ?_ | refine c_true rfl ?_ | refine c_false rfl ?_ | refine s_pur (p_move rfl) rfl ?_ | refine s_pur (p_assign rfl) rfl ?_ | refine s_pur (p_nil rfl) rfl ?_ | refine s_pur (p_pick_t rfl rfl) rfl ?_ | refine s_pur (p_pick_f rfl rfl) rfl ?_)
  refine c_held followsM rfl ?_
  refine h_any 0 rfl (by kernel_rfl) rfl (fun _ => p_move rfl) rfl ?_
  refine h_any 1 rfl (by kernel_rfl) rfl (fun _ => p_move rfl) rfl ?_
  refine h_any 2 rfl (by kernel_rfl) rfl (fun _ => p_reslice (m := 2) rfl rfl (by omega) Yba.underlying30 Yba.sizeOf45) rfl ?_
  refine h_any 3 rfl (by kernel_rfl) rfl (fun _ => p_move rfl) rfl ?_
  refine h_any 4 rfl (by kernel_rfl) rfl (fun _ => p_move rfl) rfl ?_
  refine h_any 5 rfl (by kernel_rfl) rfl (fun _ => p_reslice (m := 2) rfl rfl (by omega) Yba.underlying30 Yba.sizeOf45) rfl ?_
  refine h_any 6 rfl (by kernel_rfl) rfl (fun _ => p_move rfl) rfl ?_
  refine h_any 7 rfl (by kernel_rfl) rfl (fun _ => p_move rfl) rfl ?_
  refine h_any 8 rfl (by kernel_rfl) rfl (fun _ => p_reslice (m := 2) rfl rfl (by omega) Yba.underlying30 Yba.sizeOf45) rfl ?_
  refine h_call' 9 rfl (by kernel_rfl) rfl Yba.call27 rfl rfl hvv ?_
  rintro _ h2 ⟨cur1, u1, s1, w1, k1, rfl⟩
  refine h_any 10 rfl (by kernel_rfl) rfl (fun _ => p_assign rfl) rfl ?_
  refine h_done (by kernel_rfl) ?_
  repeat (first | refine c_seq ?_ | refine c_region ?_ | refine c_block ?_ | refine c_skip ?_ | refine c_exit ?_ | refine c_ret ?_ | refine n_then ?_ | refine n_block ?_ | refine x_then ?_ | refine x_block_eq ?_ | refine x_block_ne rfl ?_ | refine r_then ?_ | refine r_block ?_ | refine s_nil ?_ | refine c_true rfl ?_ | refine c_false rfl ?_ | refine s_pur (p_move rfl) rfl ?_ | refine s_pur (p_assign rfl) rfl ?_ | refine s_pur (p_nil rfl) rfl ?_ | refine s_pur (p_pick_t rfl rfl) rfl ?_ | refine s_pur (p_pick_f rfl rfl) rfl ?_ | refine s_pur (p_lssT rfl rfl (by omega)) rfl ?_ | refine s_pur (p_lssF rfl rfl (by omega)) rfl ?_ | refine s_pur (p_leqT rfl rfl (by omega)) rfl ?_ | refine s_pur (p_leqF rfl rfl (by omega)) rfl ?_ | refine s_pur (p_gtrT rfl rfl (by omega)) rfl ?_ | refine s_pur (p_gtrF rfl rfl (by omega)) rfl ?_ | refine s_pur (p_geqT rfl rfl (by omega)) rfl ?_ | refine s_pur (p_geqF rfl rfl (by omega)) rfl ?_ | refine s_pur (p_eqlT rfl rfl (by omega)) rfl ?_ | refine s_pur (p_eqlF rfl rfl (by omega)) rfl ?_ | refine s_pur (p_neqT rfl rfl (by omega)) rfl ?_ | refine s_pur (p_neqF rfl rfl (by omega)) rfl ?_)
  have hcur : h2[g]? = some (.cells cur1 45 (0, 0)) := u1.at_
  repeat (first | refine c_seq ?_ | refine c_region ?_ | refine c_block ?_ | refine c_skip ?_ | refine c_exit ?_ | refine c_ret ?_ | refine n_then ?_ | refine n_block ?_ | refine x_then ?_ | refine x_block_eq ?_ | refine x_block_ne rfl ?_ | refine r_then ?_ | refine r_block ?_ | refine s_nil ?_ | refine c_true rfl ?_ | refine c_false rfl ?_ | refine s_pur (p_move rfl) rfl ?_ | refine s_pur (p_assign rfl) rfl ?_ | refine s_pur (p_nil rfl) rfl ?_ | refine s_pur (p_pick_t rfl rfl) rfl ?_ | refine s_pur (p_pick_f rfl rfl) rfl ?_ | refine s_pur (p_idx1 (j := 2) rfl rfl rfl (by omega) Yba.underlying30 Yba.sizeOf45) rfl ?_ | refine s_pur (p_lssT rfl rfl (by omega)) rfl ?_ | refine s_pur (p_lssF rfl rfl (by omega)) rfl ?_ | refine s_pur (p_leqT rfl rfl (by omega)) rfl ?_ | refine s_pur (p_leqF rfl rfl (by omega)) rfl ?_ | refine s_pur (p_gtrT rfl rfl (by omega)) rfl ?_ | refine s_pur (p_gtrF rfl rfl (by omega)) rfl ?_ | refine s_pur (p_geqT rfl rfl (by omega)) rfl ?_ | refine s_pur (p_geqF rfl rfl (by omega)) rfl ?_ | refine s_pur (p_eqlT rfl rfl (by omega)) rfl ?_ | refine s_pur (p_eqlF rfl rfl (by omega)) rfl ?_ | refine s_pur (p_neqT rfl rfl (by omega)) rfl ?_ | refine s_pur (p_neqF rfl rfl (by omega)) rfl ?_)
  refine s_eff0 (e_store rfl rfl rfl Yba.sizeOf45 hcur (by simp; omega)) ?_
  rintro _ hF uF
  have fcell : ∀ j, j < 3 → (cur1.setIfInBounds (0 + 2) (.int .u64 ((aVcar a b 2 : Nat) : Int)))[j]? = some (wd ((fun j => if j = 0 then aVwrd a b 0 else if j = 1 then aVwrd a b 1 else aVcar a b 2) j)) := by
    intro j hj
    rw [Array.getElem?_setIfInBounds]
    rcases (by omega : j = 0 ∨ j = 1 ∨ j = 2) with rfl | rfl | rfl
    · rw [if_neg (by omega)]; exact w1 0 (by omega)
    · rw [if_neg (by omega)]; exact w1 1 (by omega)
    · simp [wd]; omega
  have hnorm := norm_ok hF (some ⟨g, 0, none⟩) 3 c (fun j => if j = 0 then aVwrd a b 0 else if j = 1 then aVwrd a b 1 else aVcar a b 2) (fun j hj => ⟨g, rfl, by rw [hc_of uF.at_, show 0 + j = j from Nat.zero_add j]; exact fcell j hj⟩) (by omega) (by omega)
  repeat (first | refine c_seq ?_ | refine c_region ?_ | refine c_block ?_ | refine c_skip ?_ | refine c_exit ?_ | refine c_ret ?_ | refine n_then ?_ | refine n_block ?_ | refine x_then ?_ | refine x_block_eq ?_ | refine x_block_ne rfl ?_ | refine r_then ?_ | refine r_block ?_ | refine s_nil ?_ | refine c_true rfl ?_ | refine c_false rfl ?_ | refine s_pur (p_move rfl) rfl ?_ | refine s_pur (p_assign rfl) rfl ?_ | refine s_pur (p_nil rfl) rfl ?_ | refine s_pur (p_pick_t rfl rfl) rfl ?_ | refine s_pur (p_pick_f rfl rfl) rfl ?_)
  refine s_call Yba.call29 rfl rfl hnorm ?_
  rintro _ _ ⟨rfl, rfl⟩
  repeat (first | refine c_seq ?_ | refine c_region ?_ | refine c_block ?_ | refine c_skip ?_ | refine c_exit ?_ | refine c_ret ?_ | refine n_then ?_ | refine n_block ?_ | refine x_then ?_ | refine x_block_eq ?_ | refine x_block_ne rfl ?_ | refine r_then ?_ | refine r_block ?_ | refine s_nil ?_ | refine c_true rfl ?_ | refine c_false rfl ?_ | refine s_pur (p_move rfl) rfl ?_ | refine s_pur (p_assign rfl) rfl ?_ | refine s_pur (p_nil rfl) rfl ?_ | refine s_pur (p_pick_t rfl rfl) rfl ?_ | refine s_pur (p_pick_f rfl rfl) rfl ?_)
  refine ret1 Yba.results20 rfl (nres_mk hz hbase hm (fun q hq => by rw [uF.other q hq, u1.other q hq]) (by have := uF.size; have := u1.size; omega) uF.at_ (by simp; omega) hmc hmx fcell ?_ hs)
  obtain ⟨xb, xd⟩ := dg_len2 lx
  obtain ⟨yb, yd⟩ := dg_len2 ly
  have a0 : a 0 = X % B := by rw [← hA]; simp [xd]
  have a1 : a 1 = X / B := by rw [← hA]; simp [xd]
  have b0 : b 0 = Y % B := by rw [← hBB]; simp [yd]
  have b1 : b 1 = Y / B := by rw [← hBB]; simp [yd]
  simp only [aVwrd, aVcar, a0, a1, b0, b1]
  refine nd3 ?_ ?_ ?_ ?_ <;> simp only [if_true, Nat.one_ne_zero, if_false, show ¬ (2 : Nat) = 0 by omega, show ¬ (2 : Nat) = 1 by omega, B] at * <;> omega
end Go.Proofs.Ybulkdirs
