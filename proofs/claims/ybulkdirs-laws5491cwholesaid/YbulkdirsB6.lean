/-
  B6: math/big: nat.add, nat.sub, nat.cmp at numbers below 2^128.
-/
import Derived.Test.YbulkdirsB5
namespace Go.Proofs.Ybulkdirs
set_option linter.unusedSimpArgs false
set_option linter.unusedVariables false
set_option linter.unnecessarySimpa false
open Go Go.RowKit V
set_option maxRecDepth 100000

theorem NV.zero {h : Heap} {base : Nat} {u : Value} (hn : NV h base u 0) : ∃ a c, u = .slice a 0 c := by
  obtain ⟨a, c, e, _⟩ := hn.1.slice
  exact ⟨a, c, e⟩

theorem add00_ok (h : Heap) (base nz : Nat) (zv xv yv : Value) (zs : List Value) (hz : Owns h base 45 1 zv nz zs) (hx : NV h base xv 0) (hy : NV h base yv 0) :
    CallsH Yba.prog 20 #[zv, xv, yv] h (fun u h' => NRes h h' base zv u 0) := by
  obtain ⟨ax, cx, rfl⟩ := hx.zero
  obtain ⟨ay, cy, rfl⟩ := hy.zero
  obtain ⟨a, c, rfl, ho, he⟩ := hz.none
  refine calls_of [(0, .slice a nz c), (1, .slice ax 0 cx), (2, .slice ay 0 cy)] Yba.func20 rfl Yba.ntmps20 (by simp) (.cons rfl (.cons rfl (.cons rfl .nil))) ?_
  intro w0 hw0
  repeat (first | refine c_seq ?_ | refine c_region ?_ | refine c_block ?_ | refine c_skip ?_ | refine c_exit ?_ | refine c_ret ?_ | refine n_then ?_ | refine n_block ?_ | refine x_then ?_ | refine x_block_eq ?_ | refine x_block_ne rfl ?_ | refine r_then ?_ | refine r_block ?_ | refine s_nil ?_ | refine c_true rfl ?_ | refine c_false rfl ?_ | refine s_pur (p_move rfl) rfl ?_ | refine s_pur (p_assign rfl) rfl ?_ | refine s_pur (p_nil rfl) rfl ?_ | refine s_pur (p_pick_t rfl rfl) rfl ?_ | refine s_pur (p_pick_f rfl rfl) rfl ?_ | refine s_pur (p_len rfl Yba.underlying30) rfl ?_ | refine s_pur (p_idx1 rfl rfl rfl (by omega) Yba.underlying30 Yba.sizeOf45) rfl ?_ | refine s_pur (p_reslice (m := 0) rfl rfl (by omega) Yba.underlying30 Yba.sizeOf45) rfl ?_ | refine s_pur (p_lssT rfl rfl (by omega)) rfl ?_ | refine s_pur (p_lssF rfl rfl (by omega)) rfl ?_ | refine s_pur (p_leqT rfl rfl (by omega)) rfl ?_ | refine s_pur (p_leqF rfl rfl (by omega)) rfl ?_ | refine s_pur (p_gtrT rfl rfl (by omega)) rfl ?_ | refine s_pur (p_gtrF rfl rfl (by omega)) rfl ?_ | refine s_pur (p_geqT rfl rfl (by omega)) rfl ?_ | refine s_pur (p_geqF rfl rfl (by omega)) rfl ?_ | refine s_pur (p_eqlT rfl rfl (by omega)) rfl ?_ | refine s_pur (p_eqlF rfl rfl (by omega)) rfl ?_ | refine s_pur (p_neqT rfl rfl (by omega)) rfl ?_ | refine s_pur (p_neqF rfl rfl (by omega)) rfl ?_)
  exact ret1 Yba.results20 rfl (NRes.zero (n := nz) (xs := zs) ho he)
theorem sub00_ok (h : Heap) (base nz : Nat) (zv xv yv : Value) (zs : List Value) (hz : Owns h base 45 1 zv nz zs) (hx : NV h base xv 0) (hy : NV h base yv 0) :
    CallsH Yba.prog 21 #[zv, xv, yv] h (fun u h' => NRes h h' base zv u 0) := by
  obtain ⟨ax, cx, rfl⟩ := hx.zero
  obtain ⟨ay, cy, rfl⟩ := hy.zero
  obtain ⟨a, c, rfl, ho, he⟩ := hz.none
  refine calls_of [(0, .slice a nz c), (1, .slice ax 0 cx), (2, .slice ay 0 cy)] Yba.func21 rfl Yba.ntmps21 (by simp) (.cons rfl (.cons rfl (.cons rfl .nil))) ?_
  intro w0 hw0
  repeat (first | refine c_seq ?_ | refine c_region ?_ | refine c_block ?_ | refine c_skip ?_ | refine c_exit ?_ | refine c_ret ?_ | refine n_then ?_ | refine n_block ?_ | refine x_then ?_ | refine x_block_eq ?_ | refine x_block_ne rfl ?_ | refine r_then ?_ | refine r_block ?_ | refine s_nil ?_ | refine c_true rfl ?_ | refine c_false rfl ?_ | refine s_pur (p_move rfl) rfl ?_ | refine s_pur (p_assign rfl) rfl ?_ | refine s_pur (p_nil rfl) rfl ?_ | refine s_pur (p_pick_t rfl rfl) rfl ?_ | refine s_pur (p_pick_f rfl rfl) rfl ?_ | refine s_pur (p_len rfl Yba.underlying30) rfl ?_ | refine s_pur (p_idx1 rfl rfl rfl (by omega) Yba.underlying30 Yba.sizeOf45) rfl ?_ | refine s_pur (p_reslice (m := 0) rfl rfl (by omega) Yba.underlying30 Yba.sizeOf45) rfl ?_ | refine s_pur (p_lssT rfl rfl (by omega)) rfl ?_ | refine s_pur (p_lssF rfl rfl (by omega)) rfl ?_ | refine s_pur (p_leqT rfl rfl (by omega)) rfl ?_ | refine s_pur (p_leqF rfl rfl (by omega)) rfl ?_ | refine s_pur (p_gtrT rfl rfl (by omega)) rfl ?_ | refine s_pur (p_gtrF rfl rfl (by omega)) rfl ?_ | refine s_pur (p_geqT rfl rfl (by omega)) rfl ?_ | refine s_pur (p_geqF rfl rfl (by omega)) rfl ?_ | refine s_pur (p_eqlT rfl rfl (by omega)) rfl ?_ | refine s_pur (p_eqlF rfl rfl (by omega)) rfl ?_ | refine s_pur (p_neqT rfl rfl (by omega)) rfl ?_ | refine s_pur (p_neqF rfl rfl (by omega)) rfl ?_)
  exact ret1 Yba.results21 rfl (NRes.zero (n := nz) (xs := zs) ho he)
theorem dg_pos {X : Nat} (h0 : X ≠ 0) : 1 ≤ (dg X).length := by
  rcases Nat.eq_zero_or_pos (dg X).length with e | e
  · exact absurd (dg_len0 e) h0
  · exact e
theorem add_0_ok (h : Heap) (base nz X : Nat) (zv xv yv : Value) (zs : List Value) (hz : Owns h base 45 1 zv nz zs) (hbase : base ≤ h.size) (hx : NV h base xv X) (hy : NV h base yv 0) (h0 : X ≠ 0) :
    CallsH Yba.prog 20 #[zv, xv, yv] h (fun u h' => NRes h h' base zv u X) := by
  obtain ⟨ay, cy, rfl⟩ := hy.zero
  have hset := natSet_ok h base nz X zv xv zs hz hbase hx h0
  obtain ⟨gx, cx, curx, rfl, _, _, _, _, _⟩ := hx.cells h0
  have hl := dg_pos h0
  refine calls_of [(0, zv), (1, .slice (some ⟨gx, 0, none⟩) (dg X).length cx), (2, .slice ay 0 cy)] Yba.func20 rfl Yba.ntmps20 (by simp) (.cons rfl (.cons rfl (.cons rfl .nil))) ?_
  intro w0 hw0
  repeat (first | refine c_seq ?_ | refine c_region ?_ | refine c_block ?_ | refine c_skip ?_ | refine c_exit ?_ | refine c_ret ?_ | refine n_then ?_ | refine n_block ?_ | refine x_then ?_ | refine x_block_eq ?_ | refine x_block_ne rfl ?_ | refine r_then ?_ | refine r_block ?_ | refine s_nil ?_ | refine c_true rfl ?_ | refine c_false rfl ?_ | refine s_pur (p_move rfl) rfl ?_ | refine s_pur (p_assign rfl) rfl ?_ | refine s_pur (p_nil rfl) rfl ?_ | refine s_pur (p_pick_t rfl rfl) rfl ?_ | refine s_pur (p_pick_f rfl rfl) rfl ?_ | refine s_pur (p_len rfl Yba.underlying30) rfl ?_ | refine s_pur (p_idx1 rfl rfl rfl (by omega) Yba.underlying30 Yba.sizeOf45) rfl ?_ | refine s_pur (p_lssT rfl rfl (by omega)) rfl ?_ | refine s_pur (p_lssF rfl rfl (by omega)) rfl ?_ | refine s_pur (p_leqT rfl rfl (by omega)) rfl ?_ | refine s_pur (p_leqF rfl rfl (by omega)) rfl ?_ | refine s_pur (p_gtrT rfl rfl (by omega)) rfl ?_ | refine s_pur (p_gtrF rfl rfl (by omega)) rfl ?_ | refine s_pur (p_geqT rfl rfl (by omega)) rfl ?_ | refine s_pur (p_geqF rfl rfl (by omega)) rfl ?_ | refine s_pur (p_eqlT rfl rfl (by omega)) rfl ?_ | refine s_pur (p_eqlF rfl rfl (by omega)) rfl ?_ | refine s_pur (p_neqT rfl rfl (by omega)) rfl ?_ | refine s_pur (p_neqF rfl rfl (by omega)) rfl ?_)
  refine s_call Yba.call25 rfl rfl hset ?_
  rintro u h1 hr
  repeat (first | refine c_seq ?_ | refine c_region ?_ | refine c_block ?_ | refine c_skip ?_ | refine c_exit ?_ | refine c_ret ?_ | refine n_then ?_ | refine n_block ?_ | refine x_then ?_ | refine x_block_eq ?_ | refine x_block_ne rfl ?_ | refine r_then ?_ | refine r_block ?_ | refine s_nil ?_ | refine c_true rfl ?_ | refine c_false rfl ?_ | refine s_pur (p_move rfl) rfl ?_ | refine s_pur (p_assign rfl) rfl ?_ | refine s_pur (p_nil rfl) rfl ?_ | refine s_pur (p_pick_t rfl rfl) rfl ?_ | refine s_pur (p_pick_f rfl rfl) rfl ?_)
  exact ret1 Yba.results20 rfl hr
theorem sub_0_ok (h : Heap) (base nz X : Nat) (zv xv yv : Value) (zs : List Value) (hz : Owns h base 45 1 zv nz zs) (hbase : base ≤ h.size) (hx : NV h base xv X) (hy : NV h base yv 0) (h0 : X ≠ 0) :
    CallsH Yba.prog 21 #[zv, xv, yv] h (fun u h' => NRes h h' base zv u X) := by
  obtain ⟨ay, cy, rfl⟩ := hy.zero
  have hset := natSet_ok h base nz X zv xv zs hz hbase hx h0
  obtain ⟨gx, cx, curx, rfl, _, _, _, _, _⟩ := hx.cells h0
  have hl := dg_pos h0
  refine calls_of [(0, zv), (1, .slice (some ⟨gx, 0, none⟩) (dg X).length cx), (2, .slice ay 0 cy)] Yba.func21 rfl Yba.ntmps21 (by simp) (.cons rfl (.cons rfl (.cons rfl .nil))) ?_
  intro w0 hw0
  repeat (first | refine c_seq ?_ | refine c_region ?_ | refine c_block ?_ | refine c_skip ?_ | refine c_exit ?_ | refine c_ret ?_ | refine n_then ?_ | refine n_block ?_ | refine x_then ?_ | refine x_block_eq ?_ | refine x_block_ne rfl ?_ | refine r_then ?_ | refine r_block ?_ | refine s_nil ?_ | refine c_true rfl ?_ | refine c_false rfl ?_ | refine s_pur (p_move rfl) rfl ?_ | refine s_pur (p_assign rfl) rfl ?_ | refine s_pur (p_nil rfl) rfl ?_ | refine s_pur (p_pick_t rfl rfl) rfl ?_ | refine s_pur (p_pick_f rfl rfl) rfl ?_ | refine s_pur (p_len rfl Yba.underlying30) rfl ?_ | refine s_pur (p_idx1 rfl rfl rfl (by omega) Yba.underlying30 Yba.sizeOf45) rfl ?_ | refine s_pur (p_lssT rfl rfl (by omega)) rfl ?_ | refine s_pur (p_lssF rfl rfl (by omega)) rfl ?_ | refine s_pur (p_leqT rfl rfl (by omega)) rfl ?_ | refine s_pur (p_leqF rfl rfl (by omega)) rfl ?_ | refine s_pur (p_gtrT rfl rfl (by omega)) rfl ?_ | refine s_pur (p_gtrF rfl rfl (by omega)) rfl ?_ | refine s_pur (p_geqT rfl rfl (by omega)) rfl ?_ | refine s_pur (p_geqF rfl rfl (by omega)) rfl ?_ | refine s_pur (p_eqlT rfl rfl (by omega)) rfl ?_ | refine s_pur (p_eqlF rfl rfl (by omega)) rfl ?_ | refine s_pur (p_neqT rfl rfl (by omega)) rfl ?_ | refine s_pur (p_neqF rfl rfl (by omega)) rfl ?_)
  refine s_call Yba.call25 rfl rfl hset ?_
  rintro u h1 hr
  repeat (first | refine c_seq ?_ | refine c_region ?_ | refine c_block ?_ | refine c_skip ?_ | refine c_exit ?_ | refine c_ret ?_ | refine n_then ?_ | refine n_block ?_ | refine x_then ?_ | refine x_block_eq ?_ | refine x_block_ne rfl ?_ | refine r_then ?_ | refine r_block ?_ | refine s_nil ?_ | refine c_true rfl ?_ | refine c_false rfl ?_ | refine s_pur (p_move rfl) rfl ?_ | refine s_pur (p_assign rfl) rfl ?_ | refine s_pur (p_nil rfl) rfl ?_ | refine s_pur (p_pick_t rfl rfl) rfl ?_ | refine s_pur (p_pick_f rfl rfl) rfl ?_)
  exact ret1 Yba.results21 rfl hr

theorem nv_slice {h : Heap} {base X : Nat} {u : Value} (hx : NV h base u X) : ∃ a c, u = .slice a (dg X).length c := by
  obtain ⟨a, c, e, _⟩ := hx.1.slice
  exact ⟨a, c, e⟩
/-- Where x has fewer words than y the call turns them round. -/
theorem add_turn (h : Heap) (zv : Value) (ax ay : Option Addr) (m n cx cy : Nat) (hlt : m < n) (R : Value → Heap → Prop) (hc : CallsH Yba.prog 20 #[zv, .slice ay n cy, .slice ax m cx] h R) :
    CallsH Yba.prog 20 #[zv, .slice ax m cx, .slice ay n cy] h R := by
  refine calls_of [(0, zv), (1, .slice ax m cx), (2, .slice ay n cy)] Yba.func20 rfl Yba.ntmps20 (by simp) (.cons rfl (.cons rfl (.cons rfl .nil))) ?_
  intro w0 hw0
  repeat (first | refine c_seq ?_ | refine c_region ?_ | refine c_block ?_ | refine c_skip ?_ | refine c_exit ?_ | refine c_ret ?_ | refine n_then ?_ | refine n_block ?_ | refine x_then ?_ | refine x_block_eq ?_ | refine x_block_ne rfl ?_ | refine r_then ?_ | refine r_block ?_ | refine s_nil ?_ | refine c_true rfl ?_ | refine c_false rfl ?_ | refine s_pur (p_move rfl) rfl ?_ | refine s_pur (p_assign rfl) rfl ?_ | refine s_pur (p_nil rfl) rfl ?_ | refine s_pur (p_pick_t rfl rfl) rfl ?_ | refine s_pur (p_pick_f rfl rfl) rfl ?_ | refine s_pur (p_len rfl Yba.underlying30) rfl ?_ | refine s_pur (p_idx1 rfl rfl rfl (by omega) Yba.underlying30 Yba.sizeOf45) rfl ?_ | refine s_pur (p_lssT rfl rfl (by omega)) rfl ?_ | refine s_pur (p_lssF rfl rfl (by omega)) rfl ?_ | refine s_pur (p_leqT rfl rfl (by omega)) rfl ?_ | refine s_pur (p_leqF rfl rfl (by omega)) rfl ?_ | refine s_pur (p_gtrT rfl rfl (by omega)) rfl ?_ | refine s_pur (p_gtrF rfl rfl (by omega)) rfl ?_ | refine s_pur (p_geqT rfl rfl (by omega)) rfl ?_ | refine s_pur (p_geqF rfl rfl (by omega)) rfl ?_ | refine s_pur (p_eqlT rfl rfl (by omega)) rfl ?_ | refine s_pur (p_eqlF rfl rfl (by omega)) rfl ?_ | refine s_pur (p_neqT rfl rfl (by omega)) rfl ?_ | refine s_pur (p_neqF rfl rfl (by omega)) rfl ?_)
  refine s_call Yba.call20 rfl rfl hc ?_
  rintro u h1 hr
  repeat (first | refine c_seq ?_ | refine c_region ?_ | refine c_block ?_ | refine c_skip ?_ | refine c_exit ?_ | refine c_ret ?_ | refine n_then ?_ | refine n_block ?_ | refine x_then ?_ | refine x_block_eq ?_ | refine x_block_ne rfl ?_ | refine r_then ?_ | refine r_block ?_ | refine s_nil ?_ | refine c_true rfl ?_ | refine c_false rfl ?_ | refine s_pur (p_move rfl) rfl ?_ | refine s_pur (p_assign rfl) rfl ?_ | refine s_pur (p_nil rfl) rfl ?_ | refine s_pur (p_pick_t rfl rfl) rfl ?_ | refine s_pur (p_pick_f rfl rfl) rfl ?_)
  exact ret1 Yba.results20 rfl hr

theorem natAdd_ok (h : Heap) (base nz X Y : Nat) (zv xv yv : Value) (zs : List Value) (hz : Owns h base 45 1 zv nz zs) (hbase : base ≤ h.size) (hx : NV h base xv X) (hy : NV h base yv Y) (hs : X + Y < B * B) :
    CallsH Yba.prog 20 #[zv, xv, yv] h (fun u h' => NRes h h' base zv u (X + Y)) := by
  have turn : ∀ (X Y : Nat) (xv yv : Value), NV h base xv X → NV h base yv Y → (dg X).length < (dg Y).length → CallsH Yba.prog 20 #[zv, yv, xv] h (fun u h' => NRes h h' base zv u (Y + X)) → CallsH Yba.prog 20 #[zv, xv, yv] h (fun u h' => NRes h h' base zv u (X + Y)) := by
    intro X Y xv yv hx hy hlt hc
    obtain ⟨ax, cx, rfl⟩ := nv_slice hx
    obtain ⟨ay, cy, rfl⟩ := nv_slice hy
    rw [Nat.add_comm] at hc
    exact add_turn h zv ax ay _ _ cx cy hlt _ hc
  have l1 := dg_le2 X
  have l2 := dg_le2 Y
  rcases (by omega : (dg X).length = 0 ∨ (dg X).length = 1 ∨ (dg X).length = 2) with ex | ex | ex
  · have e := dg_len0 ex
    subst e
    by_cases hY : Y = 0
    · subst hY; exact add00_ok h base nz zv xv yv zs hz hx hy
    · exact turn 0 Y xv yv hx hy (by have := dg_pos hY; omega) (add_0_ok h base nz Y zv yv xv zs hz hbase hy hx hY)
  · have hX : X ≠ 0 := by intro e; subst e; simp [dg] at ex
    rcases (by omega : (dg Y).length = 0 ∨ (dg Y).length = 1 ∨ (dg Y).length = 2) with ey | ey | ey
    · have e := dg_len0 ey
      subst e
      exact add_0_ok h base nz X zv xv yv zs hz hbase hx hy hX
    · exact add11_ok h base nz X Y zv xv yv zs hz hbase hx hy ex ey hs
    · exact turn X Y xv yv hx hy (by omega) (add21_ok h base nz Y X zv yv xv zs hz hbase hy hx ey ex (by omega))
  · have hX : X ≠ 0 := by intro e; subst e; simp [dg] at ex
    rcases (by omega : (dg Y).length = 0 ∨ (dg Y).length = 1 ∨ (dg Y).length = 2) with ey | ey | ey
    · have e := dg_len0 ey
      subst e
      exact add_0_ok h base nz X zv xv yv zs hz hbase hx hy hX
    · exact add21_ok h base nz X Y zv xv yv zs hz hbase hx hy ex ey hs
    · exact add22_ok h base nz X Y zv xv yv zs hz hbase hx hy ex ey hs

theorem natSub_ok (h : Heap) (base nz X Y : Nat) (zv xv yv : Value) (zs : List Value) (hz : Owns h base 45 1 zv nz zs) (hbase : base ≤ h.size) (hx : NV h base xv X) (hy : NV h base yv Y) (hs : Y ≤ X) :
    CallsH Yba.prog 21 #[zv, xv, yv] h (fun u h' => NRes h h' base zv u (X - Y)) := by
  have l1 := dg_le2 X
  have l2 := dg_le2 Y
  rcases (by omega : (dg Y).length = 0 ∨ (dg Y).length = 1 ∨ (dg Y).length = 2) with ey | ey | ey
  · have e := dg_len0 ey
    subst e
    by_cases hX : X = 0
    · subst hX; exact sub00_ok h base nz zv xv yv zs hz hx hy
    · exact sub_0_ok h base nz X zv xv yv zs hz hbase hx hy hX
  · obtain ⟨hy0, hyb, _⟩ := dg_len1 ey
    rcases (by omega : (dg X).length = 0 ∨ (dg X).length = 1 ∨ (dg X).length = 2) with ex | ex | ex
    · have e := dg_len0 ex
      omega
    · exact sub11_ok h base nz X Y zv xv yv zs hz hbase hx hy ex ey hs
    · exact sub21_ok h base nz X Y zv xv yv zs hz hbase hx hy ex ey hs
  · obtain ⟨hyb, _⟩ := dg_len2 ey
    rcases (by omega : (dg X).length = 0 ∨ (dg X).length = 1 ∨ (dg X).length = 2) with ex | ex | ex
    · have e := dg_len0 ex
      subst e
      simp only [B] at *
      omega
    · obtain ⟨_, hxb, _⟩ := dg_len1 ex
      omega
    · exact sub22_ok h base nz X Y zv xv yv zs hz hbase hx hy ex ey hs
end Go.Proofs.Ybulkdirs
