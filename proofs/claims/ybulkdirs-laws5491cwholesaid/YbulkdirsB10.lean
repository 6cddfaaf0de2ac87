/-
  B10: math/big: nat.lsh and Int.Lsh by 64, Int.Neg, Int.Cmp at equal numbers.
-/
import Derived.Test.YbulkdirsB9
namespace Go.Proofs.Ybulkdirs
set_option linter.unusedSimpArgs false
set_option linter.unusedVariables false
set_option linter.unnecessarySimpa false
open Go Go.RowKit V
set_option maxRecDepth 100000

theorem V.p_quo {P : Program} {l : Env} {h : Heap} {ty t t2 : TypeId} {x y : Operand} {k : IntKind} {a b c : Int} (hx : ev l x = some (.int k a)) (hy : ev l y = some (.int k b)) (h0 : ¬ b = 0) (hc : k.wrap (a.tdiv b) = c) : Pur P (.binOp .quo t x y t2) ty l h (.int k c) := by
  refine ⟨fun ρ w d p af g hρ hw => ?_⟩; subst hc; simp [execOp, hρ _ _ hx, hρ _ _ hy, eqGuard, binOp, Op.intDiv, h0]

/-- clear of one cell. -/
theorem V.e_clear1 {P : Program} {l : Env} {h : Heap} {ty : TypeId} {x : Operand} {t e : TypeId} {z : Value} {b o c : Nat} {cur : Array Value} {et : TypeId} (hx : ev l x = some (.slice (some ⟨b, o, none⟩) 1 c)) (hu : P.underlying t = some (.slice e)) (hz : ∀ w, (zeroValue e).run P w = .ok z w) (hzc : z.cells = #[z]) (h1 : z.oneCell' = true)
    (hb : h[b]? = some (.cells cur et (0, 0))) (ho : o < cur.size) :
    Eff P (.call { callee := .builtin .clear, args := #[x], argTypes := #[t] }) ty l h (fun _ h' => Upd h h' b (.cells (cur.setIfInBounds o z) et (0, 0))) := by
  refine ⟨fun ρ w d p af g hρ hw => ?_⟩
  subst hw
  have hr := Go.Lib.run_clear_slice (P := P) w t e ty z hu hz hzc h1 b o 1 c (by omega) (fun j hj => by
    have : j = 0 := by omega
    subst this
    rw [cell_hc, hc_of hb]; simp [ho]) (fun j hj => by simp [World.frozen?, hb])
  refine ⟨.tuple #[], w.setCells b o (List.replicate 1 z), .inl ?_, ?_, ?_, ?_, ?_⟩
  · simp [execOp, resolve, invoke, builtin, hρ _ _ hx, hr]
  · exact upd_set (o := o) (v := z) hb
  · rfl
  · rfl
  · rfl

set_option maxHeartbeats 4000000 in
theorem lsh64_ok (h : Heap) (base X : Nat) (zv : Value) (hx : NV h base zv X) (hbase : base ≤ h.size) (hX : X < B) :
    CallsH Yba.prog 23 #[zv, zv, .int .u64 ((64 : Nat) : Int)] h (fun u h' => NRes h h' base zv u (X * B)) := by
  by_cases h0 : X = 0
  · subst h0
    obtain ⟨a, c, rfl, ho, he⟩ := hx.1.none
    refine calls_of [(0, .slice a 0 c), (1, .slice a 0 c), (2, .int .u64 ((64 : Nat) : Int))] Yba.func23 rfl Yba.ntmps23 (by simp) (.cons rfl (.cons rfl (.cons rfl .nil))) ?_
    intro w0 hw0
    repeat (first | refine c_seq ?_ | refine c_region ?_ | refine c_block ?_ | refine c_skip ?_ | refine c_exit ?_ | refine c_ret ?_ | refine n_then ?_ | refine n_block ?_ | refine x_then ?_ | refine x_block_eq ?_ | refine x_block_ne rfl ?_ | refine r_then ?_ | refine r_block ?_ | refine s_nil ?_ | refine c_true rfl ?_ | refine c_false rfl ?_ | refine s_pur (p_move rfl) rfl ?_ | refine s_pur (p_assign rfl) rfl ?_ | refine s_pur (p_nil rfl) rfl ?_ | refine s_pur (p_pick_t rfl rfl) rfl ?_ | refine s_pur (p_pick_f rfl rfl) rfl ?_ | refine s_pur (p_len rfl Yba.underlying30) rfl ?_ | refine s_pur (p_idx1 rfl rfl rfl (by omega) Yba.underlying30 Yba.sizeOf45) rfl ?_ | refine s_pur (p_reslice (m := 0) rfl rfl (by omega) Yba.underlying30 Yba.sizeOf45) rfl ?_ | refine s_pur (p_lssT rfl rfl (by omega)) rfl ?_ | refine s_pur (p_lssF rfl rfl (by omega)) rfl ?_ | refine s_pur (p_leqT rfl rfl (by omega)) rfl ?_ | refine s_pur (p_leqF rfl rfl (by omega)) rfl ?_ | refine s_pur (p_gtrT rfl rfl (by omega)) rfl ?_ | refine s_pur (p_gtrF rfl rfl (by omega)) rfl ?_ | refine s_pur (p_geqT rfl rfl (by omega)) rfl ?_ | refine s_pur (p_geqF rfl rfl (by omega)) rfl ?_ | refine s_pur (p_eqlT rfl rfl (by omega)) rfl ?_ | refine s_pur (p_eqlF rfl rfl (by omega)) rfl ?_ | refine s_pur (p_neqT rfl rfl (by omega)) rfl ?_ | refine s_pur (p_neqF rfl rfl (by omega)) rfl ?_)
    refine ret1 Yba.results23 rfl ?_
    rw [Nat.zero_mul]
    exact NRes.zero (n := 0) (xs := []) ho he
  · have hd := dg_1 h0 hX
    have hz := hx.1
    obtain ⟨gx, cx, curx, rfl, hgx, hsx, hnx, hbx, hcx⟩ := hx.cells h0
    have x0 : hc h gx (0 + 0) = some (wd X) := by have := hcx 0 (by rw [hd]; simp); rw [hd] at this; exact this
    have hl : (dg X).length = 1 := by rw [hd]; rfl
    have hmake := make_ok h base _ 3 _ _ hz (by omega) (by omega)
    rw [hl] at hmake hnx hz ⊢
    refine calls_of [(0, .slice (some ⟨gx, 0, none⟩) 1 cx), (1, .slice (some ⟨gx, 0, none⟩) 1 cx), (2, .int .u64 ((64 : Nat) : Int))] Yba.func23 rfl Yba.ntmps23 (by simp) (.cons rfl (.cons rfl (.cons rfl .nil))) ?_
    intro w0 hw0
    repeat (first | refine c_seq ?_ | refine c_region ?_ | refine c_block ?_ | refine c_skip ?_ | refine c_exit ?_ | refine c_ret ?_ | refine n_then ?_ | refine n_block ?_ | refine x_then ?_ | refine x_block_eq ?_ | refine x_block_ne rfl ?_ | refine r_then ?_ | refine r_block ?_ | refine s_nil ?_ | refine c_true rfl ?_ | refine c_false rfl ?_ | refine s_pur (p_move rfl) rfl ?_ | refine s_pur (p_assign rfl) rfl ?_ | refine s_pur (p_nil rfl) rfl ?_ | refine s_pur (p_pick_t rfl rfl) rfl ?_ | refine s_pur (p_pick_f rfl rfl) rfl ?_ | refine s_pur (p_len rfl Yba.underlying30) rfl ?_ | refine s_pur (p_idx1 rfl rfl rfl (by omega) Yba.underlying30 Yba.sizeOf45) rfl ?_ | refine s_pur (p_quo (c := ((1 : Nat) : Int)) rfl rfl (by omega) (by decide)) rfl ?_ | refine s_pur (p_conv64 rfl Yba.underlying39 Yba.underlying3 (by omega) (by omega)) rfl ?_ | refine s_pur (p_add (c := ((2 : Nat) : Int)) rfl rfl (by omega) (by omega) (by omega)) rfl ?_ | refine s_pur (p_add (c := ((3 : Nat) : Int)) rfl rfl (by omega) (by omega) (by omega)) rfl ?_ | refine s_pur (p_lssT rfl rfl (by omega)) rfl ?_ | refine s_pur (p_lssF rfl rfl (by omega)) rfl ?_ | refine s_pur (p_leqT rfl rfl (by omega)) rfl ?_ | refine s_pur (p_leqF rfl rfl (by omega)) rfl ?_ | refine s_pur (p_gtrT rfl rfl (by omega)) rfl ?_ | refine s_pur (p_gtrF rfl rfl (by omega)) rfl ?_ | refine s_pur (p_geqT rfl rfl (by omega)) rfl ?_ | refine s_pur (p_geqF rfl rfl (by omega)) rfl ?_ | refine s_pur (p_eqlT rfl rfl (by omega)) rfl ?_ | refine s_pur (p_eqlF rfl rfl (by omega)) rfl ?_ | refine s_pur (p_neqT rfl rfl (by omega)) rfl ?_ | refine s_pur (p_neqF rfl rfl (by omega)) rfl ?_)
    refine s_call Yba.call26 rfl rfl hmake ?_
    rintro _ h1 ⟨g, c, cur, ⟨rfl, hg, hsz, hmc, hmx⟩, hm⟩
    have x1 : hc h1 gx (0 + 0) = some (wd X) := by
      rcases hm with ⟨_, rfl⟩ | ⟨_, nn⟩
      · exact x0
      · rw [hc_congr (nn.other gx (lt_of_get hgx))]; exact x0
    repeat (first | refine c_seq ?_ | refine c_region ?_ | refine c_block ?_ | refine c_skip ?_ | refine c_exit ?_ | refine c_ret ?_ | refine n_then ?_ | refine n_block ?_ | refine x_then ?_ | refine x_block_eq ?_ | refine x_block_ne rfl ?_ | refine r_then ?_ | refine r_block ?_ | refine s_nil ?_ | refine c_true rfl ?_ | refine c_false rfl ?_ | refine s_pur (p_move rfl) rfl ?_ | refine s_pur (p_assign rfl) rfl ?_ | refine s_pur (p_nil rfl) rfl ?_ | refine s_pur (p_pick_t rfl rfl) rfl ?_ | refine s_pur (p_pick_f rfl rfl) rfl ?_ | refine s_pur (p_remN (n := 64) (r := 0) rfl rfl (by omega) (by omega)) rfl ?_ | refine s_pur (p_sub (c := ((1 : Nat) : Int)) rfl rfl (by omega) (by omega) (by omega)) rfl ?_ | refine s_pur (p_sliceLH (p := 1) (q := 2) rfl rfl rfl (by omega) (by omega) (by omega) Yba.underlying30 Yba.sizeOf45) rfl ?_ | refine s_pur (p_lssT rfl rfl (by omega)) rfl ?_ | refine s_pur (p_lssF rfl rfl (by omega)) rfl ?_ | refine s_pur (p_leqT rfl rfl (by omega)) rfl ?_ | refine s_pur (p_leqF rfl rfl (by omega)) rfl ?_ | refine s_pur (p_gtrT rfl rfl (by omega)) rfl ?_ | refine s_pur (p_gtrF rfl rfl (by omega)) rfl ?_ | refine s_pur (p_geqT rfl rfl (by omega)) rfl ?_ | refine s_pur (p_geqF rfl rfl (by omega)) rfl ?_ | refine s_pur (p_eqlT rfl rfl (by omega)) rfl ?_ | refine s_pur (p_eqlF rfl rfl (by omega)) rfl ?_ | refine s_pur (p_neqT rfl rfl (by omega)) rfl ?_ | refine s_pur (p_neqF rfl rfl (by omega)) rfl ?_)
    refine s_eff (e_copy (cs := [wd X]) rfl rfl Yba.underlying30 size45 hg rfl (fun j v hj => ?_) (by simp; omega) (by intro v hv; simp at hv; subst hv; rfl)) rfl ?_
    · cases j with
      | zero => simp at hj; subst hj; rw [add_none, cell_hc]; exact x1
      | succ j => simp at hj
    rintro _ h2 u2
    have sz2 : (cur.toList.take (0 + 1) ++ [wd X] ++ cur.toList.drop (0 + 1 + [wd X].length)).toArray.size = c := by simp; omega
    have c21 : (cur.toList.take (0 + 1) ++ [wd X] ++ cur.toList.drop (0 + 1 + [wd X].length)).toArray[1]? = some (wd X) := by
      have hl1 : (cur.toList.take (0 + 1)).length = 1 := by simp; omega
      rw [List.getElem?_toArray, List.getElem?_append_left (by simp; omega), List.getElem?_append_right (by omega), hl1]
      rfl
    generalize (cur.toList.take (0 + 1) ++ [wd X] ++ cur.toList.drop (0 + 1 + [wd X].length)).toArray = cur2 at u2 sz2 c21
    repeat (first | refine c_seq ?_ | refine c_region ?_ | refine c_block ?_ | refine c_skip ?_ | refine c_exit ?_ | refine c_ret ?_ | refine n_then ?_ | refine n_block ?_ | refine x_then ?_ | refine x_block_eq ?_ | refine x_block_ne rfl ?_ | refine r_then ?_ | refine r_block ?_ | refine s_nil ?_ | refine c_true rfl ?_ | refine c_false rfl ?_ | refine s_pur (p_move rfl) rfl ?_ | refine s_pur (p_assign rfl) rfl ?_ | refine s_pur (p_nil rfl) rfl ?_ | refine s_pur (p_pick_t rfl rfl) rfl ?_ | refine s_pur (p_pick_f rfl rfl) rfl ?_ | refine s_pur (p_idx1 (j := 2) rfl rfl rfl (by omega) Yba.underlying30 Yba.sizeOf45) rfl ?_ | refine s_pur (p_lssT rfl rfl (by omega)) rfl ?_ | refine s_pur (p_lssF rfl rfl (by omega)) rfl ?_ | refine s_pur (p_leqT rfl rfl (by omega)) rfl ?_ | refine s_pur (p_leqF rfl rfl (by omega)) rfl ?_ | refine s_pur (p_gtrT rfl rfl (by omega)) rfl ?_ | refine s_pur (p_gtrF rfl rfl (by omega)) rfl ?_ | refine s_pur (p_geqT rfl rfl (by omega)) rfl ?_ | refine s_pur (p_geqF rfl rfl (by omega)) rfl ?_ | refine s_pur (p_eqlT rfl rfl (by omega)) rfl ?_ | refine s_pur (p_eqlF rfl rfl (by omega)) rfl ?_ | refine s_pur (p_neqT rfl rfl (by omega)) rfl ?_ | refine s_pur (p_neqF rfl rfl (by omega)) rfl ?_)
    refine s_eff0 (e_store rfl rfl rfl Yba.sizeOf45 u2.at_ (by omega)) ?_
    rintro _ h3 u3
    repeat (first | refine c_seq ?_ | refine c_region ?_ | refine c_block ?_ | refine c_skip ?_ | refine c_exit ?_ | refine c_ret ?_ | refine n_then ?_ | refine n_block ?_ | refine x_then ?_ | refine x_block_eq ?_ | refine x_block_ne rfl ?_ | refine r_then ?_ | refine r_block ?_ | refine s_nil ?_ | refine c_true rfl ?_ | refine c_false rfl ?_ | refine s_pur (p_move rfl) rfl ?_ | refine s_pur (p_assign rfl) rfl ?_ | refine s_pur (p_nil rfl) rfl ?_ | refine s_pur (p_pick_t rfl rfl) rfl ?_ | refine s_pur (p_pick_f rfl rfl) rfl ?_ | refine s_pur (p_sub (c := ((1 : Nat) : Int)) rfl rfl (by omega) (by omega) (by omega)) rfl ?_ | refine s_pur (p_slice0H (q := 1) rfl rfl rfl (by omega) Yba.underlying30 Yba.sizeOf45) rfl ?_ | refine s_pur (p_lssT rfl rfl (by omega)) rfl ?_ | refine s_pur (p_lssF rfl rfl (by omega)) rfl ?_ | refine s_pur (p_leqT rfl rfl (by omega)) rfl ?_ | refine s_pur (p_leqF rfl rfl (by omega)) rfl ?_ | refine s_pur (p_gtrT rfl rfl (by omega)) rfl ?_ | refine s_pur (p_gtrF rfl rfl (by omega)) rfl ?_ | refine s_pur (p_geqT rfl rfl (by omega)) rfl ?_ | refine s_pur (p_geqF rfl rfl (by omega)) rfl ?_ | refine s_pur (p_eqlT rfl rfl (by omega)) rfl ?_ | refine s_pur (p_eqlF rfl rfl (by omega)) rfl ?_ | refine s_pur (p_neqT rfl rfl (by omega)) rfl ?_ | refine s_pur (p_neqF rfl rfl (by omega)) rfl ?_)
    refine s_eff0 (e_clear1 rfl Yba.underlying30 Yba.zeroValue45 rfl rfl u3.at_ (by simp; omega)) ?_
    rintro _ h4 u4
    have fcell : ∀ j, j < 3 → ((cur2.setIfInBounds (0 + 2) (.int .u64 0)).setIfInBounds 0 (.int .u64 0))[j]? = some (wd ((fun j => if j = 1 then X else 0) j)) := by
      intro j hj
      rw [Array.getElem?_setIfInBounds, Array.getElem?_setIfInBounds]
      rcases (by omega : j = 0 ∨ j = 1 ∨ j = 2) with rfl | rfl | rfl
      · rw [if_pos rfl, if_pos (by simp; omega)]; simp [wd]
      · rw [if_neg (by omega), if_neg (by omega)]; simp only [if_true]; exact c21
      · rw [if_neg (by omega), if_pos (by omega), if_pos (by omega)]; simp [wd]
    have hnorm := norm_ok h4 (some ⟨g, 0, none⟩) 3 c (fun j => if j = 1 then X else 0) (fun j hj => ⟨g, rfl, by rw [hc_of u4.at_, show 0 + j = j from Nat.zero_add j]; exact fcell j hj⟩) (by omega) (by omega)
    repeat (first | refine c_seq ?_ | refine c_region ?_ | refine c_block ?_ | refine c_skip ?_ | refine c_exit ?_ | refine c_ret ?_ | refine n_then ?_ | refine n_block ?_ | refine x_then ?_ | refine x_block_eq ?_ | refine x_block_ne rfl ?_ | refine r_then ?_ | refine r_block ?_ | refine s_nil ?_ | refine c_true rfl ?_ | refine c_false rfl ?_ | refine s_pur (p_move rfl) rfl ?_ | refine s_pur (p_assign rfl) rfl ?_ | refine s_pur (p_nil rfl) rfl ?_ | refine s_pur (p_pick_t rfl rfl) rfl ?_ | refine s_pur (p_pick_f rfl rfl) rfl ?_)
    refine s_call Yba.call29 rfl rfl hnorm ?_
    rintro _ _ ⟨rfl, rfl⟩
    repeat (first | refine c_seq ?_ | refine c_region ?_ | refine c_block ?_ | refine c_skip ?_ | refine c_exit ?_ | refine c_ret ?_ | refine n_then ?_ | refine n_block ?_ | refine x_then ?_ | refine x_block_eq ?_ | refine x_block_ne rfl ?_ | refine r_then ?_ | refine r_block ?_ | refine s_nil ?_ | refine c_true rfl ?_ | refine c_false rfl ?_ | refine s_pur (p_move rfl) rfl ?_ | refine s_pur (p_assign rfl) rfl ?_ | refine s_pur (p_nil rfl) rfl ?_ | refine s_pur (p_pick_t rfl rfl) rfl ?_ | refine s_pur (p_pick_f rfl rfl) rfl ?_)
    refine ret1 Yba.results23 rfl (nres_mk hz hbase hm (fun q hq => by rw [u4.other q hq, u3.other q hq, u2.other q hq]) (by have := u4.size; have := u3.size; have := u2.size; omega) u4.at_ (by simp; omega) hmc hmx fcell ?_ (Nat.mul_lt_mul_of_pos_right hX B_pos))
    refine nd3 ?_ ?_ ?_ ?_
    · simp [B]
    · simpa using hX
    · simp
    · simp
end Go.Proofs.Ybulkdirs
