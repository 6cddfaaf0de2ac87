/-
  B14: roster.zzs5491cmodel, whole.
-/
import Derived.Test.YbulkdirsB13
namespace Go.Proofs.Ybulkdirs
set_option linter.unusedSimpArgs false
set_option linter.unusedVariables false
set_option linter.unnecessarySimpa false
open Go Go.RowKit V
set_option maxRecDepth 100000

set_option maxHeartbeats 4000000 in
theorem model_ok (h : Heap) (va : Option Addr) (n vc : Nat) (S : Nat → Int) (hv : ∀ i, i < n → ∃ b o, va = some ⟨b, o, none⟩ ∧ hc h b (o + i * 4 + 2) = some (.int .i64 (S i))) (hS : ∀ i, -9223372036854775808 ≤ S i ∧ S i ≤ 9223372036854775807) (hn : n ≤ 1048576) :
    CallsH Yba.prog 6 #[.slice va n vc] h (fun u h' => u = .pointer (some ⟨h.size, 0, none⟩) ∧ Low h.size h h' ∧ ∃ nv, ZV h' h.size h.size (sumTo S n) nv) := by
  refine calls_of [(0, .slice va n vc)] Yba.func6 rfl Yba.ntmps6 (by simp) (.cons rfl .nil) ?_
  intro w0 hw0
  refine c_mid [(0, .slice va n vc)] (fun q => h = q) ?_ ?_
  · repeat (first | refine c_seq ?_ | refine c_region ?_ | refine c_block ?_ | refine c_skip ?_ | refine c_exit ?_ | refine c_ret ?_ | refine n_then ?_ | refine n_block ?_ | refine x_then ?_ | refine x_block_eq ?_ | refine x_block_ne rfl ?_ | refine r_then ?_ | refine r_block ?_ | refine s_nil ?_ | refine c_true rfl ?_ | refine c_false rfl ?_ | refine s_pur (p_move rfl) rfl ?_ | refine s_pur (p_assign rfl) rfl ?_ | refine s_pur (p_nil rfl) rfl ?_ | refine s_pur (p_pick_t rfl rfl) rfl ?_ | refine s_pur (p_pick_f rfl rfl) rfl ?_)
    exact m_done rfl (by repeat (first | exact Sub.nil | refine Sub.cons rfl ?_))
  rintro _ rfl
  refine c_mid [(0, .slice va n vc), (3, .int .u64 ((tc 0 / B : Nat) : Int)), (4, .int .u64 ((tc 0 % B : Nat) : Int))] (fun q => h = q) ?_ ?_
  · repeat (first | refine c_seq ?_ | refine c_region ?_ | refine c_block ?_ | refine c_skip ?_ | refine c_exit ?_ | refine c_ret ?_ | refine n_then ?_ | refine n_block ?_ | refine x_then ?_ | refine x_block_eq ?_ | refine x_block_ne rfl ?_ | refine r_then ?_ | refine r_block ?_ | refine s_nil ?_ | refine c_true rfl ?_ | refine c_false rfl ?_ | refine s_pur (p_move rfl) rfl ?_ | refine s_pur (p_assign rfl) rfl ?_ | refine s_pur (p_nil rfl) rfl ?_ | refine s_pur (p_pick_t rfl rfl) rfl ?_ | refine s_pur (p_pick_f rfl rfl) rfl ?_)
    exact m_done rfl (by repeat (first | exact Sub.nil | refine Sub.cons rfl ?_))
  rintro _ rfl
  refine c_mid [(3, .int .u64 ((tc (sumTo S n) / B : Nat) : Int)), (4, .int .u64 ((tc (sumTo S n) % B : Nat) : Int))] (fun q => h = q) ?_ ?_
  · repeat (first | refine c_seq ?_ | refine c_region ?_ | refine c_block ?_ | refine c_skip ?_ | refine c_exit ?_ | refine c_ret ?_ | refine n_then ?_ | refine n_block ?_ | refine x_then ?_ | refine x_block_eq ?_ | refine x_block_ne rfl ?_ | refine r_then ?_ | refine r_block ?_ | refine s_nil ?_ | refine c_true rfl ?_ | refine c_false rfl ?_ | refine s_pur (p_move rfl) rfl ?_ | refine s_pur (p_assign rfl) rfl ?_ | refine s_pur (p_nil rfl) rfl ?_ | refine s_pur (p_pick_t rfl rfl) rfl ?_ | refine s_pur (p_pick_f rfl rfl) rfl ?_)
    refine c_loop (fun k : Nat => [(0, .slice va n vc), (3, .int .u64 ((tc (sumTo S k) / B : Nat) : Int)), (4, .int .u64 ((tc (sumTo S k) % B : Nat) : Int)), (5, .int .i64 k)]) (fun k q => k ≤ n ∧ h = q) (fun k => n - k) 0 ⟨by omega, rfl⟩ (by repeat (first | exact Sub.nil | refine Sub.cons rfl ?_)) ?_
    rintro k _ ⟨hk, rfl⟩
    by_cases hlt : k < n
    · obtain ⟨b, o, rfl, hcell⟩ := hv k hlt
      have hst := tc_step (sumTo S k) (S k) (hS k).1 (hS k).2
      have hsu : sumTo S (k + 1) = sumTo S k + S k := rfl
      rw [← hsu] at hst
      have hc1 : (tc (sumTo S k) % B + (S k % 18446744073709551616).toNat + 0) / B ≤ 1 := by
        have h1 : tc (sumTo S k) % B < B := Nat.mod_lt _ B_pos
        have h2 : (S k % 18446744073709551616).toNat < B := by simp only [B]; omega
        have := Nat.div_lt_of_lt_mul (show tc (sumTo S k) % B + (S k % 18446744073709551616).toNat + 0 < B * 2 by omega)
        omega
      generalize hlo : tc (sumTo S k) % B = lo at hst hc1
      generalize hhi : tc (sumTo S k) / B = hi at hst
      have hcv := wrapU (S k)
      generalize (S k % 18446744073709551616).toNat = w at hst hc1 hcv
      have a1 := run_add64N lo w 0 (by omega)
      by_cases hneg : S k < 0
      · rw [if_pos hneg] at hst
        have a2 := run_add64N hi 18446744073709551615 ((lo + w + 0) / B) hc1
        rw [← hst.1] at a1
        rw [← hst.2] at a2
        clear hst hc1 hlo hhi
        repeat (first | refine c_seq ?_ | refine c_region ?_ | refine c_block ?_ | refine c_skip ?_ | refine c_exit ?_ | refine c_ret ?_ | refine n_then ?_ | refine n_block ?_ | refine x_then ?_ | refine x_block_eq ?_ | refine x_block_ne rfl ?_ | refine r_then ?_ | refine r_block ?_ | refine s_nil ?_ | refine c_true rfl ?_ | refine c_false rfl ?_ | refine s_pur (p_move rfl) rfl ?_ | refine s_pur (p_assign rfl) rfl ?_ | refine s_pur (p_nil rfl) rfl ?_ | refine s_pur (p_pick_t rfl rfl) rfl ?_ | refine s_pur (p_pick_f rfl rfl) rfl ?_ | refine s_pur (p_len rfl Yba.underlying22) rfl ?_ | refine s_pur (p_idx rfl rfl rfl (by omega) Yba.underlying22 Yba.sizeOf27) rfl ?_ | refine s_pur (p_fld (off := 2) rfl Yba.underlying27 rfl Yba.sizeOf2 rfl) rfl ?_ | refine s_pur (p_load rfl Yba.isAgg2 (by assumption)) rfl ?_ | refine s_pur (hcv ▸ p_conv rfl Yba.underlying2 Yba.underlying36 : Pur Yba.prog (.convert 2 36 (.tmp 27)) _ _ _ (.int .u64 (w : Int))) rfl ?_ | refine s_pur (p_extern rfl a1) rfl ?_ | refine s_pur (p_extern rfl a2) rfl ?_ | refine s_pur (p_extract rfl rfl) rfl ?_ | refine s_pur (p_lssT rfl rfl (by omega)) rfl ?_ | refine s_pur (p_lssF rfl rfl (by omega)) rfl ?_ | refine s_pur (p_leqT rfl rfl (by omega)) rfl ?_ | refine s_pur (p_leqF rfl rfl (by omega)) rfl ?_ | refine s_pur (p_gtrT rfl rfl (by omega)) rfl ?_ | refine s_pur (p_gtrF rfl rfl (by omega)) rfl ?_ | refine s_pur (p_geqT rfl rfl (by omega)) rfl ?_ | refine s_pur (p_geqF rfl rfl (by omega)) rfl ?_ | refine s_pur (p_eqlT rfl rfl (by omega)) rfl ?_ | refine s_pur (p_eqlF rfl rfl (by omega)) rfl ?_ | refine s_pur (p_neqT rfl rfl (by omega)) rfl ?_ | refine s_pur (p_neqF rfl rfl (by omega)) rfl ?_)
        repeat (first | refine c_seq ?_ | refine c_region ?_ | refine c_block ?_ | refine c_skip ?_ | refine c_exit ?_ | refine c_ret ?_ | refine n_then ?_ | refine n_block ?_ | refine x_then ?_ | refine x_block_eq ?_ | refine x_block_ne rfl ?_ | refine r_then ?_ | refine r_block ?_ | refine s_nil ?_ | refine c_true rfl ?_ | refine c_false rfl ?_ | refine s_pur (p_move rfl) rfl ?_ | refine s_pur (p_assign rfl) rfl ?_ | refine s_pur (p_nil rfl) rfl ?_ | refine s_pur (p_pick_t rfl rfl) rfl ?_ | refine s_pur (p_pick_f rfl rfl) rfl ?_ | refine s_pur (p_add rfl rfl rfl (by omega) (by omega)) rfl ?_)
        exact c_next (k + 1) ⟨hlt, rfl⟩ (by repeat (first | exact Sub.nil | refine Sub.cons rfl ?_)) (by omega)
      · rw [if_neg hneg] at hst
        have a2 := run_add64N hi 0 ((lo + w + 0) / B) hc1
        rw [← hst.1] at a1
        rw [← hst.2] at a2
        clear hst hc1 hlo hhi
        repeat (first | refine c_seq ?_ | refine c_region ?_ | refine c_block ?_ | refine c_skip ?_ | refine c_exit ?_ | refine c_ret ?_ | refine n_then ?_ | refine n_block ?_ | refine x_then ?_ | refine x_block_eq ?_ | refine x_block_ne rfl ?_ | refine r_then ?_ | refine r_block ?_ | refine s_nil ?_ | refine c_true rfl ?_ | refine c_false rfl ?_ | refine s_pur (p_move rfl) rfl ?_ | refine s_pur (p_assign rfl) rfl ?_ | refine s_pur (p_nil rfl) rfl ?_ | refine s_pur (p_pick_t rfl rfl) rfl ?_ | refine s_pur (p_pick_f rfl rfl) rfl ?_ | refine s_pur (p_len rfl Yba.underlying22) rfl ?_ | refine s_pur (p_idx rfl rfl rfl (by omega) Yba.underlying22 Yba.sizeOf27) rfl ?_ | refine s_pur (p_fld (off := 2) rfl Yba.underlying27 rfl Yba.sizeOf2 rfl) rfl ?_ | refine s_pur (p_load rfl Yba.isAgg2 (by assumption)) rfl ?_ | refine s_pur (hcv ▸ p_conv rfl Yba.underlying2 Yba.underlying36 : Pur Yba.prog (.convert 2 36 (.tmp 27)) _ _ _ (.int .u64 (w : Int))) rfl ?_ | refine s_pur (p_extern rfl a1) rfl ?_ | refine s_pur (p_extern rfl a2) rfl ?_ | refine s_pur (p_extract rfl rfl) rfl ?_ | refine s_pur (p_lssT rfl rfl (by omega)) rfl ?_ | refine s_pur (p_lssF rfl rfl (by omega)) rfl ?_ | refine s_pur (p_leqT rfl rfl (by omega)) rfl ?_ | refine s_pur (p_leqF rfl rfl (by omega)) rfl ?_ | refine s_pur (p_gtrT rfl rfl (by omega)) rfl ?_ | refine s_pur (p_gtrF rfl rfl (by omega)) rfl ?_ | refine s_pur (p_geqT rfl rfl (by omega)) rfl ?_ | refine s_pur (p_geqF rfl rfl (by omega)) rfl ?_ | refine s_pur (p_eqlT rfl rfl (by omega)) rfl ?_ | refine s_pur (p_eqlF rfl rfl (by omega)) rfl ?_ | refine s_pur (p_neqT rfl rfl (by omega)) rfl ?_ | refine s_pur (p_neqF rfl rfl (by omega)) rfl ?_)
        repeat (first | refine c_seq ?_ | refine c_region ?_ | refine c_block ?_ | refine c_skip ?_ | refine c_exit ?_ | refine c_ret ?_ | refine n_then ?_ | refine n_block ?_ | refine x_then ?_ | refine x_block_eq ?_ | refine x_block_ne rfl ?_ | refine r_then ?_ | refine r_block ?_ | refine s_nil ?_ | refine c_true rfl ?_ | refine c_false rfl ?_ | refine s_pur (p_move rfl) rfl ?_ | refine s_pur (p_assign rfl) rfl ?_ | refine s_pur (p_nil rfl) rfl ?_ | refine s_pur (p_pick_t rfl rfl) rfl ?_ | refine s_pur (p_pick_f rfl rfl) rfl ?_ | refine s_pur (p_add rfl rfl rfl (by omega) (by omega)) rfl ?_)
        exact c_next (k + 1) ⟨hlt, rfl⟩ (by repeat (first | exact Sub.nil | refine Sub.cons rfl ?_)) (by omega)
    · have : k = n := by omega
      subst this
      repeat (first | refine c_seq ?_ | refine c_region ?_ | refine c_block ?_ | refine c_skip ?_ | refine c_exit ?_ | refine c_ret ?_ | refine n_then ?_ | refine n_block ?_ | refine x_then ?_ | refine x_block_eq ?_ | refine x_block_ne rfl ?_ | refine r_then ?_ | refine r_block ?_ | refine s_nil ?_ | refine c_true rfl ?_ | refine c_false rfl ?_ | refine s_pur (p_move rfl) rfl ?_ | refine s_pur (p_assign rfl) rfl ?_ | refine s_pur (p_nil rfl) rfl ?_ | refine s_pur (p_pick_t rfl rfl) rfl ?_ | refine s_pur (p_pick_f rfl rfl) rfl ?_ | refine s_pur (p_len rfl Yba.underlying22) rfl ?_ | refine s_pur (p_idx rfl rfl rfl (by omega) Yba.underlying22 Yba.sizeOf27) rfl ?_ | refine s_pur (p_lssT rfl rfl (by omega)) rfl ?_ | refine s_pur (p_lssF rfl rfl (by omega)) rfl ?_ | refine s_pur (p_leqT rfl rfl (by omega)) rfl ?_ | refine s_pur (p_leqF rfl rfl (by omega)) rfl ?_ | refine s_pur (p_gtrT rfl rfl (by omega)) rfl ?_ | refine s_pur (p_gtrF rfl rfl (by omega)) rfl ?_ | refine s_pur (p_geqT rfl rfl (by omega)) rfl ?_ | refine s_pur (p_geqF rfl rfl (by omega)) rfl ?_ | refine s_pur (p_eqlT rfl rfl (by omega)) rfl ?_ | refine s_pur (p_eqlF rfl rfl (by omega)) rfl ?_ | refine s_pur (p_neqT rfl rfl (by omega)) rfl ?_ | refine s_pur (p_neqF rfl rfl (by omega)) rfl ?_)
      exact m_done rfl (by repeat (first | exact Sub.nil | refine Sub.cons rfl ?_))
  rintro _ rfl
  have hle := sumTo_le S hS n
  have hb : (sumTo S n).natAbs < 170141183460469231731687303715884105728 := by omega
  have ht := tc_lt (sumTo S n)
  have hpos := @tc_pos (sumTo S n) hb
  have hneg := @tc_neg (sumTo S n) hb
  generalize sumTo S n = z at *
  clear hle hb
  have hlo : tc z % B < B := Nat.mod_lt _ B_pos
  have hhi : tc z / B < B := Nat.div_lt_of_lt_mul ht
  have hdm : tc z / B * B + tc z % B = tc z := by rw [Nat.mul_comm]; exact Nat.div_add_mod _ _
  by_cases h0 : z < 0
  · obtain ⟨e1, e2⟩ := hneg h0
    clear hpos hneg hdm ht
    generalize tc z % B = lo at *
    generalize tc z / B = hi at *
    have hc1 : ((B - 1 - lo) + 1 + 0) / B ≤ 1 := by
      have := Nat.div_lt_of_lt_mul (show (B - 1 - lo) + 1 + 0 < B * 2 by omega)
      omega
    have a1 := run_add64N (B - 1 - lo) 1 0 (by omega)
    have a2 := run_add64N (B - 1 - hi) 0 (((B - 1 - lo) + 1 + 0) / B) hc1
    have b1 : ((B - 1 - lo) + 1 + 0) % B < B := Nat.mod_lt _ B_pos
    have b2 : ((B - 1 - hi) + 0 + ((B - 1 - lo) + 1 + 0) / B) % B < B := Nat.mod_lt _ B_pos
    generalize ((B - 1 - hi) + 0 + ((B - 1 - lo) + 1 + 0) / B) % B = hi' at *
    generalize ((B - 1 - lo) + 1 + 0) % B = lo' at *
    generalize ((B - 1 - lo) + 1 + 0) / B = cc at *
    refine c_mid [(3, .int .u64 (hi : Int)), (4, .int .u64 (lo : Int)), (9, .bool true)] (fun q => h = q) ?_ ?_
    · repeat (first | refine c_seq ?_ | refine c_region ?_ | refine c_block ?_ | refine c_skip ?_ | refine c_exit ?_ | refine c_ret ?_ | refine n_then ?_ | refine n_block ?_ | refine x_then ?_ | refine x_block_eq ?_ | refine x_block_ne rfl ?_ | refine r_then ?_ | refine r_block ?_ | refine s_nil ?_ | refine c_true rfl ?_ | refine c_false rfl ?_ | refine s_pur (p_move rfl) rfl ?_ | refine s_pur (p_assign rfl) rfl ?_ | refine s_pur (p_nil rfl) rfl ?_ | refine s_pur (p_pick_t rfl rfl) rfl ?_ | refine s_pur (p_pick_f rfl rfl) rfl ?_ | refine s_pur (p_shr63 rfl rfl) rfl ?_ | refine s_pur (p_eqlT rfl rfl (by omega)) rfl ?_)
      exact m_done rfl (by repeat (first | exact Sub.nil | refine Sub.cons rfl ?_))
    rintro _ rfl
    refine c_mid [(3, .int .u64 (hi' : Int)), (4, .int .u64 (lo' : Int)), (9, .bool true)] (fun q => h = q) ?_ ?_
    · repeat (first | refine c_seq ?_ | refine c_region ?_ | refine c_block ?_ | refine c_skip ?_ | refine c_exit ?_ | refine c_ret ?_ | refine n_then ?_ | refine n_block ?_ | refine x_then ?_ | refine x_block_eq ?_ | refine x_block_ne rfl ?_ | refine r_then ?_ | refine r_block ?_ | refine s_nil ?_ | refine c_true rfl ?_ | refine c_false rfl ?_ | refine s_pur (p_move rfl) rfl ?_ | refine s_pur (p_assign rfl) rfl ?_ | refine s_pur (p_nil rfl) rfl ?_ | refine s_pur (p_pick_t rfl rfl) rfl ?_ | refine s_pur (p_pick_f rfl rfl) rfl ?_ | refine s_pur (p_notU rfl hlo) rfl ?_ | refine s_pur (p_notU rfl hhi) rfl ?_ | refine s_pur (p_extern rfl a1) rfl ?_ | refine s_pur (p_extern rfl a2) rfl ?_ | refine s_pur (p_extract rfl rfl) rfl ?_)
      exact m_done rfl (by repeat (first | exact Sub.nil | refine Sub.cons rfl ?_))
    rintro _ rfl
    exact modelTail h hi' lo' true z b2 b1 (decide_eq_true h0).symm e2.symm (fun h' l1 l2 => ⟨rfl, l1, l2⟩)
  · obtain ⟨e1, e2⟩ := hpos (by omega)
    clear hpos hneg ht
    replace hdm : tc z / B * B + tc z % B = z.natAbs := hdm.trans e1
    clear e1
    generalize tc z % B = lo at *
    generalize tc z / B = hi at *
    refine c_mid [(3, .int .u64 (hi : Int)), (4, .int .u64 (lo : Int)), (9, .bool false)] (fun q => h = q) ?_ ?_
    · repeat (first | refine c_seq ?_ | refine c_region ?_ | refine c_block ?_ | refine c_skip ?_ | refine c_exit ?_ | refine c_ret ?_ | refine n_then ?_ | refine n_block ?_ | refine x_then ?_ | refine x_block_eq ?_ | refine x_block_ne rfl ?_ | refine r_then ?_ | refine r_block ?_ | refine s_nil ?_ | refine c_true rfl ?_ | refine c_false rfl ?_ | refine s_pur (p_move rfl) rfl ?_ | refine s_pur (p_assign rfl) rfl ?_ | refine s_pur (p_nil rfl) rfl ?_ | refine s_pur (p_pick_t rfl rfl) rfl ?_ | refine s_pur (p_pick_f rfl rfl) rfl ?_ | refine s_pur (p_shr63 rfl rfl) rfl ?_ | refine s_pur (p_eqlF rfl rfl (by omega)) rfl ?_)
      exact m_done rfl (by repeat (first | exact Sub.nil | refine Sub.cons rfl ?_))
    rintro _ rfl
    refine c_mid [(3, .int .u64 (hi : Int)), (4, .int .u64 (lo : Int)), (9, .bool false)] (fun q => h = q) ?_ ?_
    · repeat (first | refine c_seq ?_ | refine c_region ?_ | refine c_block ?_ | refine c_skip ?_ | refine c_exit ?_ | refine c_ret ?_ | refine n_then ?_ | refine n_block ?_ | refine x_then ?_ | refine x_block_eq ?_ | refine x_block_ne rfl ?_ | refine r_then ?_ | refine r_block ?_ | refine s_nil ?_ | refine c_true rfl ?_ | refine c_false rfl ?_ | refine s_pur (p_move rfl) rfl ?_ | refine s_pur (p_assign rfl) rfl ?_ | refine s_pur (p_nil rfl) rfl ?_ | refine s_pur (p_pick_t rfl rfl) rfl ?_ | refine s_pur (p_pick_f rfl rfl) rfl ?_)
      exact m_done rfl (by repeat (first | exact Sub.nil | refine Sub.cons rfl ?_))
    rintro _ rfl
    exact modelTail h hi lo false z hhi hlo (decide_eq_false h0).symm hdm.symm (fun h' l1 l2 => ⟨rfl, l1, l2⟩)
end Go.Proofs.Ybulkdirs
