/-
  B11: math/big: Int.Lsh by 64, Int.Neg, Int.Cmp at equal numbers, each in place.
-/
import Derived.Test.YbulkdirsB10
namespace Go.Proofs.Ybulkdirs
set_option linter.unusedSimpArgs false
set_option linter.unusedVariables false
set_option linter.unnecessarySimpa false
open Go Go.RowKit V
set_option maxRecDepth 100000

set_option maxHeartbeats 2000000 in
theorem intLsh_ok (h : Heap) (base ib X : Nat) (nv : Value) (hz : ZV h base ib (X : Int) nv) (hbase : base ≤ h.size) (hX : X < B) :
    CallsH Yba.prog 18 #[.pointer (some ⟨ib, 0, none⟩), .pointer (some ⟨ib, 0, none⟩), .int .u64 ((64 : Nat) : Int)] h (fun u h' => u = .pointer (some ⟨ib, 0, none⟩) ∧ ∃ nv', IRes h h' base ib nv ((X * B : Nat) : Int) nv') := by
  have hne := nv_ne hz.2 hz.1
  have hi : ib < h.size := lt_of_get hz.1
  have hnv : NV h base nv X := hz.2
  have hl := lsh64_ok h base X nv hnv hbase hX
  have e0 : decide ((X : Int) < 0) = false := decide_eq_false (by omega)
  have hz1 := hz.1
  rw [e0] at hz1
  have ld1 : hc h ib (0 + 1) = some nv := (hc_of hz1).trans rfl
  refine calls_of [(0, .pointer (some ⟨ib, 0, none⟩)), (1, .pointer (some ⟨ib, 0, none⟩)), (2, .int .u64 ((64 : Nat) : Int))] Yba.func18 rfl Yba.ntmps18 (by simp) (.cons rfl (.cons rfl (.cons rfl .nil))) ?_
  intro w0 hw0
  repeat (first | refine c_seq ?_ | refine c_region ?_ | refine c_block ?_ | refine c_skip ?_ | refine c_exit ?_ | refine c_ret ?_ | refine n_then ?_ | refine n_block ?_ | refine x_then ?_ | refine x_block_eq ?_ | refine x_block_ne rfl ?_ | refine r_then ?_ | refine r_block ?_ | refine s_nil ?_ | refine c_true rfl ?_ | refine c_false rfl ?_ | refine s_pur (p_move rfl) rfl ?_ | refine s_pur (p_assign rfl) rfl ?_ | refine s_pur (p_nil rfl) rfl ?_ | refine s_pur (p_pick_t rfl rfl) rfl ?_ | refine s_pur (p_pick_f rfl rfl) rfl ?_)
  refine c_held followsM rfl ?_
  refine h_any 0 rfl (by kernel_rfl) rfl (fun _ => p_move rfl) rfl ?_
  refine h_any 1 rfl (by kernel_rfl) rfl (fun _ => p_move rfl) rfl ?_
  refine h_any 2 rfl (by kernel_rfl) rfl (fun _ => p_nil rfl) rfl ?_
  refine h_any 3 rfl (by kernel_rfl) rfl (fun _ => p_fld (off := 1) rfl Yba.underlying32 rfl Yba.sizeOf30 rfl) rfl ?_
  refine h_any 5 rfl (by kernel_rfl) rfl (fun _ => p_move rfl) rfl ?_
  refine h_any 6 rfl (by kernel_rfl) rfl (fun _ => p_nil rfl) rfl ?_
  refine h_any 7 rfl (by kernel_rfl) rfl (fun _ => p_fld (off := 1) rfl Yba.underlying32 rfl Yba.sizeOf30 rfl) rfl ?_
  refine h_any 9 rfl (by kernel_rfl) rfl (fun _ => p_move rfl) rfl ?_
  refine h_take 4 rfl (by kernel_rfl) rfl (p_load rfl Yba.isAgg30 ld1) rfl ?_
  refine h_take 8 rfl (by kernel_rfl) rfl (p_load rfl Yba.isAgg30 ld1) rfl ?_
  refine h_call 10 rfl (by kernel_rfl) rfl Yba.call23 rfl rfl hl ?_
  rintro u q1 hr
  have hq1 : q1[ib]? = some (.cells #[.bool false, nv] 32 (0, 0)) := by rw [hr.2.1.other ib hi (fun e => hne e.symm)]; exact hz1
  refine h_any 11 rfl (by kernel_rfl) rfl (fun _ => p_nil rfl) rfl ?_
  refine h_any 12 rfl (by kernel_rfl) rfl (fun _ => p_fld (off := 1) rfl Yba.underlying32 rfl Yba.sizeOf30 rfl) rfl ?_
  refine h_eff0 13 rfl (by kernel_rfl) rfl (e_store rfl rfl (nv_one hr.1) Yba.sizeOf30 hq1 (by simp)) ?_
  rintro _ q2 u2
  refine h_done (by kernel_rfl) ?_
  repeat (first | refine c_seq ?_ | refine c_region ?_ | refine c_block ?_ | refine c_skip ?_ | refine c_exit ?_ | refine c_ret ?_ | refine n_then ?_ | refine n_block ?_ | refine x_then ?_ | refine x_block_eq ?_ | refine x_block_ne rfl ?_ | refine r_then ?_ | refine r_block ?_ | refine s_nil ?_ | refine c_true rfl ?_ | refine c_false rfl ?_ | refine s_pur (p_move rfl) rfl ?_ | refine s_pur (p_assign rfl) rfl ?_ | refine s_pur (p_nil rfl) rfl ?_ | refine s_pur (p_pick_t rfl rfl) rfl ?_ | refine s_pur (p_pick_f rfl rfl) rfl ?_ | refine s_pur (p_fld (off := 0) rfl Yba.underlying32 rfl Yba.sizeOf4 rfl) rfl ?_ | refine s_pur (p_load rfl Yba.isAgg4 ((hc_of u2.at_).trans rfl)) rfl ?_)
  refine s_eff0 (e_store rfl rfl rfl Yba.sizeOf4 u2.at_ (by simp)) ?_
  rintro _ q3 u3
  repeat (first | refine c_seq ?_ | refine c_region ?_ | refine c_block ?_ | refine c_skip ?_ | refine c_exit ?_ | refine c_ret ?_ | refine n_then ?_ | refine n_block ?_ | refine x_then ?_ | refine x_block_eq ?_ | refine x_block_ne rfl ?_ | refine r_then ?_ | refine r_block ?_ | refine s_nil ?_ | refine c_true rfl ?_ | refine c_false rfl ?_ | refine s_pur (p_move rfl) rfl ?_ | refine s_pur (p_assign rfl) rfl ?_ | refine s_pur (p_nil rfl) rfl ?_ | refine s_pur (p_pick_t rfl rfl) rfl ?_ | refine s_pur (p_pick_f rfl rfl) rfl ?_)
  exact ret1 Yba.results18 rfl ⟨rfl, u, ires_mk hz1 hne hr u2 u3 (by rw [decide_eq_false (by omega)]; rfl) (by omega)⟩

theorem intSet_ok (h : Heap) (ib : Nat) : CallsH Yba.prog 24 #[.pointer (some ⟨ib, 0, none⟩), .pointer (some ⟨ib, 0, none⟩)] h (fun u h' => u = .pointer (some ⟨ib, 0, none⟩) ∧ h' = h) := by
  refine calls_of [(0, .pointer (some ⟨ib, 0, none⟩)), (1, .pointer (some ⟨ib, 0, none⟩))] Yba.func24 rfl Yba.ntmps24 (by simp) (.cons rfl (.cons rfl .nil)) ?_
  intro w0 hw0
  repeat (first | refine c_seq ?_ | refine c_region ?_ | refine c_block ?_ | refine c_skip ?_ | refine c_exit ?_ | refine c_ret ?_ | refine n_then ?_ | refine n_block ?_ | refine x_then ?_ | refine x_block_eq ?_ | refine x_block_ne rfl ?_ | refine r_then ?_ | refine r_block ?_ | refine s_nil ?_ | refine c_true rfl ?_ | refine c_false rfl ?_ | refine s_pur (p_move rfl) rfl ?_ | refine s_pur (p_assign rfl) rfl ?_ | refine s_pur (p_nil rfl) rfl ?_ | refine s_pur (p_pick_t rfl rfl) rfl ?_ | refine s_pur (p_pick_f rfl rfl) rfl ?_ | refine s_pur (p_pneqF rfl rfl Yba.underlying23 Yba.sizeOf32) rfl ?_)
  exact ret1 Yba.results24 rfl ⟨rfl, rfl⟩

set_option maxHeartbeats 2000000 in
theorem intNeg_ok (h : Heap) (base ib : Nat) (z : Int) (nv : Value) (hz : ZV h base ib z nv) :
    CallsH Yba.prog 19 #[.pointer (some ⟨ib, 0, none⟩), .pointer (some ⟨ib, 0, none⟩)] h (fun u h' => u = .pointer (some ⟨ib, 0, none⟩) ∧ IRes h h' base ib nv (-z) nv) := by
  have hne := nv_ne hz.2 hz.1
  obtain ⟨au, cu, rfl⟩ := nv_slice hz.2
  have hlp := dg_len_pos z.natAbs
  have fin : ∀ q3 b', b' = .bool (decide (-z < 0)) → Upd h q3 ib (.cells #[b', .slice au (dg z.natAbs).length cu] 32 (0, 0)) → IRes h q3 base ib (.slice au (dg z.natAbs).length cu) (-z) (.slice au (dg z.natAbs).length cu) := by
    intro q3 b' e u3
    refine ⟨⟨by rw [← e]; exact u3.at_, ?_⟩, by have := u3.size; omega, fun k _ hk _ => u3.other k hk, .inl rfl⟩
    rw [Int.natAbs_neg]
    exact ⟨hz.2.1.keep fun k _ _ hk => u3.other k (fun e' => hne (e' ▸ hk)), hz.2.2⟩
  refine calls_of [(0, .pointer (some ⟨ib, 0, none⟩)), (1, .pointer (some ⟨ib, 0, none⟩))] Yba.func19 rfl Yba.ntmps19 (by simp) (.cons rfl (.cons rfl .nil)) ?_
  intro w0 hw0
  repeat (first | refine c_seq ?_ | refine c_region ?_ | refine c_block ?_ | refine c_skip ?_ | refine c_exit ?_ | refine c_ret ?_ | refine n_then ?_ | refine n_block ?_ | refine x_then ?_ | refine x_block_eq ?_ | refine x_block_ne rfl ?_ | refine r_then ?_ | refine r_block ?_ | refine s_nil ?_ | refine c_true rfl ?_ | refine c_false rfl ?_ | refine s_pur (p_move rfl) rfl ?_ | refine s_pur (p_assign rfl) rfl ?_ | refine s_pur (p_nil rfl) rfl ?_ | refine s_pur (p_pick_t rfl rfl) rfl ?_ | refine s_pur (p_pick_f rfl rfl) rfl ?_)
  refine s_call Yba.call24 rfl rfl (intSet_ok h ib) ?_
  rintro _ q0 ⟨rfl, hq0⟩
  obtain rfl : h = q0 := hq0.symm
  have ld1 : hc h ib (0 + 1) = some (.slice au (dg z.natAbs).length cu) := (hc_of hz.1).trans rfl
  have ld0 : hc h ib (0 + 0) = some (.bool (decide (z < 0))) := (hc_of hz.1).trans rfl
  by_cases h0 : z = 0
  · have hl : (dg z.natAbs).length = 0 := hlp.2 (by omega)
    clear hlp
    repeat (first | refine c_seq ?_ | refine c_region ?_ | refine c_block ?_ | refine c_skip ?_ | refine c_exit ?_ | refine c_ret ?_ | refine n_then ?_ | refine n_block ?_ | refine x_then ?_ | refine x_block_eq ?_ | refine x_block_ne rfl ?_ | refine r_then ?_ | refine r_block ?_ | refine s_nil ?_ | refine c_true rfl ?_ | refine c_false rfl ?_ | refine s_pur (p_move rfl) rfl ?_ | refine s_pur (p_assign rfl) rfl ?_ | refine s_pur (p_nil rfl) rfl ?_ | refine s_pur (p_pick_t rfl rfl) rfl ?_ | refine s_pur (p_pick_f rfl rfl) rfl ?_ | refine s_pur (p_len rfl Yba.underlying30) rfl ?_ | refine s_pur (p_idx1 rfl rfl rfl (by omega) Yba.underlying30 Yba.sizeOf45) rfl ?_ | refine s_pur (p_fld (off := 1) rfl Yba.underlying32 rfl Yba.sizeOf30 rfl) rfl ?_ | refine s_pur (p_fld (off := 0) rfl Yba.underlying32 rfl Yba.sizeOf4 rfl) rfl ?_ | refine s_pur (p_load rfl Yba.isAgg30 (by assumption)) rfl ?_ | refine s_pur (p_lssT rfl rfl (by omega)) rfl ?_ | refine s_pur (p_lssF rfl rfl (by omega)) rfl ?_ | refine s_pur (p_leqT rfl rfl (by omega)) rfl ?_ | refine s_pur (p_leqF rfl rfl (by omega)) rfl ?_ | refine s_pur (p_gtrT rfl rfl (by omega)) rfl ?_ | refine s_pur (p_gtrF rfl rfl (by omega)) rfl ?_ | refine s_pur (p_geqT rfl rfl (by omega)) rfl ?_ | refine s_pur (p_geqF rfl rfl (by omega)) rfl ?_ | refine s_pur (p_eqlT rfl rfl (by omega)) rfl ?_ | refine s_pur (p_eqlF rfl rfl (by omega)) rfl ?_ | refine s_pur (p_neqT rfl rfl (by omega)) rfl ?_ | refine s_pur (p_neqF rfl rfl (by omega)) rfl ?_ | refine s_skip rfl rfl rfl ?_ | refine s_skip' rfl rfl rfl ?_ | refine s_pur_g rfl (p_move rfl) rfl ?_ | refine s_pur_g rfl (p_assign rfl) rfl ?_ | refine s_pur_g rfl (p_nil rfl) rfl ?_ | refine s_pur_g rfl (p_pick_t rfl rfl) rfl ?_ | refine s_pur_g rfl (p_pick_f rfl rfl) rfl ?_ | refine s_pur_g rfl (p_len rfl Yba.underlying30) rfl ?_ | refine s_pur_g rfl (p_idx1 rfl rfl rfl (by omega) Yba.underlying30 Yba.sizeOf45) rfl ?_ | refine s_pur_g rfl (p_fld (off := 1) rfl Yba.underlying32 rfl Yba.sizeOf30 rfl) rfl ?_ | refine s_pur_g rfl (p_fld (off := 0) rfl Yba.underlying32 rfl Yba.sizeOf4 rfl) rfl ?_ | refine s_pur_g rfl (p_load rfl Yba.isAgg30 (by assumption)) rfl ?_ | refine s_pur_g rfl (p_lssT rfl rfl (by omega)) rfl ?_ | refine s_pur_g rfl (p_lssF rfl rfl (by omega)) rfl ?_ | refine s_pur_g rfl (p_leqT rfl rfl (by omega)) rfl ?_ | refine s_pur_g rfl (p_leqF rfl rfl (by omega)) rfl ?_ | refine s_pur_g rfl (p_gtrT rfl rfl (by omega)) rfl ?_ | refine s_pur_g rfl (p_gtrF rfl rfl (by omega)) rfl ?_ | refine s_pur_g rfl (p_geqT rfl rfl (by omega)) rfl ?_ | refine s_pur_g rfl (p_geqF rfl rfl (by omega)) rfl ?_ | refine s_pur_g rfl (p_eqlT rfl rfl (by omega)) rfl ?_ | refine s_pur_g rfl (p_eqlF rfl rfl (by omega)) rfl ?_ | refine s_pur_g rfl (p_neqT rfl rfl (by omega)) rfl ?_ | refine s_pur_g rfl (p_neqF rfl rfl (by omega)) rfl ?_)
    refine s_eff0 (e_store rfl rfl rfl Yba.sizeOf4 hz.1 (by simp)) ?_
    rintro _ q3 u3
    repeat (first | refine c_seq ?_ | refine c_region ?_ | refine c_block ?_ | refine c_skip ?_ | refine c_exit ?_ | refine c_ret ?_ | refine n_then ?_ | refine n_block ?_ | refine x_then ?_ | refine x_block_eq ?_ | refine x_block_ne rfl ?_ | refine r_then ?_ | refine r_block ?_ | refine s_nil ?_ | refine c_true rfl ?_ | refine c_false rfl ?_ | refine s_pur (p_move rfl) rfl ?_ | refine s_pur (p_assign rfl) rfl ?_ | refine s_pur (p_nil rfl) rfl ?_ | refine s_pur (p_pick_t rfl rfl) rfl ?_ | refine s_pur (p_pick_f rfl rfl) rfl ?_)
    exact ret1 Yba.results19 rfl ⟨rfl, fin q3 _ (by rw [decide_eq_false (by omega)]) u3⟩
  · have hl : (dg z.natAbs).length ≠ 0 := fun e => h0 (by have := hlp.1 e; omega)
    clear hlp
    repeat (first | refine c_seq ?_ | refine c_region ?_ | refine c_block ?_ | refine c_skip ?_ | refine c_exit ?_ | refine c_ret ?_ | refine n_then ?_ | refine n_block ?_ | refine x_then ?_ | refine x_block_eq ?_ | refine x_block_ne rfl ?_ | refine r_then ?_ | refine r_block ?_ | refine s_nil ?_ | refine c_true rfl ?_ | refine c_false rfl ?_ | refine s_pur (p_move rfl) rfl ?_ | refine s_pur (p_assign rfl) rfl ?_ | refine s_pur (p_nil rfl) rfl ?_ | refine s_pur (p_pick_t rfl rfl) rfl ?_ | refine s_pur (p_pick_f rfl rfl) rfl ?_ | refine s_pur (p_len rfl Yba.underlying30) rfl ?_ | refine s_pur (p_idx1 rfl rfl rfl (by omega) Yba.underlying30 Yba.sizeOf45) rfl ?_ | refine s_pur (p_fld (off := 1) rfl Yba.underlying32 rfl Yba.sizeOf30 rfl) rfl ?_ | refine s_pur (p_fld (off := 0) rfl Yba.underlying32 rfl Yba.sizeOf4 rfl) rfl ?_ | refine s_pur (p_load rfl Yba.isAgg30 (by assumption)) rfl ?_ | refine s_pur (p_load rfl Yba.isAgg4 (by assumption)) rfl ?_ | refine s_pur (p_not rfl) rfl ?_ | refine s_pur (p_lssT rfl rfl (by omega)) rfl ?_ | refine s_pur (p_lssF rfl rfl (by omega)) rfl ?_ | refine s_pur (p_leqT rfl rfl (by omega)) rfl ?_ | refine s_pur (p_leqF rfl rfl (by omega)) rfl ?_ | refine s_pur (p_gtrT rfl rfl (by omega)) rfl ?_ | refine s_pur (p_gtrF rfl rfl (by omega)) rfl ?_ | refine s_pur (p_geqT rfl rfl (by omega)) rfl ?_ | refine s_pur (p_geqF rfl rfl (by omega)) rfl ?_ | refine s_pur (p_eqlT rfl rfl (by omega)) rfl ?_ | refine s_pur (p_eqlF rfl rfl (by omega)) rfl ?_ | refine s_pur (p_neqT rfl rfl (by omega)) rfl ?_ | refine s_pur (p_neqF rfl rfl (by omega)) rfl ?_ | refine s_skip rfl rfl rfl ?_ | refine s_skip' rfl rfl rfl ?_ | refine s_pur_g rfl (p_move rfl) rfl ?_ | refine s_pur_g rfl (p_assign rfl) rfl ?_ | refine s_pur_g rfl (p_nil rfl) rfl ?_ | refine s_pur_g rfl (p_pick_t rfl rfl) rfl ?_ | refine s_pur_g rfl (p_pick_f rfl rfl) rfl ?_ | refine s_pur_g rfl (p_len rfl Yba.underlying30) rfl ?_ | refine s_pur_g rfl (p_idx1 rfl rfl rfl (by omega) Yba.underlying30 Yba.sizeOf45) rfl ?_ | refine s_pur_g rfl (p_fld (off := 1) rfl Yba.underlying32 rfl Yba.sizeOf30 rfl) rfl ?_ | refine s_pur_g rfl (p_fld (off := 0) rfl Yba.underlying32 rfl Yba.sizeOf4 rfl) rfl ?_ | refine s_pur_g rfl (p_load rfl Yba.isAgg30 (by assumption)) rfl ?_ | refine s_pur_g rfl (p_load rfl Yba.isAgg4 (by assumption)) rfl ?_ | refine s_pur_g rfl (p_not rfl) rfl ?_ | refine s_pur_g rfl (p_lssT rfl rfl (by omega)) rfl ?_ | refine s_pur_g rfl (p_lssF rfl rfl (by omega)) rfl ?_ | refine s_pur_g rfl (p_leqT rfl rfl (by omega)) rfl ?_ | refine s_pur_g rfl (p_leqF rfl rfl (by omega)) rfl ?_ | refine s_pur_g rfl (p_gtrT rfl rfl (by omega)) rfl ?_ | refine s_pur_g rfl (p_gtrF rfl rfl (by omega)) rfl ?_ | refine s_pur_g rfl (p_geqT rfl rfl (by omega)) rfl ?_ | refine s_pur_g rfl (p_geqF rfl rfl (by omega)) rfl ?_ | refine s_pur_g rfl (p_eqlT rfl rfl (by omega)) rfl ?_ | refine s_pur_g rfl (p_eqlF rfl rfl (by omega)) rfl ?_ | refine s_pur_g rfl (p_neqT rfl rfl (by omega)) rfl ?_ | refine s_pur_g rfl (p_neqF rfl rfl (by omega)) rfl ?_)
    refine s_eff0 (e_store rfl rfl rfl Yba.sizeOf4 hz.1 (by simp)) ?_
    rintro _ q3 u3
    repeat (first | refine c_seq ?_ | refine c_region ?_ | refine c_block ?_ | refine c_skip ?_ | refine c_exit ?_ | refine c_ret ?_ | refine n_then ?_ | refine n_block ?_ | refine x_then ?_ | refine x_block_eq ?_ | refine x_block_ne rfl ?_ | refine r_then ?_ | refine r_block ?_ | refine s_nil ?_ | refine c_true rfl ?_ | refine c_false rfl ?_ | refine s_pur (p_move rfl) rfl ?_ | refine s_pur (p_assign rfl) rfl ?_ | refine s_pur (p_nil rfl) rfl ?_ | refine s_pur (p_pick_t rfl rfl) rfl ?_ | refine s_pur (p_pick_f rfl rfl) rfl ?_)
    refine ret1 Yba.results19 rfl ⟨rfl, fin q3 _ ?_ u3⟩
    by_cases e : z < 0
    · rw [decide_eq_true e, decide_eq_false (by omega)]; rfl
    · rw [decide_eq_false e, decide_eq_true (by omega)]; rfl

set_option maxHeartbeats 2000000 in
theorem intCmp_ok (h : Heap) (base i1 i2 : Nat) (z : Int) (n1 n2 : Value) (z1 : ZV h base i1 z n1) (z2 : ZV h base i2 z n2) (hne : i1 ≠ i2) :
    CallsH Yba.prog 5 #[.pointer (some ⟨i1, 0, none⟩), .pointer (some ⟨i2, 0, none⟩)] h (fun u h' => u = .int .i64 0 ∧ h' = h) := by
  have hcmp := natCmp_ok h base z.natAbs z.natAbs n1 n2 z1.2 z2.2
  have ec : cmpN z.natAbs z.natAbs = 0 := by simp [cmpN]
  rw [ec] at hcmp
  have ld1 : hc h i1 (0 + 1) = some n1 := (hc_of z1.1).trans rfl
  have ld2 : hc h i2 (0 + 1) = some n2 := (hc_of z2.1).trans rfl
  have sg1 : hc h i1 (0 + 0) = some (.bool (decide (z < 0))) := (hc_of z1.1).trans rfl
  have sg2 : hc h i2 (0 + 0) = some (.bool (decide (z < 0))) := (hc_of z2.1).trans rfl
  have hpn : (⟨i1, 0, none⟩ : Addr) ≠ ⟨i2, 0, none⟩ := by simp [hne]
  refine calls_of [(0, .pointer (some ⟨i1, 0, none⟩)), (1, .pointer (some ⟨i2, 0, none⟩))] Yba.func5 rfl Yba.ntmps5 (by simp) (.cons rfl (.cons rfl .nil)) ?_
  intro w0 hw0
  repeat (first | refine c_seq ?_ | refine c_region ?_ | refine c_block ?_ | refine c_skip ?_ | refine c_exit ?_ | refine c_ret ?_ | refine n_then ?_ | refine n_block ?_ | refine x_then ?_ | refine x_block_eq ?_ | refine x_block_ne rfl ?_ | refine r_then ?_ | refine r_block ?_ | refine s_nil ?_ | refine c_true rfl ?_ | refine c_false rfl ?_ | refine s_pur (p_move rfl) rfl ?_ | refine s_pur (p_assign rfl) rfl ?_ | refine s_pur (p_nil rfl) rfl ?_ | refine s_pur (p_pick_t rfl rfl) rfl ?_ | refine s_pur (p_pick_f rfl rfl) rfl ?_ | refine s_pur (p_peqlF rfl rfl hpn z1.1 z2.1 Yba.underlying23 Yba.sizeOf32) rfl ?_)
  refine c_quiet followsM (by kernel_rfl) ?_
  intro w1 hw1
  repeat (first | refine q_nil hw1 ?_ | refine c_seq ?_ | refine c_region ?_ | refine c_block ?_ | refine c_skip ?_ | refine c_exit ?_ | refine c_ret ?_ | refine n_then ?_ | refine n_block ?_ | refine x_then ?_ | refine x_block_eq ?_ | refine x_block_ne rfl ?_ | refine r_then ?_ | refine r_block ?_ | refine s_nil ?_ | refine c_true rfl ?_ | refine c_false rfl ?_ | refine q_pur hw1 (p_move rfl) rfl ?_ | refine q_pur hw1 (p_assign rfl) rfl ?_ | refine q_pur hw1 (p_nil rfl) rfl ?_ | refine q_pur hw1 (p_pick_t rfl rfl) rfl ?_ | refine q_pur hw1 (p_pick_f rfl rfl) rfl ?_ | refine q_pur hw1 (p_fld (off := 0) rfl Yba.underlying32 rfl Yba.sizeOf4 rfl) rfl ?_ | refine q_pur hw1 (p_load rfl Yba.isAgg4 (by assumption)) rfl ?_ | refine q_pur hw1 (p_beql rfl rfl Yba.underlying4) rfl ?_ | refine q_skip rfl rfl rfl ?_ | refine q_skip' rfl rfl rfl ?_ | refine q_pur_g hw1 rfl (p_move rfl) rfl ?_ | refine q_pur_g hw1 rfl (p_assign rfl) rfl ?_ | refine q_pur_g hw1 rfl (p_nil rfl) rfl ?_ | refine q_pur_g hw1 rfl (p_pick_t rfl rfl) rfl ?_ | refine q_pur_g hw1 rfl (p_pick_f rfl rfl) rfl ?_ | refine q_pur_g hw1 rfl (p_fld (off := 0) rfl Yba.underlying32 rfl Yba.sizeOf4 rfl) rfl ?_ | refine q_pur_g hw1 rfl (p_load rfl Yba.isAgg4 (by assumption)) rfl ?_ | refine q_pur_g hw1 rfl (p_beql rfl rfl Yba.underlying4) rfl ?_)
  rw [beq_self_eq_true]
  repeat (first | refine c_seq ?_ | refine c_region ?_ | refine c_block ?_ | refine c_skip ?_ | refine c_exit ?_ | refine c_ret ?_ | refine n_then ?_ | refine n_block ?_ | refine x_then ?_ | refine x_block_eq ?_ | refine x_block_ne rfl ?_ | refine r_then ?_ | refine r_block ?_ | refine s_nil ?_ | refine c_true rfl ?_ | refine c_false rfl ?_ | refine s_pur (p_move rfl) rfl ?_ | refine s_pur (p_assign rfl) rfl ?_ | refine s_pur (p_nil rfl) rfl ?_ | refine s_pur (p_pick_t rfl rfl) rfl ?_ | refine s_pur (p_pick_f rfl rfl) rfl ?_)
  refine c_held followsM rfl ?_
  refine h_any 0 rfl (by kernel_rfl) rfl (fun _ => p_move rfl) rfl ?_
  refine h_any 1 rfl (by kernel_rfl) rfl (fun _ => p_nil rfl) rfl ?_
  refine h_any 2 rfl (by kernel_rfl) rfl (fun _ => p_fld (off := 1) rfl Yba.underlying32 rfl Yba.sizeOf30 rfl) rfl ?_
  refine h_any 4 rfl (by kernel_rfl) rfl (fun _ => p_move rfl) rfl ?_
  refine h_any 5 rfl (by kernel_rfl) rfl (fun _ => p_nil rfl) rfl ?_
  refine h_any 6 rfl (by kernel_rfl) rfl (fun _ => p_fld (off := 1) rfl Yba.underlying32 rfl Yba.sizeOf30 rfl) rfl ?_
  refine h_take 3 rfl (by kernel_rfl) rfl (p_load rfl Yba.isAgg30 ld1) rfl ?_
  refine h_take 7 rfl (by kernel_rfl) rfl (p_load rfl Yba.isAgg30 ld2) rfl ?_
  refine h_call 8 rfl (by kernel_rfl) rfl Yba.call15 rfl rfl hcmp ?_
  rintro _ q0 ⟨rfl, hq0⟩
  obtain rfl : h = q0 := hq0.symm
  refine h_any 9 rfl (by kernel_rfl) rfl (fun _ => p_assign rfl) rfl ?_
  refine h_done (by kernel_rfl) ?_
  cases hsg : decide (z < 0)
  · rw [hsg] at sg1
    repeat (first | refine c_seq ?_ | refine c_region ?_ | refine c_block ?_ | refine c_skip ?_ | refine c_exit ?_ | refine c_ret ?_ | refine n_then ?_ | refine n_block ?_ | refine x_then ?_ | refine x_block_eq ?_ | refine x_block_ne rfl ?_ | refine r_then ?_ | refine r_block ?_ | refine s_nil ?_ | refine c_true rfl ?_ | refine c_false rfl ?_ | refine s_pur (p_move rfl) rfl ?_ | refine s_pur (p_assign rfl) rfl ?_ | refine s_pur (p_nil rfl) rfl ?_ | refine s_pur (p_pick_t rfl rfl) rfl ?_ | refine s_pur (p_pick_f rfl rfl) rfl ?_ | refine s_pur (p_fld (off := 0) rfl Yba.underlying32 rfl Yba.sizeOf4 rfl) rfl ?_ | refine s_pur (p_load rfl Yba.isAgg4 (by assumption)) rfl ?_)
    exact ret1 Yba.results5 rfl ⟨rfl, rfl⟩
  · rw [hsg] at sg1
    repeat (first | refine c_seq ?_ | refine c_region ?_ | refine c_block ?_ | refine c_skip ?_ | refine c_exit ?_ | refine c_ret ?_ | refine n_then ?_ | refine n_block ?_ | refine x_then ?_ | refine x_block_eq ?_ | refine x_block_ne rfl ?_ | refine r_then ?_ | refine r_block ?_ | refine s_nil ?_ | refine c_true rfl ?_ | refine c_false rfl ?_ | refine s_pur (p_move rfl) rfl ?_ | refine s_pur (p_assign rfl) rfl ?_ | refine s_pur (p_nil rfl) rfl ?_ | refine s_pur (p_pick_t rfl rfl) rfl ?_ | refine s_pur (p_pick_f rfl rfl) rfl ?_ | refine s_pur (p_fld (off := 0) rfl Yba.underlying32 rfl Yba.sizeOf4 rfl) rfl ?_ | refine s_pur (p_load rfl Yba.isAgg4 (by assumption)) rfl ?_ | refine s_pur (p_neg rfl) rfl ?_)
    exact ret1 Yba.results5 rfl ⟨rfl, rfl⟩
end Go.Proofs.Ybulkdirs
