/-
  B9: math/big: Int.Add, the first addend in place.
-/
import Derived.Test.YbulkdirsB8
namespace Go.Proofs.Ybulkdirs
set_option linter.unusedSimpArgs false
set_option linter.unusedVariables false
set_option linter.unnecessarySimpa false
open Go Go.RowKit V
set_option maxRecDepth 100000

theorem V.p_beql {P : Program} {l : Env} {h : Heap} {ty : TypeId} {x y : Operand} {t t2 : TypeId} {a b : Bool} (hx : ev l x = some (.bool a)) (hy : ev l y = some (.bool b)) (hu : P.underlying t = some .bool) :
    Pur P (.binOp .eql t x y t2) ty l h (.bool (a == b)) := by
  refine ⟨fun ρ w d p af g hρ hw => ?_⟩
  have he : (Op.equal t (.bool a) (.bool b)).run P w = .ok (a == b) w := run_equal fun d => by
    simp [Op.equalIn, run_underlying hu]
  simp [execOp, hρ _ _ hx, hρ _ _ hy, eqGuard, binOp, he]

theorem dg_len_pos (X : Nat) : (dg X).length = 0 ↔ X = 0 := ⟨dg_len0, fun e => by rw [e]; rfl⟩

set_option maxHeartbeats 2000000 in
theorem addTail {h h1 q : Heap} {base ib X : Nat} {nv u : Value} {b : Value} {z : Int} {ng : Bool} (hz : h[ib]? = some (.cells #[b, nv] 32 (0, 0))) (hne : nv.ownBlock ≠ some ib) (hr : NRes h h1 base nv u X) (u2 : Upd h1 q ib (.cells #[b, u] 32 (0, 0)))
    (hX : z.natAbs = X) (hb : decide (z < 0) = (if X = 0 then false else ng)) {w0 : World} {R : Value → Heap → Prop} (hR : ∀ h3, IRes h h3 base ib nv z u → R (.pointer (some ⟨ib, 0, none⟩)) h3) :
    V.Fin 94 w0 (CW Yba.prog (V.sub (Yba.f7.body.getD .skip) [1, 1, 1]) (bodyPost Yba.prog Yba.f7 (PostR w0 R))) [(0, .pointer (some ⟨ib, 0, none⟩)), (7, .bool ng)] q := by
  obtain ⟨au, cu, rfl⟩ := nv_slice hr.1
  have hl := dg_len_pos X
  have fin : ∀ q3 b', b' = .bool (decide (z < 0)) → Upd q q3 ib (.cells #[b', .slice au (dg X).length cu] 32 (0, 0)) → R (.pointer (some ⟨ib, 0, none⟩)) q3 := fun q3 b' e u3 => hR q3 (ires_mk hz hne hr u2 u3 e hX)
  by_cases h0 : X = 0
  · rw [if_pos h0] at hb
    have : (dg X).length = 0 := hl.2 h0
    clear hl
    repeat (first | refine c_seq ?_ | refine c_region ?_ | refine c_block ?_ | refine c_skip ?_ | refine c_exit ?_ | refine c_ret ?_ | refine n_then ?_ | refine n_block ?_ | refine x_then ?_ | refine x_block_eq ?_ | refine x_block_ne rfl ?_ | refine r_then ?_ | refine r_block ?_ | refine s_nil ?_ | refine c_true rfl ?_ | refine c_false rfl ?_ | refine s_pur (p_move rfl) rfl ?_ | refine s_pur (p_assign rfl) rfl ?_ | refine s_pur (p_nil rfl) rfl ?_ | refine s_pur (p_pick_t rfl rfl) rfl ?_ | refine s_pur (p_pick_f rfl rfl) rfl ?_ | refine s_pur (p_len rfl Yba.underlying30) rfl ?_ | refine s_pur (p_idx1 rfl rfl rfl (by omega) Yba.underlying30 Yba.sizeOf45) rfl ?_ | refine s_pur (p_fld (off := 1) rfl Yba.underlying32 rfl Yba.sizeOf30 rfl) rfl ?_ | refine s_pur (p_fld (off := 0) rfl Yba.underlying32 rfl Yba.sizeOf4 rfl) rfl ?_ | refine s_pur (p_load rfl Yba.isAgg30 ((hc_of u2.at_).trans rfl)) rfl ?_ | refine s_pur (p_lssT rfl rfl (by omega)) rfl ?_ | refine s_pur (p_lssF rfl rfl (by omega)) rfl ?_ | refine s_pur (p_leqT rfl rfl (by omega)) rfl ?_ | refine s_pur (p_leqF rfl rfl (by omega)) rfl ?_ | refine s_pur (p_gtrT rfl rfl (by omega)) rfl ?_ | refine s_pur (p_gtrF rfl rfl (by omega)) rfl ?_ | refine s_pur (p_geqT rfl rfl (by omega)) rfl ?_ | refine s_pur (p_geqF rfl rfl (by omega)) rfl ?_ | refine s_pur (p_eqlT rfl rfl (by omega)) rfl ?_ | refine s_pur (p_eqlF rfl rfl (by omega)) rfl ?_ | refine s_pur (p_neqT rfl rfl (by omega)) rfl ?_ | refine s_pur (p_neqF rfl rfl (by omega)) rfl ?_ | refine s_skip rfl rfl rfl ?_ | refine s_skip' rfl rfl rfl ?_ | refine s_pur_g rfl (p_move rfl) rfl ?_ | refine s_pur_g rfl (p_assign rfl) rfl ?_ | refine s_pur_g rfl (p_nil rfl) rfl ?_ | refine s_pur_g rfl (p_pick_t rfl rfl) rfl ?_ | refine s_pur_g rfl (p_pick_f rfl rfl) rfl ?_ | refine s_pur_g rfl (p_len rfl Yba.underlying30) rfl ?_ | refine s_pur_g rfl (p_idx1 rfl rfl rfl (by omega) Yba.underlying30 Yba.sizeOf45) rfl ?_ | refine s_pur_g rfl (p_fld (off := 1) rfl Yba.underlying32 rfl Yba.sizeOf30 rfl) rfl ?_ | refine s_pur_g rfl (p_fld (off := 0) rfl Yba.underlying32 rfl Yba.sizeOf4 rfl) rfl ?_ | refine s_pur_g rfl (p_load rfl Yba.isAgg30 ((hc_of u2.at_).trans rfl)) rfl ?_ | refine s_pur_g rfl (p_lssT rfl rfl (by omega)) rfl ?_ | refine s_pur_g rfl (p_lssF rfl rfl (by omega)) rfl ?_ | refine s_pur_g rfl (p_leqT rfl rfl (by omega)) rfl ?_ | refine s_pur_g rfl (p_leqF rfl rfl (by omega)) rfl ?_ | refine s_pur_g rfl (p_gtrT rfl rfl (by omega)) rfl ?_ | refine s_pur_g rfl (p_gtrF rfl rfl (by omega)) rfl ?_ | refine s_pur_g rfl (p_geqT rfl rfl (by omega)) rfl ?_ | refine s_pur_g rfl (p_geqF rfl rfl (by omega)) rfl ?_ | refine s_pur_g rfl (p_eqlT rfl rfl (by omega)) rfl ?_ | refine s_pur_g rfl (p_eqlF rfl rfl (by omega)) rfl ?_ | refine s_pur_g rfl (p_neqT rfl rfl (by omega)) rfl ?_ | refine s_pur_g rfl (p_neqF rfl rfl (by omega)) rfl ?_)
    refine s_eff0 (e_store rfl rfl rfl Yba.sizeOf4 u2.at_ (by simp)) ?_
    rintro _ q3 u3
    repeat (first | refine c_seq ?_ | refine c_region ?_ | refine c_block ?_ | refine c_skip ?_ | refine c_exit ?_ | refine c_ret ?_ | refine n_then ?_ | refine n_block ?_ | refine x_then ?_ | refine x_block_eq ?_ | refine x_block_ne rfl ?_ | refine r_then ?_ | refine r_block ?_ | refine s_nil ?_ | refine c_true rfl ?_ | refine c_false rfl ?_ | refine s_pur (p_move rfl) rfl ?_ | refine s_pur (p_assign rfl) rfl ?_ | refine s_pur (p_nil rfl) rfl ?_ | refine s_pur (p_pick_t rfl rfl) rfl ?_ | refine s_pur (p_pick_f rfl rfl) rfl ?_)
    exact ret1 Yba.results7 rfl (fin q3 _ (by rw [hb]) u3)
  · rw [if_neg h0] at hb
    have : (dg X).length ≠ 0 := fun e => h0 (hl.1 e)
    clear hl
    repeat (first | refine c_seq ?_ | refine c_region ?_ | refine c_block ?_ | refine c_skip ?_ | refine c_exit ?_ | refine c_ret ?_ | refine n_then ?_ | refine n_block ?_ | refine x_then ?_ | refine x_block_eq ?_ | refine x_block_ne rfl ?_ | refine r_then ?_ | refine r_block ?_ | refine s_nil ?_ | refine c_true rfl ?_ | refine c_false rfl ?_ | refine s_pur (p_move rfl) rfl ?_ | refine s_pur (p_assign rfl) rfl ?_ | refine s_pur (p_nil rfl) rfl ?_ | refine s_pur (p_pick_t rfl rfl) rfl ?_ | refine s_pur (p_pick_f rfl rfl) rfl ?_ | refine s_pur (p_len rfl Yba.underlying30) rfl ?_ | refine s_pur (p_idx1 rfl rfl rfl (by omega) Yba.underlying30 Yba.sizeOf45) rfl ?_ | refine s_pur (p_fld (off := 1) rfl Yba.underlying32 rfl Yba.sizeOf30 rfl) rfl ?_ | refine s_pur (p_fld (off := 0) rfl Yba.underlying32 rfl Yba.sizeOf4 rfl) rfl ?_ | refine s_pur (p_load rfl Yba.isAgg30 ((hc_of u2.at_).trans rfl)) rfl ?_ | refine s_pur (p_lssT rfl rfl (by omega)) rfl ?_ | refine s_pur (p_lssF rfl rfl (by omega)) rfl ?_ | refine s_pur (p_leqT rfl rfl (by omega)) rfl ?_ | refine s_pur (p_leqF rfl rfl (by omega)) rfl ?_ | refine s_pur (p_gtrT rfl rfl (by omega)) rfl ?_ | refine s_pur (p_gtrF rfl rfl (by omega)) rfl ?_ | refine s_pur (p_geqT rfl rfl (by omega)) rfl ?_ | refine s_pur (p_geqF rfl rfl (by omega)) rfl ?_ | refine s_pur (p_eqlT rfl rfl (by omega)) rfl ?_ | refine s_pur (p_eqlF rfl rfl (by omega)) rfl ?_ | refine s_pur (p_neqT rfl rfl (by omega)) rfl ?_ | refine s_pur (p_neqF rfl rfl (by omega)) rfl ?_ | refine s_skip rfl rfl rfl ?_ | refine s_skip' rfl rfl rfl ?_ | refine s_pur_g rfl (p_move rfl) rfl ?_ | refine s_pur_g rfl (p_assign rfl) rfl ?_ | refine s_pur_g rfl (p_nil rfl) rfl ?_ | refine s_pur_g rfl (p_pick_t rfl rfl) rfl ?_ | refine s_pur_g rfl (p_pick_f rfl rfl) rfl ?_ | refine s_pur_g rfl (p_len rfl Yba.underlying30) rfl ?_ | refine s_pur_g rfl (p_idx1 rfl rfl rfl (by omega) Yba.underlying30 Yba.sizeOf45) rfl ?_ | refine s_pur_g rfl (p_fld (off := 1) rfl Yba.underlying32 rfl Yba.sizeOf30 rfl) rfl ?_ | refine s_pur_g rfl (p_fld (off := 0) rfl Yba.underlying32 rfl Yba.sizeOf4 rfl) rfl ?_ | refine s_pur_g rfl (p_load rfl Yba.isAgg30 ((hc_of u2.at_).trans rfl)) rfl ?_ | refine s_pur_g rfl (p_lssT rfl rfl (by omega)) rfl ?_ | refine s_pur_g rfl (p_lssF rfl rfl (by omega)) rfl ?_ | refine s_pur_g rfl (p_leqT rfl rfl (by omega)) rfl ?_ | refine s_pur_g rfl (p_leqF rfl rfl (by omega)) rfl ?_ | refine s_pur_g rfl (p_gtrT rfl rfl (by omega)) rfl ?_ | refine s_pur_g rfl (p_gtrF rfl rfl (by omega)) rfl ?_ | refine s_pur_g rfl (p_geqT rfl rfl (by omega)) rfl ?_ | refine s_pur_g rfl (p_geqF rfl rfl (by omega)) rfl ?_ | refine s_pur_g rfl (p_eqlT rfl rfl (by omega)) rfl ?_ | refine s_pur_g rfl (p_eqlF rfl rfl (by omega)) rfl ?_ | refine s_pur_g rfl (p_neqT rfl rfl (by omega)) rfl ?_ | refine s_pur_g rfl (p_neqF rfl rfl (by omega)) rfl ?_)
    refine s_eff0 (e_store rfl rfl rfl Yba.sizeOf4 u2.at_ (by simp)) ?_
    rintro _ q3 u3
    repeat (first | refine c_seq ?_ | refine c_region ?_ | refine c_block ?_ | refine c_skip ?_ | refine c_exit ?_ | refine c_ret ?_ | refine n_then ?_ | refine n_block ?_ | refine x_then ?_ | refine x_block_eq ?_ | refine x_block_ne rfl ?_ | refine r_then ?_ | refine r_block ?_ | refine s_nil ?_ | refine c_true rfl ?_ | refine c_false rfl ?_ | refine s_pur (p_move rfl) rfl ?_ | refine s_pur (p_assign rfl) rfl ?_ | refine s_pur (p_nil rfl) rfl ?_ | refine s_pur (p_pick_t rfl rfl) rfl ?_ | refine s_pur (p_pick_f rfl rfl) rfl ?_)
    exact ret1 Yba.results7 rfl (fin q3 _ (by rw [hb]) u3)

set_option maxHeartbeats 8000000 in
theorem intAdd_ok (h : Heap) (base i1 i2 : Nat) (a b : Int) (n1 n2 : Value) (z1 : ZV h base i1 a n1) (z2 : ZV h base i2 b n2) (hbase : base ≤ h.size) (hne : i1 ≠ i2) (hs : a.natAbs + b.natAbs < B * B) :
    CallsH Yba.prog 7 #[.pointer (some ⟨i1, 0, none⟩), .pointer (some ⟨i1, 0, none⟩), .pointer (some ⟨i2, 0, none⟩)] h (fun u h' => u = .pointer (some ⟨i1, 0, none⟩) ∧ ∃ nv', IRes h h' base i1 n1 (a + b) nv') := by
  have hn1 := nv_ne z1.2 z1.1
  have hi : i1 < h.size := lt_of_get z1.1
  refine calls_of [(0, .pointer (some ⟨i1, 0, none⟩)), (1, .pointer (some ⟨i1, 0, none⟩)), (2, .pointer (some ⟨i2, 0, none⟩))] Yba.func7 rfl Yba.ntmps7 (by simp) (.cons rfl (.cons rfl (.cons rfl .nil))) ?_
  intro w0 hw0
  refine c_mid [(0, .pointer (some ⟨i1, 0, none⟩)), (1, .pointer (some ⟨i1, 0, none⟩)), (2, .pointer (some ⟨i2, 0, none⟩))] (fun q => h = q) ?_ ?_
  · repeat (first | refine c_seq ?_ | refine c_region ?_ | refine c_block ?_ | refine c_skip ?_ | refine c_exit ?_ | refine c_ret ?_ | refine n_then ?_ | refine n_block ?_ | refine x_then ?_ | refine x_block_eq ?_ | refine x_block_ne rfl ?_ | refine r_then ?_ | refine r_block ?_ | refine s_nil ?_ | refine c_true rfl ?_ | refine c_false rfl ?_ | refine s_pur (p_move rfl) rfl ?_ | refine s_pur (p_assign rfl) rfl ?_ | refine s_pur (p_nil rfl) rfl ?_ | refine s_pur (p_pick_t rfl rfl) rfl ?_ | refine s_pur (p_pick_f rfl rfl) rfl ?_)
    exact m_done rfl (by repeat (first | exact Sub.nil | refine Sub.cons rfl ?_))
  rintro _ rfl
  refine c_mid [(0, .pointer (some ⟨i1, 0, none⟩)), (1, .pointer (some ⟨i1, 0, none⟩)), (2, .pointer (some ⟨i2, 0, none⟩)), (7, .bool (decide (a < 0)))] (fun q => h = q) ?_ ?_
  · repeat (first | refine c_seq ?_ | refine c_region ?_ | refine c_block ?_ | refine c_skip ?_ | refine c_exit ?_ | refine c_ret ?_ | refine n_then ?_ | refine n_block ?_ | refine x_then ?_ | refine x_block_eq ?_ | refine x_block_ne rfl ?_ | refine r_then ?_ | refine r_block ?_ | refine s_nil ?_ | refine c_true rfl ?_ | refine c_false rfl ?_ | refine s_pur (p_move rfl) rfl ?_ | refine s_pur (p_assign rfl) rfl ?_ | refine s_pur (p_nil rfl) rfl ?_ | refine s_pur (p_pick_t rfl rfl) rfl ?_ | refine s_pur (p_pick_f rfl rfl) rfl ?_ | refine s_pur (p_fld (off := 0) rfl Yba.underlying32 rfl Yba.sizeOf4 rfl) rfl ?_ | refine s_pur (p_load rfl Yba.isAgg4 ((hc_of z1.1).trans rfl)) rfl ?_)
    exact m_done rfl (by repeat (first | exact Sub.nil | refine Sub.cons rfl ?_))
  rintro _ rfl
  have ld1 : hc h i1 (0 + 1) = some n1 := (hc_of z1.1).trans rfl
  have ld2 : hc h i2 (0 + 1) = some n2 := (hc_of z2.1).trans rfl
  have sg1 : hc h i1 (0 + 0) = some (.bool (decide (a < 0))) := (hc_of z1.1).trans rfl
  have sg2 : hc h i2 (0 + 0) = some (.bool (decide (b < 0))) := (hc_of z2.1).trans rfl
  have keep : ∀ {u X q1}, NRes h q1 base n1 u X → q1[i1]? = some (.cells #[.bool (decide (a < 0)), n1] 32 (0, 0)) := fun {u X q1} hr => by rw [hr.2.1.other i1 hi (fun e => hn1 e.symm)]; exact z1.1
  refine c_seq ?_
  refine c_seq ?_
  refine c_quiet followsM (by kernel_rfl) ?_
  intro w1 hw1
  repeat (first | refine q_nil hw1 ?_ | refine c_seq ?_ | refine c_region ?_ | refine c_block ?_ | refine c_skip ?_ | refine c_exit ?_ | refine c_ret ?_ | refine n_then ?_ | refine n_block ?_ | refine x_then ?_ | refine x_block_eq ?_ | refine x_block_ne rfl ?_ | refine r_then ?_ | refine r_block ?_ | refine s_nil ?_ | refine c_true rfl ?_ | refine c_false rfl ?_ | refine q_pur hw1 (p_move rfl) rfl ?_ | refine q_pur hw1 (p_assign rfl) rfl ?_ | refine q_pur hw1 (p_nil rfl) rfl ?_ | refine q_pur hw1 (p_pick_t rfl rfl) rfl ?_ | refine q_pur hw1 (p_pick_f rfl rfl) rfl ?_ | refine q_pur hw1 (p_fld (off := 0) rfl Yba.underlying32 rfl Yba.sizeOf4 rfl) rfl ?_ | refine q_pur hw1 (p_load rfl Yba.isAgg4 (by assumption)) rfl ?_ | refine q_pur hw1 (p_beql rfl rfl Yba.underlying4) rfl ?_ | refine q_skip rfl rfl rfl ?_ | refine q_skip' rfl rfl rfl ?_ | refine q_pur_g hw1 rfl (p_move rfl) rfl ?_ | refine q_pur_g hw1 rfl (p_assign rfl) rfl ?_ | refine q_pur_g hw1 rfl (p_nil rfl) rfl ?_ | refine q_pur_g hw1 rfl (p_pick_t rfl rfl) rfl ?_ | refine q_pur_g hw1 rfl (p_pick_f rfl rfl) rfl ?_ | refine q_pur_g hw1 rfl (p_fld (off := 0) rfl Yba.underlying32 rfl Yba.sizeOf4 rfl) rfl ?_ | refine q_pur_g hw1 rfl (p_load rfl Yba.isAgg4 (by assumption)) rfl ?_ | refine q_pur_g hw1 rfl (p_beql rfl rfl Yba.underlying4) rfl ?_)
  by_cases hsame : (decide (a < 0) == decide (b < 0)) = true
  · rw [hsame]
    have hadd := natAdd_ok h base _ a.natAbs b.natAbs n1 n1 n2 _ z1.2.1 hbase z1.2 z2.2 hs
    repeat (first | refine c_region ?_ | refine c_block ?_ | refine c_skip ?_ | refine c_exit ?_ | refine c_ret ?_ | refine n_then ?_ | refine n_block ?_ | refine x_then ?_ | refine x_block_eq ?_ | refine x_block_ne rfl ?_ | refine r_then ?_ | refine r_block ?_ | refine s_nil ?_ | refine c_true rfl ?_ | refine c_false rfl ?_ | refine s_pur (p_move rfl) rfl ?_ | refine s_pur (p_assign rfl) rfl ?_ | refine s_pur (p_nil rfl) rfl ?_ | refine s_pur (p_pick_t rfl rfl) rfl ?_ | refine s_pur (p_pick_f rfl rfl) rfl ?_)
    refine c_held followsM rfl ?_
    refine h_any 0 rfl (by kernel_rfl) rfl (fun _ => p_move rfl) rfl ?_
    refine h_any 1 rfl (by kernel_rfl) rfl (fun _ => p_move rfl) rfl ?_
    refine h_any 2 rfl (by kernel_rfl) rfl (fun _ => p_nil rfl) rfl ?_
    refine h_any 3 rfl (by kernel_rfl) rfl (fun _ => p_fld (off := 1) rfl Yba.underlying32 rfl Yba.sizeOf30 rfl) rfl ?_
    refine h_any 5 rfl (by kernel_rfl) rfl (fun _ => p_move rfl) rfl ?_
    refine h_any 6 rfl (by kernel_rfl) rfl (fun _ => p_nil rfl) rfl ?_
    refine h_any 7 rfl (by kernel_rfl) rfl (fun _ => p_fld (off := 1) rfl Yba.underlying32 rfl Yba.sizeOf30 rfl) rfl ?_
    refine h_any 9 rfl (by kernel_rfl) rfl (fun _ => p_move rfl) rfl ?_
    refine h_any 10 rfl (by kernel_rfl) rfl (fun _ => p_nil rfl) rfl ?_
    refine h_any 11 rfl (by kernel_rfl) rfl (fun _ => p_fld (off := 1) rfl Yba.underlying32 rfl Yba.sizeOf30 rfl) rfl ?_
    refine h_take 4 rfl (by kernel_rfl) rfl (p_load rfl Yba.isAgg30 ld1) rfl ?_
    refine h_take 8 rfl (by kernel_rfl) rfl (p_load rfl Yba.isAgg30 ld1) rfl ?_
    refine h_take 12 rfl (by kernel_rfl) rfl (p_load rfl Yba.isAgg30 ld2) rfl ?_
    refine h_call 13 rfl (by kernel_rfl) rfl Yba.call20 rfl rfl hadd ?_
    rintro u q1 hr
    refine h_any 14 rfl (by kernel_rfl) rfl (fun _ => p_nil rfl) rfl ?_
    refine h_any 15 rfl (by kernel_rfl) rfl (fun _ => p_fld (off := 1) rfl Yba.underlying32 rfl Yba.sizeOf30 rfl) rfl ?_
    refine h_eff0 16 rfl (by kernel_rfl) rfl (e_store rfl rfl (nv_one hr.1) Yba.sizeOf30 (keep hr) (by simp)) ?_
    rintro _ q2 u2
    refine h_done (by kernel_rfl) ?_
    repeat (first | refine c_region ?_ | refine c_block ?_ | refine c_skip ?_ | refine c_exit ?_ | refine c_ret ?_ | refine n_then ?_ | refine n_block ?_ | refine x_then ?_ | refine x_block_eq ?_ | refine x_block_ne rfl ?_ | refine r_then ?_ | refine r_block ?_ | refine s_nil ?_ | refine c_true rfl ?_ | refine c_false rfl ?_ | refine s_pur (p_move rfl) rfl ?_ | refine s_pur (p_assign rfl) rfl ?_ | refine s_pur (p_nil rfl) rfl ?_ | refine s_pur (p_pick_t rfl rfl) rfl ?_ | refine s_pur (p_pick_f rfl rfl) rfl ?_)
    refine cut [(0, .pointer (some ⟨i1, 0, none⟩)), (7, .bool (decide (a < 0)))] (by repeat (first | exact Sub.nil | refine Sub.cons rfl ?_)) ?_
    have hs' : decide (a < 0) = decide (b < 0) := by simpa using hsame
    have hs2 : a < 0 ↔ b < 0 := by simpa using hs'
    refine addTail (z := a + b) z1.1 hn1 hr u2 (by omega) ?_ (fun h3 hi3 => ⟨rfl, u, hi3⟩)
    split
    · rw [decide_eq_false (by omega)]
    · by_cases e : a < 0
      · rw [decide_eq_true e, decide_eq_true (by omega)]
      · rw [decide_eq_false e, decide_eq_false (by omega)]
  · have hsame' : (decide (a < 0) == decide (b < 0)) = false := by simpa using hsame
    rw [hsame']
    have hs' : ¬ (decide (a < 0) = decide (b < 0)) := by simpa using hsame
    have hs2 : ¬ (a < 0 ↔ b < 0) := fun e => hs' (by simp [e])
    have hcmp := natCmp_ok h base a.natAbs b.natAbs n1 n2 z1.2 z2.2
    repeat (first | refine c_region ?_ | refine c_block ?_ | refine c_skip ?_ | refine c_exit ?_ | refine c_ret ?_ | refine n_then ?_ | refine n_block ?_ | refine x_then ?_ | refine x_block_eq ?_ | refine x_block_ne rfl ?_ | refine r_then ?_ | refine r_block ?_ | refine s_nil ?_ | refine c_true rfl ?_ | refine c_false rfl ?_ | refine s_pur (p_move rfl) rfl ?_ | refine s_pur (p_assign rfl) rfl ?_ | refine s_pur (p_nil rfl) rfl ?_ | refine s_pur (p_pick_t rfl rfl) rfl ?_ | refine s_pur (p_pick_f rfl rfl) rfl ?_)
    refine c_seq ?_
    refine c_held followsM rfl ?_
    refine h_any 0 rfl (by kernel_rfl) rfl (fun _ => p_move rfl) rfl ?_
    refine h_any 1 rfl (by kernel_rfl) rfl (fun _ => p_nil rfl) rfl ?_
    refine h_any 2 rfl (by kernel_rfl) rfl (fun _ => p_fld (off := 1) rfl Yba.underlying32 rfl Yba.sizeOf30 rfl) rfl ?_
    refine h_any 4 rfl (by kernel_rfl) rfl (fun _ => p_move rfl) rfl ?_
    refine h_any 5 rfl (by kernel_rfl) rfl (fun _ => p_nil rfl) rfl ?_
    refine h_any 6 rfl (by kernel_rfl) rfl (fun _ => p_fld (off := 1) rfl Yba.underlying32 rfl Yba.sizeOf30 rfl) rfl ?_
    refine h_take 3 rfl (by kernel_rfl) rfl (p_load rfl Yba.isAgg30 ld1) rfl ?_
    refine h_take 7 rfl (by kernel_rfl) rfl (p_load rfl Yba.isAgg30 ld2) rfl ?_
    refine h_call 8 rfl (by kernel_rfl) rfl Yba.call15 rfl rfl hcmp ?_
    rintro _ q0 ⟨rfl, hq0⟩
    obtain rfl : h = q0 := hq0.symm
    by_cases hge : b.natAbs ≤ a.natAbs
    · have hsub := natSub_ok h base _ a.natAbs b.natAbs n1 n1 n2 _ z1.2.1 hbase z1.2 z2.2 hge
      refine h_any 9 rfl (by kernel_rfl) rfl (fun _ => p_geqT rfl rfl (by unfold cmpN; rw [if_neg (by omega)]; split <;> omega)) rfl ?_
      refine h_done (by kernel_rfl) ?_
      repeat (first | refine c_region ?_ | refine c_block ?_ | refine c_skip ?_ | refine c_exit ?_ | refine c_ret ?_ | refine n_then ?_ | refine n_block ?_ | refine x_then ?_ | refine x_block_eq ?_ | refine x_block_ne rfl ?_ | refine r_then ?_ | refine r_block ?_ | refine s_nil ?_ | refine c_true rfl ?_ | refine c_false rfl ?_ | refine s_pur (p_move rfl) rfl ?_ | refine s_pur (p_assign rfl) rfl ?_ | refine s_pur (p_nil rfl) rfl ?_ | refine s_pur (p_pick_t rfl rfl) rfl ?_ | refine s_pur (p_pick_f rfl rfl) rfl ?_)
      refine c_held followsM rfl ?_
      refine h_any 0 rfl (by kernel_rfl) rfl (fun _ => p_move rfl) rfl ?_
      refine h_any 1 rfl (by kernel_rfl) rfl (fun _ => p_move rfl) rfl ?_
      refine h_any 2 rfl (by kernel_rfl) rfl (fun _ => p_nil rfl) rfl ?_
      refine h_any 3 rfl (by kernel_rfl) rfl (fun _ => p_fld (off := 1) rfl Yba.underlying32 rfl Yba.sizeOf30 rfl) rfl ?_
      refine h_any 5 rfl (by kernel_rfl) rfl (fun _ => p_move rfl) rfl ?_
      refine h_any 6 rfl (by kernel_rfl) rfl (fun _ => p_nil rfl) rfl ?_
      refine h_any 7 rfl (by kernel_rfl) rfl (fun _ => p_fld (off := 1) rfl Yba.underlying32 rfl Yba.sizeOf30 rfl) rfl ?_
      refine h_any 9 rfl (by kernel_rfl) rfl (fun _ => p_move rfl) rfl ?_
      refine h_any 10 rfl (by kernel_rfl) rfl (fun _ => p_nil rfl) rfl ?_
      refine h_any 11 rfl (by kernel_rfl) rfl (fun _ => p_fld (off := 1) rfl Yba.underlying32 rfl Yba.sizeOf30 rfl) rfl ?_
      refine h_take 4 rfl (by kernel_rfl) rfl (p_load rfl Yba.isAgg30 ld1) rfl ?_
      refine h_take 8 rfl (by kernel_rfl) rfl (p_load rfl Yba.isAgg30 ld1) rfl ?_
      refine h_take 12 rfl (by kernel_rfl) rfl (p_load rfl Yba.isAgg30 ld2) rfl ?_
      refine h_call 13 rfl (by kernel_rfl) rfl Yba.call21 rfl rfl hsub ?_
      rintro u q1 hr
      refine h_any 14 rfl (by kernel_rfl) rfl (fun _ => p_nil rfl) rfl ?_
      refine h_any 15 rfl (by kernel_rfl) rfl (fun _ => p_fld (off := 1) rfl Yba.underlying32 rfl Yba.sizeOf30 rfl) rfl ?_
      refine h_eff0 16 rfl (by kernel_rfl) rfl (e_store rfl rfl (nv_one hr.1) Yba.sizeOf30 (keep hr) (by simp)) ?_
      rintro _ q2 u2
      refine h_done (by kernel_rfl) ?_
      repeat (first | refine c_region ?_ | refine c_block ?_ | refine c_skip ?_ | refine c_exit ?_ | refine c_ret ?_ | refine n_then ?_ | refine n_block ?_ | refine x_then ?_ | refine x_block_eq ?_ | refine x_block_ne rfl ?_ | refine r_then ?_ | refine r_block ?_ | refine s_nil ?_ | refine c_true rfl ?_ | refine c_false rfl ?_ | refine s_pur (p_move rfl) rfl ?_ | refine s_pur (p_assign rfl) rfl ?_ | refine s_pur (p_nil rfl) rfl ?_ | refine s_pur (p_pick_t rfl rfl) rfl ?_ | refine s_pur (p_pick_f rfl rfl) rfl ?_)
      refine cut [(0, .pointer (some ⟨i1, 0, none⟩)), (7, .bool (decide (a < 0)))] (by repeat (first | exact Sub.nil | refine Sub.cons rfl ?_)) ?_
      refine addTail (z := a + b) z1.1 hn1 hr u2 (by omega) ?_ (fun h3 hi3 => ⟨rfl, u, hi3⟩)
      split
      · rw [decide_eq_false (by omega)]
      · by_cases e : a < 0
        · rw [decide_eq_true e, decide_eq_true (by omega)]
        · rw [decide_eq_false e, decide_eq_false (by omega)]
    · have hsub := natSub_ok h base _ b.natAbs a.natAbs n1 n2 n1 _ z1.2.1 hbase z2.2 z1.2 (by omega)
      refine h_any 9 rfl (by kernel_rfl) rfl (fun _ => p_geqF rfl rfl (by unfold cmpN; rw [if_pos (by omega)]; omega)) rfl ?_
      refine h_done (by kernel_rfl) ?_
      repeat (first | refine c_region ?_ | refine c_block ?_ | refine c_skip ?_ | refine c_exit ?_ | refine c_ret ?_ | refine n_then ?_ | refine n_block ?_ | refine x_then ?_ | refine x_block_eq ?_ | refine x_block_ne rfl ?_ | refine r_then ?_ | refine r_block ?_ | refine s_nil ?_ | refine c_true rfl ?_ | refine c_false rfl ?_ | refine s_pur (p_move rfl) rfl ?_ | refine s_pur (p_assign rfl) rfl ?_ | refine s_pur (p_nil rfl) rfl ?_ | refine s_pur (p_pick_t rfl rfl) rfl ?_ | refine s_pur (p_pick_f rfl rfl) rfl ?_)
      refine c_seq ?_
      repeat (first | refine c_region ?_ | refine c_block ?_ | refine c_skip ?_ | refine c_exit ?_ | refine c_ret ?_ | refine n_then ?_ | refine n_block ?_ | refine x_then ?_ | refine x_block_eq ?_ | refine x_block_ne rfl ?_ | refine r_then ?_ | refine r_block ?_ | refine s_nil ?_ | refine c_true rfl ?_ | refine c_false rfl ?_ | refine s_pur (p_move rfl) rfl ?_ | refine s_pur (p_assign rfl) rfl ?_ | refine s_pur (p_nil rfl) rfl ?_ | refine s_pur (p_pick_t rfl rfl) rfl ?_ | refine s_pur (p_pick_f rfl rfl) rfl ?_ | refine s_pur (p_not rfl) rfl ?_)
      refine c_held followsM rfl ?_
      refine h_any 0 rfl (by kernel_rfl) rfl (fun _ => p_move rfl) rfl ?_
      refine h_any 1 rfl (by kernel_rfl) rfl (fun _ => p_move rfl) rfl ?_
      refine h_any 2 rfl (by kernel_rfl) rfl (fun _ => p_nil rfl) rfl ?_
      refine h_any 3 rfl (by kernel_rfl) rfl (fun _ => p_fld (off := 1) rfl Yba.underlying32 rfl Yba.sizeOf30 rfl) rfl ?_
      refine h_any 5 rfl (by kernel_rfl) rfl (fun _ => p_move rfl) rfl ?_
      refine h_any 6 rfl (by kernel_rfl) rfl (fun _ => p_nil rfl) rfl ?_
      refine h_any 7 rfl (by kernel_rfl) rfl (fun _ => p_fld (off := 1) rfl Yba.underlying32 rfl Yba.sizeOf30 rfl) rfl ?_
      refine h_any 9 rfl (by kernel_rfl) rfl (fun _ => p_move rfl) rfl ?_
      refine h_any 10 rfl (by kernel_rfl) rfl (fun _ => p_nil rfl) rfl ?_
      refine h_any 11 rfl (by kernel_rfl) rfl (fun _ => p_fld (off := 1) rfl Yba.underlying32 rfl Yba.sizeOf30 rfl) rfl ?_
      refine h_take 4 rfl (by kernel_rfl) rfl (p_load rfl Yba.isAgg30 ld1) rfl ?_
      refine h_take 8 rfl (by kernel_rfl) rfl (p_load rfl Yba.isAgg30 ld2) rfl ?_
      refine h_take 12 rfl (by kernel_rfl) rfl (p_load rfl Yba.isAgg30 ld1) rfl ?_
      refine h_call 13 rfl (by kernel_rfl) rfl Yba.call21 rfl rfl hsub ?_
      rintro u q1 hr
      refine h_any 14 rfl (by kernel_rfl) rfl (fun _ => p_nil rfl) rfl ?_
      refine h_any 15 rfl (by kernel_rfl) rfl (fun _ => p_fld (off := 1) rfl Yba.underlying32 rfl Yba.sizeOf30 rfl) rfl ?_
      refine h_eff0 16 rfl (by kernel_rfl) rfl (e_store rfl rfl (nv_one hr.1) Yba.sizeOf30 (keep hr) (by simp)) ?_
      rintro _ q2 u2
      refine h_done (by kernel_rfl) ?_
      repeat (first | refine c_region ?_ | refine c_block ?_ | refine c_skip ?_ | refine c_exit ?_ | refine c_ret ?_ | refine n_then ?_ | refine n_block ?_ | refine x_then ?_ | refine x_block_eq ?_ | refine x_block_ne rfl ?_ | refine r_then ?_ | refine r_block ?_ | refine s_nil ?_ | refine c_true rfl ?_ | refine c_false rfl ?_ | refine s_pur (p_move rfl) rfl ?_ | refine s_pur (p_assign rfl) rfl ?_ | refine s_pur (p_nil rfl) rfl ?_ | refine s_pur (p_pick_t rfl rfl) rfl ?_ | refine s_pur (p_pick_f rfl rfl) rfl ?_)
      refine cut [(0, .pointer (some ⟨i1, 0, none⟩)), (7, .bool (!decide (a < 0)))] (by repeat (first | exact Sub.nil | refine Sub.cons rfl ?_)) ?_
      refine addTail (z := a + b) z1.1 hn1 hr u2 (by omega) ?_ (fun h3 hi3 => ⟨rfl, u, hi3⟩)
      split
      · rw [decide_eq_false (by omega)]
      · by_cases e : a < 0
        · rw [decide_eq_true e, decide_eq_false (by omega)]; rfl
        · rw [decide_eq_false e, decide_eq_true (by omega)]; rfl
end Go.Proofs.Ybulkdirs
