/-
  B8: math/big: Int.SetInt64, Int.SetUint64.
-/
import Derived.Test.YbulkdirsB7
namespace Go.Proofs.Ybulkdirs
set_option linter.unusedSimpArgs false
set_option linter.unusedVariables false
set_option linter.unnecessarySimpa false
open Go Go.RowKit V
set_option maxRecDepth 100000

theorem V.p_neg {P : Program} {l : Env} {h : Heap} {ty t : TypeId} {x : Operand} {k : IntKind} {a : Int} (hx : ev l x = some (.int k a)) : Pur P (.unOp .neg t x) ty l h (.int k (k.wrap (-a))) := by
  refine ⟨fun ρ w d p af g hρ hw => ?_⟩; simp [execOp, hρ _ _ hx, Op.unary, Op.intArith]

/-- A big.Int: its sign and its number's words. -/
def ZV (h : Heap) (base ib : Nat) (z : Int) (nv : Value) : Prop := h[ib]? = some (.cells #[.bool (decide (z < 0)), nv] 32 (0, 0)) ∧ NV h base nv z.natAbs
/-- What a call that turns the big.Int at ib leaves. -/
structure IRes (h h' : Heap) (base ib : Nat) (nv : Value) (z : Int) (nv' : Value) : Prop where
  zv : ZV h' base ib z nv'
  size : h.size ≤ h'.size
  other : ∀ k, k < h.size → k ≠ ib → nv.ownBlock ≠ some k → h'[k]? = h[k]?
  own : nv'.ownBlock = nv.ownBlock ∨ nv'.ownBlock = some h.size

theorem nv_ne {h : Heap} {base ib v : Nat} {u : Value} {cs : Array Value} (hn : NV h base u v) (hi : h[ib]? = some (.cells cs 32 (0, 0))) : u.ownBlock ≠ some ib := by
  intro e
  rcases hn.1.shape with ⟨e1, _⟩ | ⟨g, cap, cur, e1, _, hg, _⟩
  · rw [e1] at e; simp [Value.ownBlock] at e
  · rw [e1] at e
    simp [Value.ownBlock] at e
    subst e
    rw [hg] at hi
    simp at hi
theorem nv_one {h : Heap} {base v : Nat} {u : Value} (hn : NV h base u v) : u.oneCell' = true := by
  obtain ⟨a, c, rfl⟩ := nv_slice hn; rfl

/-- The words stored, then the sign. -/
theorem ires_mk {h h1 h2 h3 : Heap} {base ib X : Nat} {nv u : Value} {b b' : Value} {z : Int} (hz : h[ib]? = some (.cells #[b, nv] 32 (0, 0))) (hne : nv.ownBlock ≠ some ib) (hr : NRes h h1 base nv u X)
    (u2 : Upd h1 h2 ib (.cells #[b, u] 32 (0, 0))) (u3 : Upd h2 h3 ib (.cells #[b', u] 32 (0, 0))) (hb : b' = .bool (decide (z < 0))) (hX : z.natAbs = X) : IRes h h3 base ib nv z u := by
  subst hX
  obtain ⟨hn, hg, ho⟩ := hr
  have hi : ib < h.size := lt_of_get hz
  have h1i : h1[ib]? = some (.cells #[b, nv] 32 (0, 0)) := by rw [hg.other ib hi (fun e => hne e.symm)]; exact hz
  have une := nv_ne hn h1i
  have hs := hg.size
  have s2 := u2.size
  have s3 := u3.size
  refine ⟨⟨by rw [← hb]; exact u3.at_, ⟨hn.1.keep fun k _ _ hk => ?_, hn.2⟩⟩, by omega, fun k hk hki hkn => ?_, ho⟩
  · have : k ≠ ib := fun e => une (e ▸ hk)
    rw [u3.other k this, u2.other k this]
  · rw [u3.other k hki, u2.other k hki, hg.other k hk (fun e => hkn e.symm)]

theorem natAbs_wrap (v : Int) (h1 : -9223372036854775808 ≤ v) (h2 : v ≤ 9223372036854775807) (h0 : v < 0) : IntKind.u64.wrap (IntKind.i64.wrap (-v)) = (v.natAbs : Int) := by
  simp only [IntKind.wrap, IntKind.bits, IntKind.signed]
  simp
  split <;> omega

set_option maxHeartbeats 2000000 in
theorem setInt64_ok (h : Heap) (base ib : Nat) (z v : Int) (nv : Value) (hz : ZV h base ib z nv) (hbase : base ≤ h.size) (h1 : -9223372036854775808 ≤ v) (h2 : v ≤ 9223372036854775807) :
    CallsH Yba.prog 8 #[.pointer (some ⟨ib, 0, none⟩), .int .i64 v] h (fun u h' => u = .pointer (some ⟨ib, 0, none⟩) ∧ ∃ nv', IRes h h' base ib nv v nv') := by
  have hne := nv_ne hz.2 hz.1
  have hset := setUint64_ok h base _ v.natAbs nv _ hz.2.1 hbase (by simp only [B]; omega)
  refine calls_of [(0, .pointer (some ⟨ib, 0, none⟩)), (1, .int .i64 v)] Yba.func8 rfl Yba.ntmps8 (by simp) (.cons rfl (.cons rfl .nil)) ?_
  intro w0 hw0
  refine c_mid [(0, .pointer (some ⟨ib, 0, none⟩)), (1, .int .i64 v)] (fun q => h = q) ?_ ?_
  · repeat (first | refine c_seq ?_ | refine c_region ?_ | refine c_block ?_ | refine c_skip ?_ | refine c_exit ?_ | refine c_ret ?_ | refine n_then ?_ | refine n_block ?_ | refine x_then ?_ | refine x_block_eq ?_ | refine x_block_ne rfl ?_ | refine r_then ?_ | refine r_block ?_ | refine s_nil ?_ | refine c_true rfl ?_ | refine c_false rfl ?_ | refine s_pur (p_move rfl) rfl ?_ | refine s_pur (p_assign rfl) rfl ?_ | refine s_pur (p_nil rfl) rfl ?_ | refine s_pur (p_pick_t rfl rfl) rfl ?_ | refine s_pur (p_pick_f rfl rfl) rfl ?_)
    exact m_done rfl (by repeat (first | exact Sub.nil | refine Sub.cons rfl ?_))
  rintro _ rfl
  refine c_mid [(0, .pointer (some ⟨ib, 0, none⟩)), (1, .int .i64 v), (5, .bool false)] (fun q => h = q) ?_ ?_
  · repeat (first | refine c_seq ?_ | refine c_region ?_ | refine c_block ?_ | refine c_skip ?_ | refine c_exit ?_ | refine c_ret ?_ | refine n_then ?_ | refine n_block ?_ | refine x_then ?_ | refine x_block_eq ?_ | refine x_block_ne rfl ?_ | refine r_then ?_ | refine r_block ?_ | refine s_nil ?_ | refine c_true rfl ?_ | refine c_false rfl ?_ | refine s_pur (p_move rfl) rfl ?_ | refine s_pur (p_assign rfl) rfl ?_ | refine s_pur (p_nil rfl) rfl ?_ | refine s_pur (p_pick_t rfl rfl) rfl ?_ | refine s_pur (p_pick_f rfl rfl) rfl ?_)
    exact m_done rfl (by repeat (first | exact Sub.nil | refine Sub.cons rfl ?_))
  rintro _ rfl
  refine c_mid [(0, .pointer (some ⟨ib, 0, none⟩)), (1, .int .i64 (if v < 0 then IntKind.i64.wrap (-v) else v)), (5, .bool (decide (v < 0)))] (fun q => h = q) ?_ ?_
  · by_cases h0 : v < 0
    · rw [if_pos h0, decide_eq_true h0]
      repeat (first | refine c_seq ?_ | refine c_region ?_ | refine c_block ?_ | refine c_skip ?_ | refine c_exit ?_ | refine c_ret ?_ | refine n_then ?_ | refine n_block ?_ | refine x_then ?_ | refine x_block_eq ?_ | refine x_block_ne rfl ?_ | refine r_then ?_ | refine r_block ?_ | refine s_nil ?_ | refine c_true rfl ?_ | refine c_false rfl ?_ | refine s_pur (p_move rfl) rfl ?_ | refine s_pur (p_assign rfl) rfl ?_ | refine s_pur (p_nil rfl) rfl ?_ | refine s_pur (p_pick_t rfl rfl) rfl ?_ | refine s_pur (p_pick_f rfl rfl) rfl ?_ | refine s_pur (p_neg rfl) rfl ?_ | refine s_pur (p_lssT rfl rfl (by omega)) rfl ?_ | refine s_pur (p_lssF rfl rfl (by omega)) rfl ?_ | refine s_pur (p_leqT rfl rfl (by omega)) rfl ?_ | refine s_pur (p_leqF rfl rfl (by omega)) rfl ?_ | refine s_pur (p_gtrT rfl rfl (by omega)) rfl ?_ | refine s_pur (p_gtrF rfl rfl (by omega)) rfl ?_ | refine s_pur (p_geqT rfl rfl (by omega)) rfl ?_ | refine s_pur (p_geqF rfl rfl (by omega)) rfl ?_ | refine s_pur (p_eqlT rfl rfl (by omega)) rfl ?_ | refine s_pur (p_eqlF rfl rfl (by omega)) rfl ?_ | refine s_pur (p_neqT rfl rfl (by omega)) rfl ?_ | refine s_pur (p_neqF rfl rfl (by omega)) rfl ?_)
      exact m_done rfl (by repeat (first | exact Sub.nil | refine Sub.cons rfl ?_))
    · rw [if_neg h0, decide_eq_false h0]
      repeat (first | refine c_seq ?_ | refine c_region ?_ | refine c_block ?_ | refine c_skip ?_ | refine c_exit ?_ | refine c_ret ?_ | refine n_then ?_ | refine n_block ?_ | refine x_then ?_ | refine x_block_eq ?_ | refine x_block_ne rfl ?_ | refine r_then ?_ | refine r_block ?_ | refine s_nil ?_ | refine c_true rfl ?_ | refine c_false rfl ?_ | refine s_pur (p_move rfl) rfl ?_ | refine s_pur (p_assign rfl) rfl ?_ | refine s_pur (p_nil rfl) rfl ?_ | refine s_pur (p_pick_t rfl rfl) rfl ?_ | refine s_pur (p_pick_f rfl rfl) rfl ?_ | refine s_pur (p_lssT rfl rfl (by omega)) rfl ?_ | refine s_pur (p_lssF rfl rfl (by omega)) rfl ?_ | refine s_pur (p_leqT rfl rfl (by omega)) rfl ?_ | refine s_pur (p_leqF rfl rfl (by omega)) rfl ?_ | refine s_pur (p_gtrT rfl rfl (by omega)) rfl ?_ | refine s_pur (p_gtrF rfl rfl (by omega)) rfl ?_ | refine s_pur (p_geqT rfl rfl (by omega)) rfl ?_ | refine s_pur (p_geqF rfl rfl (by omega)) rfl ?_ | refine s_pur (p_eqlT rfl rfl (by omega)) rfl ?_ | refine s_pur (p_eqlF rfl rfl (by omega)) rfl ?_ | refine s_pur (p_neqT rfl rfl (by omega)) rfl ?_ | refine s_pur (p_neqF rfl rfl (by omega)) rfl ?_)
      exact m_done rfl (by repeat (first | exact Sub.nil | refine Sub.cons rfl ?_))
  rintro _ rfl
  have hcv : IntKind.u64.wrap (if v < 0 then IntKind.i64.wrap (-v) else v) = ((v.natAbs : Nat) : Int) := by
    by_cases h0 : v < 0
    · rw [if_pos h0]; exact natAbs_wrap v h1 h2 h0
    · rw [if_neg h0, wrapU64_eq (by omega) (by omega)]; omega
  generalize (if v < 0 then IntKind.i64.wrap (-v) else v) = v' at hcv
  have hi : ib < h.size := lt_of_get hz.1
  refine c_mid [(0, .pointer (some ⟨ib, 0, none⟩)), (5, .bool (decide (v < 0)))] (fun q => ∃ u h1, NRes h h1 base nv u v.natAbs ∧ Upd h1 q ib (.cells #[.bool (decide (z < 0)), u] 32 (0, 0))) ?_ ?_
  · repeat (first | refine c_seq ?_ | refine c_region ?_ | refine c_block ?_ | refine c_skip ?_ | refine c_exit ?_ | refine c_ret ?_ | refine n_then ?_ | refine n_block ?_ | refine x_then ?_ | refine x_block_eq ?_ | refine x_block_ne rfl ?_ | refine r_then ?_ | refine r_block ?_ | refine s_nil ?_ | refine c_true rfl ?_ | refine c_false rfl ?_ | refine s_pur (p_move rfl) rfl ?_ | refine s_pur (p_assign rfl) rfl ?_ | refine s_pur (p_nil rfl) rfl ?_ | refine s_pur (p_pick_t rfl rfl) rfl ?_ | refine s_pur (p_pick_f rfl rfl) rfl ?_ | refine s_pur (p_fld (off := 1) rfl Yba.underlying32 rfl Yba.sizeOf30 rfl) rfl ?_ | refine s_pur (p_load rfl Yba.isAgg30 ((hc_of hz.1).trans rfl)) rfl ?_ | refine s_pur (hcv ▸ p_conv rfl Yba.underlying2 Yba.underlying36 : Pur Yba.prog (.convert 2 36 (.tmp 15)) _ _ _ (.int .u64 ((v.natAbs : Nat) : Int))) rfl ?_)
    refine s_call Yba.call22 rfl rfl hset ?_
    rintro u q1 hr
    have hq1 : q1[ib]? = some (.cells #[.bool (decide (z < 0)), nv] 32 (0, 0)) := by rw [hr.2.1.other ib hi (fun e => hne e.symm)]; exact hz.1
    repeat (first | refine c_seq ?_ | refine c_region ?_ | refine c_block ?_ | refine c_skip ?_ | refine c_exit ?_ | refine c_ret ?_ | refine n_then ?_ | refine n_block ?_ | refine x_then ?_ | refine x_block_eq ?_ | refine x_block_ne rfl ?_ | refine r_then ?_ | refine r_block ?_ | refine s_nil ?_ | refine c_true rfl ?_ | refine c_false rfl ?_ | refine s_pur (p_move rfl) rfl ?_ | refine s_pur (p_assign rfl) rfl ?_ | refine s_pur (p_nil rfl) rfl ?_ | refine s_pur (p_pick_t rfl rfl) rfl ?_ | refine s_pur (p_pick_f rfl rfl) rfl ?_ | refine s_pur (p_fld (off := 1) rfl Yba.underlying32 rfl Yba.sizeOf30 rfl) rfl ?_)
    refine s_eff0 (e_store rfl rfl (nv_one hr.1) Yba.sizeOf30 hq1 (by simp)) ?_
    rintro _ q2 u2
    repeat (first | refine c_seq ?_ | refine c_region ?_ | refine c_block ?_ | refine c_skip ?_ | refine c_exit ?_ | refine c_ret ?_ | refine n_then ?_ | refine n_block ?_ | refine x_then ?_ | refine x_block_eq ?_ | refine x_block_ne rfl ?_ | refine r_then ?_ | refine r_block ?_ | refine s_nil ?_ | refine c_true rfl ?_ | refine c_false rfl ?_ | refine s_pur (p_move rfl) rfl ?_ | refine s_pur (p_assign rfl) rfl ?_ | refine s_pur (p_nil rfl) rfl ?_ | refine s_pur (p_pick_t rfl rfl) rfl ?_ | refine s_pur (p_pick_f rfl rfl) rfl ?_)
    exact m_done ⟨u, q1, hr, u2⟩ (by repeat (first | exact Sub.nil | refine Sub.cons rfl ?_))
  rintro q2 ⟨u, q1, hr, u2⟩
  repeat (first | refine c_seq ?_ | refine c_region ?_ | refine c_block ?_ | refine c_skip ?_ | refine c_exit ?_ | refine c_ret ?_ | refine n_then ?_ | refine n_block ?_ | refine x_then ?_ | refine x_block_eq ?_ | refine x_block_ne rfl ?_ | refine r_then ?_ | refine r_block ?_ | refine s_nil ?_ | refine c_true rfl ?_ | refine c_false rfl ?_ | refine s_pur (p_move rfl) rfl ?_ | refine s_pur (p_assign rfl) rfl ?_ | refine s_pur (p_nil rfl) rfl ?_ | refine s_pur (p_pick_t rfl rfl) rfl ?_ | refine s_pur (p_pick_f rfl rfl) rfl ?_ | refine s_pur (p_fld (off := 0) rfl Yba.underlying32 rfl Yba.sizeOf4 rfl) rfl ?_)
  refine s_eff0 (e_store rfl rfl rfl Yba.sizeOf4 u2.at_ (by simp)) ?_
  rintro _ q3 u3
  repeat (first | refine c_seq ?_ | refine c_region ?_ | refine c_block ?_ | refine c_skip ?_ | refine c_exit ?_ | refine c_ret ?_ | refine n_then ?_ | refine n_block ?_ | refine x_then ?_ | refine x_block_eq ?_ | refine x_block_ne rfl ?_ | refine r_then ?_ | refine r_block ?_ | refine s_nil ?_ | refine c_true rfl ?_ | refine c_false rfl ?_ | refine s_pur (p_move rfl) rfl ?_ | refine s_pur (p_assign rfl) rfl ?_ | refine s_pur (p_nil rfl) rfl ?_ | refine s_pur (p_pick_t rfl rfl) rfl ?_ | refine s_pur (p_pick_f rfl rfl) rfl ?_)
  exact ret1 Yba.results8 rfl ⟨rfl, u, ires_mk hz.1 hne hr u2 u3 rfl rfl⟩

set_option maxHeartbeats 2000000 in
theorem setUintI_ok (h : Heap) (base ib x : Nat) (z : Int) (nv : Value) (hz : ZV h base ib z nv) (hbase : base ≤ h.size) (hx : x < B) :
    CallsH Yba.prog 17 #[.pointer (some ⟨ib, 0, none⟩), .int .u64 x] h (fun u h' => u = .pointer (some ⟨ib, 0, none⟩) ∧ ∃ nv', IRes h h' base ib nv x nv') := by
  have hne := nv_ne hz.2 hz.1
  have hset := setUint64_ok h base _ x nv _ hz.2.1 hbase hx
  have hi : ib < h.size := lt_of_get hz.1
  refine calls_of [(0, .pointer (some ⟨ib, 0, none⟩)), (1, .int .u64 x)] Yba.func17 rfl Yba.ntmps17 (by simp) (.cons rfl (.cons rfl .nil)) ?_
  intro w0 hw0
  repeat (first | refine c_seq ?_ | refine c_region ?_ | refine c_block ?_ | refine c_skip ?_ | refine c_exit ?_ | refine c_ret ?_ | refine n_then ?_ | refine n_block ?_ | refine x_then ?_ | refine x_block_eq ?_ | refine x_block_ne rfl ?_ | refine r_then ?_ | refine r_block ?_ | refine s_nil ?_ | refine c_true rfl ?_ | refine c_false rfl ?_ | refine s_pur (p_move rfl) rfl ?_ | refine s_pur (p_assign rfl) rfl ?_ | refine s_pur (p_nil rfl) rfl ?_ | refine s_pur (p_pick_t rfl rfl) rfl ?_ | refine s_pur (p_pick_f rfl rfl) rfl ?_ | refine s_pur (p_fld (off := 1) rfl Yba.underlying32 rfl Yba.sizeOf30 rfl) rfl ?_ | refine s_pur (p_load rfl Yba.isAgg30 ((hc_of hz.1).trans rfl)) rfl ?_)
  refine s_call Yba.call22 rfl rfl hset ?_
  rintro u q1 hr
  have hq1 : q1[ib]? = some (.cells #[.bool (decide (z < 0)), nv] 32 (0, 0)) := by rw [hr.2.1.other ib hi (fun e => hne e.symm)]; exact hz.1
  repeat (first | refine c_seq ?_ | refine c_region ?_ | refine c_block ?_ | refine c_skip ?_ | refine c_exit ?_ | refine c_ret ?_ | refine n_then ?_ | refine n_block ?_ | refine x_then ?_ | refine x_block_eq ?_ | refine x_block_ne rfl ?_ | refine r_then ?_ | refine r_block ?_ | refine s_nil ?_ | refine c_true rfl ?_ | refine c_false rfl ?_ | refine s_pur (p_move rfl) rfl ?_ | refine s_pur (p_assign rfl) rfl ?_ | refine s_pur (p_nil rfl) rfl ?_ | refine s_pur (p_pick_t rfl rfl) rfl ?_ | refine s_pur (p_pick_f rfl rfl) rfl ?_ | refine s_pur (p_fld (off := 1) rfl Yba.underlying32 rfl Yba.sizeOf30 rfl) rfl ?_)
  refine s_eff0 (e_store rfl rfl (nv_one hr.1) Yba.sizeOf30 hq1 (by simp)) ?_
  rintro _ q2 u2
  repeat (first | refine c_seq ?_ | refine c_region ?_ | refine c_block ?_ | refine c_skip ?_ | refine c_exit ?_ | refine c_ret ?_ | refine n_then ?_ | refine n_block ?_ | refine x_then ?_ | refine x_block_eq ?_ | refine x_block_ne rfl ?_ | refine r_then ?_ | refine r_block ?_ | refine s_nil ?_ | refine c_true rfl ?_ | refine c_false rfl ?_ | refine s_pur (p_move rfl) rfl ?_ | refine s_pur (p_assign rfl) rfl ?_ | refine s_pur (p_nil rfl) rfl ?_ | refine s_pur (p_pick_t rfl rfl) rfl ?_ | refine s_pur (p_pick_f rfl rfl) rfl ?_ | refine s_pur (p_fld (off := 0) rfl Yba.underlying32 rfl Yba.sizeOf4 rfl) rfl ?_)
  refine s_eff0 (e_store rfl rfl rfl Yba.sizeOf4 u2.at_ (by simp)) ?_
  rintro _ q3 u3
  repeat (first | refine c_seq ?_ | refine c_region ?_ | refine c_block ?_ | refine c_skip ?_ | refine c_exit ?_ | refine c_ret ?_ | refine n_then ?_ | refine n_block ?_ | refine x_then ?_ | refine x_block_eq ?_ | refine x_block_ne rfl ?_ | refine r_then ?_ | refine r_block ?_ | refine s_nil ?_ | refine c_true rfl ?_ | refine c_false rfl ?_ | refine s_pur (p_move rfl) rfl ?_ | refine s_pur (p_assign rfl) rfl ?_ | refine s_pur (p_nil rfl) rfl ?_ | refine s_pur (p_pick_t rfl rfl) rfl ?_ | refine s_pur (p_pick_f rfl rfl) rfl ?_)
  exact ret1 Yba.results17 rfl ⟨rfl, u, ires_mk hz.1 hne hr u2 u3 (by rw [decide_eq_false (by omega)]) (by omega)⟩
end Go.Proofs.Ybulkdirs
