/-
  C1: table.mix, (*Cache).shard.
-/
import Derived.Test.YbulkdireC0
import Derived.WalkKit
namespace Go.Proofs.Ybulkdire
set_option linter.unusedSimpArgs false
set_option linter.unusedVariables false
set_option linter.unnecessarySimpa false
open Go Go.RowKit V
set_option maxRecDepth 100000

def mixA (x : Int) : Int := IntKind.u64.wrap (bits .xor .u64 x (x / 1073741824) * 13787848793156543929)
def mixB (x : Int) : Int := IntKind.u64.wrap (bits .xor .u64 (mixA x) (mixA x / 134217728) * 10723151780598845931)
def mixZ (x : Int) : Int := bits .xor .u64 (mixB x) (mixB x / 2147483648)

theorem mix_ok (x : Int) (w : World) : Calls Yba.prog 16 #[.int .u64 x] w (fun e w' => e = .returned (.int .u64 (mixZ x)) ∧ ∃ n, w' = w.drewN n) := by
  go_enter Yba.func16, Yba.ntmps16
  go_wp2
  exact bodyPost_ret (results_tmp rfl _ _ _) rfl ⟨rfl, 0, rfl⟩

theorem p_xor {P : Program} {l : Env} {h : Heap} {ty t t2 : TypeId} {x y : Operand} {a b : Int} (hx : ev l x = some (.int .u64 a)) (hy : ev l y = some (.int .u64 b)) : Pur P (.binOp .xor t x y t2) ty l h (.int .u64 (bits .xor .u64 a b)) := by
  refine ⟨fun ρ w d p af g hρ hw => ?_⟩
  have : (Op.intBits .xor .u64 a b).run P w = .ok (.int .u64 (bits .xor .u64 a b)) w := by simp [go_sem]
  simp [execOp, hρ _ _ hx, hρ _ _ hy, eqGuard, binOp, this]

theorem followsM : Yba.prog.follows .mixedOrders = true := by kernel_rfl

def keyV (k : Int × Int) : Value := .agg [.int .u64 k.1, .int .i64 k.2].toArray

theorem p_conv64U {P : Program} {l : Env} {h : Heap} {ty src dst : TypeId} {x : Operand} {d' : TypeDesc} (hx : ev l x = some (.int .i64 ((1 : Nat) : Int))) (hs : P.underlying src = some d') (hu : P.underlying dst = some (.int .u64)) : Pur P (.convert src dst x) ty l h (.int .u64 1) :=
  p_convU64 hx hs hu (by decide) (by decide)

set_option maxHeartbeats 4000000 in
theorem shard_ok (h : Heap) (cb sb : Nat) (k : Int × Int) (c0 : hc h cb 0 = some (.slice (some ⟨sb, 0, none⟩) 1 1)) :
    CallsH Yba.prog 9 #[.pointer (some ⟨cb, 0, none⟩), keyV k] h (fun u h' => u = .pointer (some ⟨sb, 0, none⟩) ∧ New h h' (.cells [.int .u64 k.1, .int .i64 k.2].toArray 39)) := by
  refine calls_of (N := 25) [(0, .pointer (some ⟨cb, 0, none⟩)), (1, keyV k)] Yba.func9 rfl rfl (by simp) (by repeat (first | exact ArgsAre.nil | refine ArgsAre.cons rfl ?_)) ?_
  intro w0 _
  have hlt := lt_of_hc c0
  refine c_mid [(0, .pointer (some ⟨cb, 0, none⟩)), (3, .pointer (some ⟨h.size, 0, none⟩))] (fun q => New h q (.cells [.int .u64 k.1, .int .i64 k.2].toArray 39)) ?_ ?_
  · repeat (first | refine c_seq ?_ | refine c_region ?_ | refine c_block ?_ | refine c_skip ?_ | refine c_exit ?_ | refine c_ret ?_ | refine n_then ?_ | refine n_block ?_ | refine x_then ?_ | refine x_block_eq ?_ | refine x_block_ne rfl ?_ | refine r_then ?_ | refine r_block ?_ | refine s_nil ?_ | refine c_true rfl ?_ | refine c_false rfl ?_ | refine s_pur (p_move rfl) rfl ?_ | refine s_pur (p_assign rfl) rfl ?_ | refine s_pur (p_nil rfl) rfl ?_ | refine s_pur (p_pick_t rfl rfl) rfl ?_ | refine s_pur (p_pick_f rfl rfl) rfl ?_)
    refine s_eff (e_box rfl) rfl ?_
    rintro _ q ⟨rfl, nq⟩
    repeat (first | refine c_seq ?_ | refine c_region ?_ | refine c_block ?_ | refine c_skip ?_ | refine c_exit ?_ | refine c_ret ?_ | refine n_then ?_ | refine n_block ?_ | refine x_then ?_ | refine x_block_eq ?_ | refine x_block_ne rfl ?_ | refine r_then ?_ | refine r_block ?_ | refine s_nil ?_ | refine c_true rfl ?_ | refine c_false rfl ?_ | refine s_pur (p_move rfl) rfl ?_ | refine s_pur (p_assign rfl) rfl ?_ | refine s_pur (p_nil rfl) rfl ?_ | refine s_pur (p_pick_t rfl rfl) rfl ?_ | refine s_pur (p_pick_f rfl rfl) rfl ?_)
    exact m_done nq (by repeat (first | exact Sub.nil | refine Sub.cons rfl ?_))
  intro q nq
  have c1 : hc q cb (0 + 0) = some (.slice (some ⟨sb, 0, none⟩) 1 1) := by rw [Nat.zero_add, hc_congr (nq.other cb hlt)]; exact c0
  have k1 : hc q h.size (0 + 0) = some (.int .u64 k.1) := by rw [hc_of nq.at_]; rfl
  have k2 : hc q h.size (0 + 1) = some (.int .i64 k.2) := by rw [hc_of nq.at_]; rfl
  have hmod : ∀ z : Int, z.tmod 1 = ((0 : Nat) : Int) := fun z => by simp [Int.tmod_one]
  refine c_seq ?_
  refine c_quiet followsM (by kernel_rfl) ?_
  intro w1 hw1
  repeat (first | refine q_nil hw1 ?_ | refine c_seq ?_ | refine c_region ?_ | refine c_block ?_ | refine c_skip ?_ | refine c_exit ?_ | refine c_ret ?_ | refine n_then ?_ | refine n_block ?_ | refine x_then ?_ | refine x_block_eq ?_ | refine x_block_ne rfl ?_ | refine r_then ?_ | refine r_block ?_ | refine s_nil ?_ | refine c_true rfl ?_ | refine c_false rfl ?_ | refine q_pur hw1 (p_move rfl) rfl ?_ | refine q_pur hw1 (p_assign rfl) rfl ?_ | refine q_pur hw1 (p_nil rfl) rfl ?_ | refine q_pur hw1 (p_pick_t rfl rfl) rfl ?_ | refine q_pur hw1 (p_pick_f rfl rfl) rfl ?_ | refine q_pur hw1 (p_fld (off := 0) rfl Yba.underlying58 rfl Yba.sizeOf56 rfl) rfl ?_ | refine q_pur hw1 (p_load rfl Yba.isAgg56 (by assumption)) rfl ?_ | refine q_pur hw1 (p_fld (off := 0) rfl Yba.underlying39 rfl Yba.sizeOf23 rfl) rfl ?_ | refine q_pur hw1 (p_fld (off := 1) rfl Yba.underlying39 rfl Yba.sizeOf2 rfl) rfl ?_ | refine q_pur hw1 (p_load rfl Yba.isAgg23 (by assumption)) rfl ?_ | refine q_pur hw1 (p_load rfl Yba.isAgg2 (by assumption)) rfl ?_ | refine q_pur hw1 (p_mulW rfl rfl) rfl ?_ | refine q_pur hw1 (p_conv rfl Yba.underlying2 Yba.underlying23) rfl ?_ | refine q_pur hw1 (p_xor rfl rfl) rfl ?_ | refine q_skip rfl rfl rfl ?_ | refine q_skip' rfl rfl rfl ?_ | refine q_pur_g hw1 rfl (p_move rfl) rfl ?_ | refine q_pur_g hw1 rfl (p_assign rfl) rfl ?_ | refine q_pur_g hw1 rfl (p_nil rfl) rfl ?_ | refine q_pur_g hw1 rfl (p_pick_t rfl rfl) rfl ?_ | refine q_pur_g hw1 rfl (p_pick_f rfl rfl) rfl ?_ | refine q_pur_g hw1 rfl (p_fld (off := 0) rfl Yba.underlying58 rfl Yba.sizeOf56 rfl) rfl ?_ | refine q_pur_g hw1 rfl (p_load rfl Yba.isAgg56 (by assumption)) rfl ?_ | refine q_pur_g hw1 rfl (p_fld (off := 0) rfl Yba.underlying39 rfl Yba.sizeOf23 rfl) rfl ?_ | refine q_pur_g hw1 rfl (p_fld (off := 1) rfl Yba.underlying39 rfl Yba.sizeOf2 rfl) rfl ?_ | refine q_pur_g hw1 rfl (p_load rfl Yba.isAgg23 (by assumption)) rfl ?_ | refine q_pur_g hw1 rfl (p_load rfl Yba.isAgg2 (by assumption)) rfl ?_ | refine q_pur_g hw1 rfl (p_mulW rfl rfl) rfl ?_ | refine q_pur_g hw1 rfl (p_conv rfl Yba.underlying2 Yba.underlying23) rfl ?_ | refine q_pur_g hw1 rfl (p_xor rfl rfl) rfl ?_)
  refine q_call hw1 (v := .int .u64 (mixZ (bits .xor .u64 (IntKind.u64.wrap (k.1 * 1099511628211)) (IntKind.u64.wrap k.2)))) Yba.call16 rfl rfl (fun w _ => mix_ok _ w) ?_
  repeat (first | refine q_nil hw1 ?_ | refine c_seq ?_ | refine c_region ?_ | refine c_block ?_ | refine c_skip ?_ | refine c_exit ?_ | refine c_ret ?_ | refine n_then ?_ | refine n_block ?_ | refine x_then ?_ | refine x_block_eq ?_ | refine x_block_ne rfl ?_ | refine r_then ?_ | refine r_block ?_ | refine s_nil ?_ | refine c_true rfl ?_ | refine c_false rfl ?_ | refine q_pur hw1 (p_move rfl) rfl ?_ | refine q_pur hw1 (p_assign rfl) rfl ?_ | refine q_pur hw1 (p_nil rfl) rfl ?_ | refine q_pur hw1 (p_pick_t rfl rfl) rfl ?_ | refine q_pur hw1 (p_pick_f rfl rfl) rfl ?_ | refine q_pur hw1 (p_fld (off := 0) rfl Yba.underlying58 rfl Yba.sizeOf56 rfl) rfl ?_ | refine q_pur hw1 (p_load rfl Yba.isAgg56 (by assumption)) rfl ?_ | refine q_pur hw1 (p_len rfl Yba.underlying56) rfl ?_ | refine q_pur hw1 (p_idx rfl rfl rfl (by omega) Yba.underlying56 Yba.sizeOf54) rfl ?_ | refine q_pur hw1 (p_conv64U rfl Yba.underlying3 Yba.underlying23) rfl ?_ | refine q_pur hw1 (p_rem rfl rfl (by decide)) rfl ?_ | refine q_pur hw1 (p_idx rfl rfl (hmod _) (by omega) Yba.underlying56 Yba.sizeOf54) rfl ?_ | refine q_skip rfl rfl rfl ?_ | refine q_skip' rfl rfl rfl ?_ | refine q_pur_g hw1 rfl (p_move rfl) rfl ?_ | refine q_pur_g hw1 rfl (p_assign rfl) rfl ?_ | refine q_pur_g hw1 rfl (p_nil rfl) rfl ?_ | refine q_pur_g hw1 rfl (p_pick_t rfl rfl) rfl ?_ | refine q_pur_g hw1 rfl (p_pick_f rfl rfl) rfl ?_ | refine q_pur_g hw1 rfl (p_fld (off := 0) rfl Yba.underlying58 rfl Yba.sizeOf56 rfl) rfl ?_ | refine q_pur_g hw1 rfl (p_load rfl Yba.isAgg56 (by assumption)) rfl ?_ | refine q_pur_g hw1 rfl (p_len rfl Yba.underlying56) rfl ?_ | refine q_pur_g hw1 rfl (p_idx rfl rfl rfl (by omega) Yba.underlying56 Yba.sizeOf54) rfl ?_ | refine q_pur_g hw1 rfl (p_conv64U rfl Yba.underlying3 Yba.underlying23) rfl ?_ | refine q_pur_g hw1 rfl (p_rem rfl rfl (by decide)) rfl ?_ | refine q_pur_g hw1 rfl (p_idx rfl rfl (hmod _) (by omega) Yba.underlying56 Yba.sizeOf54) rfl ?_)
  exact ret1 Yba.results9 rfl ⟨rfl, nq⟩
end Go.Proofs.Ybulkdire
