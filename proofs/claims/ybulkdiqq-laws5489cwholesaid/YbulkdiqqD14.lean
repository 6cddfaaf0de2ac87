/-
  D14: LawS5489CWhole: start, and the node it leaves.
-/
import Derived.Test.YbulkdiqqD13
namespace Go.Proofs.Ybulkdiqq
set_option linter.unusedSimpArgs false
set_option linter.unusedVariables false
set_option linter.unnecessarySimpa false
open Go Go.RowKit V
set_option maxRecDepth 100000

theorem UIn.low {h h' : Heap} {a : Option Addr} {n : Nat} {X : Nat → Int} (u : UIn h a n X) (k : Low h.size h h') : UIn h' a n X := u.map fun b o v hv => by rw [hc_congr (k.same b (lt_of_hc hv))]; exact hv
theorem PIn.low {h h' : Heap} {a : Option Addr} {n : Nat} {I P : Nat → Int} (u : PIn h a n I P) (k : Low h.size h h') : PIn h' a n I P := u.map fun b o v hv => by rw [hc_congr (k.same b (lt_of_hc hv))]; exact hv
theorem V.p_slneq {P : Program} {l : Env} {h : Heap} {ty : TypeId} {x y : Operand} {t t2 e : TypeId} {a : Option Addr} {n c : Nat} (hx : ev l x = some (.slice a n c)) (hy : ev l y = some (.slice none 0 0)) (hu : P.underlying t = some (.slice e)) :
    Pur P (.binOp .neq t x y t2) ty l h (.bool (!a.isNone)) := by
  refine ⟨fun ρ w d p af g hρ hw => ?_⟩
  have he : (Op.equal t (.slice a n c) (.slice none 0 0)).run P w = .ok a.isNone w := run_equal fun d => by
    cases a <;> simp [Op.equalIn, run_underlying hu]
  simp [execOp, hρ _ _ hx, hρ _ _ hy, eqGuard, binOp, he]

abbrev env1 (a2 a3 a4 : Option Addr) (n2 n3 n4 c2 c3 c4 : Nat) (id per miss now sq lead p : Int) (pb epb nmb enb wb ewb og n rb bb cfb : Nat) : Env :=
  (7, .int .i64 miss) :: (11, .int .i64 lead) :: (29, .int .u64 p) :: (45, .pointer (some ⟨cfb, 0, none⟩)) :: (47, .pointer (some ⟨bb, 0, none⟩)) :: env2 a2 a3 a4 n2 n3 n4 c2 c3 c4 id per now sq pb epb nmb enb wb ewb og n rb

/-- What stands ahead of start. -/
structure Pre (h0 q : Heap) (id per miss hor now sq lead p : Int) (pb epb nmb enb wb ewb og g n rb bb cfb nb : Nat) (Lp Ln Lw : ML) (f : Nat → Dlv) : Prop where
  low : Low h0.size h0 q
  b0 : hc q bb 0 = some (.pointer (some ⟨rb, 0, none⟩))
  b1 : hc q bb 1 = some (.int .i64 per)
  b2 : hc q bb 2 = some (.int .i64 miss)
  b3 : hc q bb 3 = some (.int .i64 hor)
  b4 : hc q bb 4 = some (.map (some nmb))
  bb : Blk q bb 5 107
  cfg : q[cfb]? = some (.cells [.int .i64 per, .int .i64 miss, .int .i64 hor].toArray 84 (0, 0))
  run : RunAt q rb pb nb wb sq lead now g n n
  wakes : DRow q g n n f
  old : DRow q og n n f
  mP : MapAt keyU q pb Lp
  mP' : MapAt keyU q epb Lp
  mN : MapAt keyU q nmb Ln
  mN' : MapAt keyU q enb (putM Ln id (.pointer none))
  mW : MapAt keyU q wb Lw
  mW' : MapAt keyU q ewb Lw
  low2 : h0.size ≤ rb ∧ h0.size ≤ wb ∧ h0.size ≤ g ∧ h0.size ≤ nmb ∧ h0.size ≤ ewb
  ne : wb ≠ nmb ∧ pb ≠ wb ∧ pb ≠ nmb ∧ epb ≠ wb ∧ epb ≠ nmb ∧ enb ≠ wb ∧ enb ≠ nmb ∧ ewb ≠ wb ∧ ewb ≠ nmb ∧ og ≠ g
  vP : Nums Lp
  vN : Ptrs Ln
  vW : Nums Lw
  hp : prio Lp id = .int .u64 p
  lenP : Lp.length ≤ 1048576
  srt : ∀ i j, i < j → j < n → lt (f j) (f i) = false
  hn : n ≤ 65536

set_option maxHeartbeats 16000000 in
theorem lawT1 {h0 q : Heap} {a2 a3 a4 : Option Addr} {n2 n3 n4 c2 c3 c4 : Nat} {id per miss hor now sq lead p : Int} {pb epb nmb enb wb ewb og g n rb bb cfb nb : Nat} {I P X Y : Nat → Int} {Lp Ln Lw : ML} {f : Nat → Dlv} {w0 : World}
    (ip : PIn h0 a2 n2 I P) (ie : UIn h0 a3 n3 X) (is : UIn h0 a4 n4 Y) (hb2 : n2 ≤ 65536) (hb3 : n3 ≤ 65536) (hb4 : n4 ≤ 65536) (pre : Pre h0 q id per miss hor now sq lead p pb epb nmb enb wb ewb og g n rb bb cfb nb Lp Ln Lw f) :
    V.Fin 531 w0 (CW Yba.prog (V.sub (Yba.f4.body.getD .skip) [1, 1, 1, 1, 1, 1, 1, 1, 1, 1, 1, 1, 1, 1, 1, 1, 1, 1, 1, 1, 1, 1, 1, 1, 1]) (bodyPost Yba.prog Yba.f4 (PostR w0 (fun u h' => u = .bool true ∧ Low h0.size h0 h')))) (env1 a2 a3 a4 n2 n3 n4 c2 c3 c4 id per miss now sq lead p pb epb nmb enb wb ewb og n rb bb cfb) q := by
  obtain ⟨l1, l2, l3, l4, l5⟩ := pre.low2
  obtain ⟨e1, e2, e3, e4, e5, e6, e7, e8, e9, e10⟩ := pre.ne
  refine c_mid (env1 a2 a3 a4 n2 n3 n4 c2 c3 c4 id per miss now sq lead p pb epb nmb enb wb ewb og n rb bb cfb) (fun y => StartRes q h0.size rb pb nb wb nmb sq lead now p per miss id g n f Lw Ln y) ?_ ?_
  · repeat (first | refine c_seq ?_ | refine c_region ?_ | refine c_block ?_ | refine c_skip ?_ | refine c_exit ?_ | refine c_ret ?_ | refine n_then ?_ | refine n_block ?_ | refine x_then ?_ | refine x_block_eq ?_ | refine x_block_ne rfl ?_ | refine r_then ?_ | refine r_block ?_ | refine s_nil ?_ | refine c_true rfl ?_ | refine c_false rfl ?_ | refine s_pur (p_move rfl) rfl ?_ | refine s_pur (p_assign rfl) rfl ?_ | refine s_pur (p_nil rfl) rfl ?_ | refine s_pur (p_pick_t rfl rfl) rfl ?_ | refine s_pur (p_pick_f rfl rfl) rfl ?_)
    refine s_call Yba.call15 rfl rfl (start_ok q h0.size bb rb pb nb wb nmb sq lead now p per miss hor id g n f Lp Lw Ln pre.b0 pre.b1 pre.b2 pre.b3 pre.b4 pre.run pre.wakes pre.mP pre.mW pre.mN e1 pre.hp pre.hn l3) ?_
    rintro _ y ⟨rfl, hy⟩
    repeat (first | refine c_seq ?_ | refine c_region ?_ | refine c_block ?_ | refine c_skip ?_ | refine c_exit ?_ | refine c_ret ?_ | refine n_then ?_ | refine n_block ?_ | refine x_then ?_ | refine x_block_eq ?_ | refine x_block_ne rfl ?_ | refine r_then ?_ | refine r_block ?_ | refine s_nil ?_ | refine c_true rfl ?_ | refine c_false rfl ?_ | refine s_pur (p_move rfl) rfl ?_ | refine s_pur (p_assign rfl) rfl ?_ | refine s_pur (p_nil rfl) rfl ?_ | refine s_pur (p_pick_t rfl rfl) rfl ?_ | refine s_pur (p_pick_f rfl rfl) rfl ?_)
    exact m_done hy (by repeat (first | exact Sub.nil | refine Sub.cons rfl ?_))
  rintro y ⟨sy, oy, ⟨nd, hnd, hnode, mNy⟩, hcase⟩
  -- what has stood
  have lowy : Low h0.size h0 y := pre.low.trans ⟨sy, fun k hk => oy k (by have := pre.low.size; omega) (by omega) (by omega) (by omega) (by omega)⟩
  have keepM : ∀ {b : Nat} {L : ML}, MapAt keyU q b L → b ≠ wb → b ≠ nmb → MapAt keyU y b L := fun {b L} m h1 h2 => m.keep (oy b m.lt (pre.run.blk.map_ne m) h1 (pre.wakes.blk.map_ne m) h2)
  have keepB : ∀ {b k : Nat} {e : TypeId}, Blk q b k e → e ≠ 104 → e ≠ 80 → y[b]? = q[b]? := fun {b k e} bk h1 h2 => oy b bk.lt (bk.ne pre.run.blk h1) (bk.map_ne pre.mW).symm (bk.ne pre.wakes.blk h2) (bk.map_ne pre.mN).symm
  have ybb := keepB pre.bb (by decide) (by decide)
  have ycf := keepB (b := cfb) (k := 3) (e := 84) ⟨_, pre.cfg, rfl⟩ (by decide) (by decide)
  have yold : DRow y og n n f := pre.old.keep (oy og pre.old.lt (pre.old.blk.ne pre.run.blk (by decide)) (pre.old.blk.map_ne pre.mW).symm e10 (pre.old.blk.map_ne pre.mN).symm)
  have mPy := keepM pre.mP e2 e3
  have mPy' := keepM pre.mP' e4 e5
  have mNy' := keepM pre.mN' e6 e7
  have mEy := keepM pre.mW' e8 e9
  -- the run behind the call
  obtain ⟨sq', g', N, m, LW, ry, hcase2, mWy, wky⟩ : ∃ sq' g' N m LW, RunAt y rb pb nb wb sq' lead now g' N m ∧ ((per ≤ 0 ∧ LW = Lw ∧ sq' = sq) ∨ (0 < per ∧ LW = putM Lw id (.int .u64 (IntKind.u64.wrap (sq + 1))) ∧ sq' = IntKind.u64.wrap (sq + 1))) ∧ MapAt keyU y wb LW ∧ WakesOk y rb n per f (IntKind.i64.wrap (now + per), IntKind.u64.wrap (sq + 1), id) := by
    rcases hcase with ⟨hp, r, d, mm⟩ | ⟨hp, g', m, r, _, _, d, mm⟩
    · exact ⟨sq, g, n, n, Lw, r, .inl ⟨hp, rfl, rfl⟩, mm, .inl ⟨hp, g, r.c5, d⟩⟩
    · exact ⟨_, g', n + 1, m, _, r, .inr ⟨hp, rfl, rfl⟩, mm, .inr ⟨hp, g', m, r.c5, d⟩⟩
  have c0y : hc y bb (0 + 0) = some (.pointer (some ⟨rb, 0, none⟩)) := by rw [hc_congr ybb]; exact pre.b0
  have lcfg1 : ∀ j, j < 3 → hc y bb (0 + 1 + j) = ([.int .i64 per, .int .i64 miss, .int .i64 hor] : List Value)[j]? := fun j hj => by
    rw [hc_congr ybb]
    rcases (by omega : j = 0 ∨ j = 1 ∨ j = 2) with rfl | rfl | rfl
    · exact pre.b1
    · exact pre.b2
    · exact pre.b3
  have ycf' : y[cfb]? = some (.cells [.int .i64 per, .int .i64 miss, .int .i64 hor].toArray 84 (0, 0)) := by rw [ycf]; exact pre.cfg
  have lcfg2 : ∀ j, j < 3 → hc y cfb (0 + j) = ([.int .i64 per, .int .i64 miss, .int .i64 hor] : List Value)[j]? := fun j hj => by rw [hc_of ycf', Nat.zero_add]; simp
  refine c_mid (env1 a2 a3 a4 n2 n3 n4 c2 c3 c4 id per miss now sq lead p pb epb nmb enb wb ewb og n rb bb cfb) (fun z => y = z) ?_ ?_
  · refine c_seq ?_
    refine c_quiet followsM (by kernel_rfl) ?_
    intro w1 hw1
    repeat (first | refine q_nil hw1 ?_ | refine c_seq ?_ | refine c_region ?_ | refine c_block ?_ | refine c_skip ?_ | refine c_exit ?_ | refine c_ret ?_ | refine n_then ?_ | refine n_block ?_ | refine x_then ?_ | refine x_block_eq ?_ | refine x_block_ne rfl ?_ | refine r_then ?_ | refine r_block ?_ | refine s_nil ?_ | refine c_true rfl ?_ | refine c_false rfl ?_ | refine q_pur hw1 (p_move rfl) rfl ?_ | refine q_pur hw1 (p_assign rfl) rfl ?_ | refine q_pur hw1 (p_nil rfl) rfl ?_ | refine q_pur hw1 (p_pick_t rfl rfl) rfl ?_ | refine q_pur hw1 (p_pick_f rfl rfl) rfl ?_ | refine q_pur hw1 (p_fld (off := 0) rfl Yba.underlying107 rfl Yba.sizeOf85 rfl) rfl ?_ | refine q_pur hw1 (p_fld (off := 1) rfl Yba.underlying107 rfl Yba.sizeOf84 rfl) rfl ?_ | refine q_pur hw1 (p_load rfl Yba.isAgg85 (by assumption)) rfl ?_ | refine q_pur hw1 (p_pneqF rfl rfl Yba.underlying85 Yba.sizeOf104) rfl ?_ | refine q_pur hw1 (p_loadA (vs := [.int .i64 per, .int .i64 miss, .int .i64 hor]) rfl Yba.isAgg84 Yba.sizeOf84 rfl lcfg1) rfl ?_ | refine q_pur hw1 (p_loadA (vs := [.int .i64 per, .int .i64 miss, .int .i64 hor]) rfl Yba.isAgg84 Yba.sizeOf84 rfl lcfg2) rfl ?_ | refine q_pur hw1 (p_neq84 rfl rfl) rfl ?_ | refine q_skip rfl rfl rfl ?_ | refine q_skip' rfl rfl rfl ?_ | refine q_pur_g hw1 rfl (p_move rfl) rfl ?_ | refine q_pur_g hw1 rfl (p_assign rfl) rfl ?_ | refine q_pur_g hw1 rfl (p_nil rfl) rfl ?_ | refine q_pur_g hw1 rfl (p_pick_t rfl rfl) rfl ?_ | refine q_pur_g hw1 rfl (p_pick_f rfl rfl) rfl ?_ | refine q_pur_g hw1 rfl (p_fld (off := 0) rfl Yba.underlying107 rfl Yba.sizeOf85 rfl) rfl ?_ | refine q_pur_g hw1 rfl (p_fld (off := 1) rfl Yba.underlying107 rfl Yba.sizeOf84 rfl) rfl ?_ | refine q_pur_g hw1 rfl (p_load rfl Yba.isAgg85 (by assumption)) rfl ?_ | refine q_pur_g hw1 rfl (p_pneqF rfl rfl Yba.underlying85 Yba.sizeOf104) rfl ?_ | refine q_pur_g hw1 rfl (p_loadA (vs := [.int .i64 per, .int .i64 miss, .int .i64 hor]) rfl Yba.isAgg84 Yba.sizeOf84 rfl lcfg1) rfl ?_ | refine q_pur_g hw1 rfl (p_loadA (vs := [.int .i64 per, .int .i64 miss, .int .i64 hor]) rfl Yba.isAgg84 Yba.sizeOf84 rfl lcfg2) rfl ?_ | refine q_pur_g hw1 rfl (p_neq84 rfl rfl) rfl ?_)
    exact m_done rfl (by repeat (first | exact Sub.nil | refine Sub.cons rfl ?_))
  rintro _ rfl
  have r4 : hc y rb (0 + 4) = some (.pointer (some ⟨nb, 0, none⟩)) := ry.c4
  have r14 : hc y rb (0 + 9 + 5) = some (.int .i64 lead) := ry.c14
  have n8 : hc y nb (0 + 8) = some (.int .i64 now) := ry.now
  have n9 : hc y nb (0 + 9) = some (.int .i64 0) := ry.msg
  refine c_mid (env1 a2 a3 a4 n2 n3 n4 c2 c3 c4 id per miss now sq lead p pb epb nmb enb wb ewb og n rb bb cfb) (fun z => y = z) ?_ ?_
  · repeat (first | refine c_seq ?_ | refine c_region ?_ | refine c_block ?_ | refine c_skip ?_ | refine c_exit ?_ | refine c_ret ?_ | refine n_then ?_ | refine n_block ?_ | refine x_then ?_ | refine x_block_eq ?_ | refine x_block_ne rfl ?_ | refine r_then ?_ | refine r_block ?_ | refine s_nil ?_ | refine c_true rfl ?_ | refine c_false rfl ?_ | refine s_pur (p_move rfl) rfl ?_ | refine s_pur (p_assign rfl) rfl ?_ | refine s_pur (p_nil rfl) rfl ?_ | refine s_pur (p_pick_t rfl rfl) rfl ?_ | refine s_pur (p_pick_f rfl rfl) rfl ?_ | refine s_pur (p_fld (off := 4) rfl Yba.underlying104 rfl Yba.sizeOf86 rfl) rfl ?_ | refine s_pur (p_fld (off := 8) rfl Yba.underlying91 rfl Yba.sizeOf2 rfl) rfl ?_ | refine s_pur (p_fld (off := 9) rfl Yba.underlying91 rfl Yba.sizeOf3 rfl) rfl ?_ | refine s_pur (p_fld (off := 9) rfl Yba.underlying104 rfl Yba.sizeOf99 rfl) rfl ?_ | refine s_pur (p_fld (off := 5) rfl Yba.underlying99 rfl Yba.sizeOf2 rfl) rfl ?_ | refine s_pur (p_load rfl Yba.isAgg86 (by assumption)) rfl ?_ | refine s_pur (p_load rfl Yba.isAgg2 (by assumption)) rfl ?_ | refine s_pur (p_load rfl Yba.isAgg3 (by assumption)) rfl ?_ | refine s_pur (p_neqF rfl rfl rfl) rfl ?_ | refine s_skip rfl rfl rfl ?_ | refine s_skip' rfl rfl rfl ?_ | refine s_pur_g rfl (p_move rfl) rfl ?_ | refine s_pur_g rfl (p_assign rfl) rfl ?_ | refine s_pur_g rfl (p_nil rfl) rfl ?_ | refine s_pur_g rfl (p_pick_t rfl rfl) rfl ?_ | refine s_pur_g rfl (p_pick_f rfl rfl) rfl ?_ | refine s_pur_g rfl (p_fld (off := 4) rfl Yba.underlying104 rfl Yba.sizeOf86 rfl) rfl ?_ | refine s_pur_g rfl (p_fld (off := 8) rfl Yba.underlying91 rfl Yba.sizeOf2 rfl) rfl ?_ | refine s_pur_g rfl (p_fld (off := 9) rfl Yba.underlying91 rfl Yba.sizeOf3 rfl) rfl ?_ | refine s_pur_g rfl (p_fld (off := 9) rfl Yba.underlying104 rfl Yba.sizeOf99 rfl) rfl ?_ | refine s_pur_g rfl (p_fld (off := 5) rfl Yba.underlying99 rfl Yba.sizeOf2 rfl) rfl ?_ | refine s_pur_g rfl (p_load rfl Yba.isAgg86 (by assumption)) rfl ?_ | refine s_pur_g rfl (p_load rfl Yba.isAgg2 (by assumption)) rfl ?_ | refine s_pur_g rfl (p_load rfl Yba.isAgg3 (by assumption)) rfl ?_ | refine s_pur_g rfl (p_neqF rfl rfl rfl) rfl ?_)
    exact m_done rfl (by repeat (first | exact Sub.nil | refine Sub.cons rfl ?_))
  rintro _ rfl
  have hget : (getM (putM Ln id (.pointer (some ⟨nd, 0, none⟩))) id).getD (.pointer none) = .pointer (some ⟨nd, 0, none⟩) := by rw [get_put, if_pos rfl]; rfl
  refine c_mid ((48, .pointer (some ⟨nd, 0, none⟩)) :: env1 a2 a3 a4 n2 n3 n4 c2 c3 c4 id per miss now sq lead p pb epb nmb enb wb ewb og n rb bb cfb) (fun z => y = z) ?_ ?_
  · repeat (first | refine c_seq ?_ | refine c_region ?_ | refine c_block ?_ | refine c_skip ?_ | refine c_exit ?_ | refine c_ret ?_ | refine n_then ?_ | refine n_block ?_ | refine x_then ?_ | refine x_block_eq ?_ | refine x_block_ne rfl ?_ | refine r_then ?_ | refine r_block ?_ | refine s_nil ?_ | refine c_true rfl ?_ | refine c_false rfl ?_ | refine s_pur (p_move rfl) rfl ?_ | refine s_pur (p_assign rfl) rfl ?_ | refine s_pur (p_nil rfl) rfl ?_ | refine s_pur (p_pick_t rfl rfl) rfl ?_ | refine s_pur (p_pick_f rfl rfl) rfl ?_ | refine s_pur (p_lookup' keyEnc50 (key := id) rfl rfl Yba.underlying58 Yba.zeroValue60 mNy hget) rfl ?_)
    exact m_done rfl (by repeat (first | exact Sub.nil | refine Sub.cons rfl ?_))
  rintro _ rfl
  refine c_mid ((48, .pointer (some ⟨nd, 0, none⟩)) :: env1 a2 a3 a4 n2 n3 n4 c2 c3 c4 id per miss now sq lead p pb epb nmb enb wb ewb og n rb bb cfb) (fun z => y = z) ?_ ?_
  · repeat (first | refine c_seq ?_ | refine c_region ?_ | refine c_block ?_ | refine c_skip ?_ | refine c_exit ?_ | refine c_ret ?_ | refine n_then ?_ | refine n_block ?_ | refine x_then ?_ | refine x_block_eq ?_ | refine x_block_ne rfl ?_ | refine r_then ?_ | refine r_block ?_ | refine s_nil ?_ | refine c_true rfl ?_ | refine c_false rfl ?_ | refine s_pur (p_move rfl) rfl ?_ | refine s_pur (p_assign rfl) rfl ?_ | refine s_pur (p_nil rfl) rfl ?_ | refine s_pur (p_pick_t rfl rfl) rfl ?_ | refine s_pur (p_pick_f rfl rfl) rfl ?_ | refine s_pur (p_pnil rfl rfl Yba.underlying60) rfl ?_)
    exact m_done rfl (by repeat (first | exact Sub.nil | refine Sub.cons rfl ?_))
  rintro _ rfl
  refine c_mid ((48, .pointer (some ⟨nd, 0, none⟩)) :: (49, .pointer (some ⟨y.size, 0, none⟩)) :: env1 a2 a3 a4 n2 n3 n4 c2 c3 c4 id per miss now sq lead p pb epb nmb enb wb ewb og n rb bb cfb) (fun z => Kp y z ∧ z[y.size]? = some (.cells [.int .u64 p, .int .u64 id].toArray 62 (0, 0))) ?_ ?_
  · repeat (first | refine c_seq ?_ | refine c_region ?_ | refine c_block ?_ | refine c_skip ?_ | refine c_exit ?_ | refine c_ret ?_ | refine n_then ?_ | refine n_block ?_ | refine x_then ?_ | refine x_block_eq ?_ | refine x_block_ne rfl ?_ | refine r_then ?_ | refine r_block ?_ | refine s_nil ?_ | refine c_true rfl ?_ | refine c_false rfl ?_ | refine s_pur (p_move rfl) rfl ?_ | refine s_pur (p_assign rfl) rfl ?_ | refine s_pur (p_nil rfl) rfl ?_ | refine s_pur (p_pick_t rfl rfl) rfl ?_ | refine s_pur (p_pick_f rfl rfl) rfl ?_ | refine s_pur (p_build62 rfl rfl) rfl ?_)
    refine s_eff (e_alloc Yba.zeroValue62) rfl ?_
    rintro _ z ⟨rfl, nz⟩
    refine s_eff0 (e_storeAll (vs := [.int .u64 p, .int .u64 id]) rfl rfl Yba.sizeOf62 rfl nz.at_ rfl (by simp [Value.oneCell'])) ?_
    intro _ z2 uz
    repeat (first | refine c_seq ?_ | refine c_region ?_ | refine c_block ?_ | refine c_skip ?_ | refine c_exit ?_ | refine c_ret ?_ | refine n_then ?_ | refine n_block ?_ | refine x_then ?_ | refine x_block_eq ?_ | refine x_block_ne rfl ?_ | refine r_then ?_ | refine r_block ?_ | refine s_nil ?_ | refine c_true rfl ?_ | refine c_false rfl ?_ | refine s_pur (p_move rfl) rfl ?_ | refine s_pur (p_assign rfl) rfl ?_ | refine s_pur (p_nil rfl) rfl ?_ | refine s_pur (p_pick_t rfl rfl) rfl ?_ | refine s_pur (p_pick_f rfl rfl) rfl ?_)
    exact m_done ⟨⟨by rw [uz.size]; have := nz.size; omega, fun k hk => by rw [uz.other k (by omega), nz.other k hk]⟩, uz.at_⟩ (by repeat (first | exact Sub.nil | refine Sub.cons rfl ?_))
  rintro z ⟨kz, hself⟩
  have hnz := kz.get hnode
  have s62 : ∀ j, j < 2 → hc z y.size (0 + j) = ([.int .u64 p, .int .u64 id] : List Value)[j]? := fun j hj => by rw [hc_of hself, Nat.zero_add]; simp
  have n62 : ∀ j, j < 2 → hc z nd (0 + 0 + j) = ([.int .u64 p, .int .u64 id] : List Value)[j]? := fun j hj => by
    rw [hc_of hnz]
    rcases (by omega : j = 0 ∨ j = 1) with rfl | rfl <;> rfl
  have n64 : ∀ j, j < 3 → hc z nd (0 + 2 + j) = ([.int .u64 p, .int .u64 id, .int .u64 1] : List Value)[j]? := fun j hj => by
    rw [hc_of hnz]
    rcases (by omega : j = 0 ∨ j = 1 ∨ j = 2) with rfl | rfl | rfl <;> rfl
  have n5 : hc z nd (0 + 5) = some (.int .u64 1) := by rw [hc_of hnz]; rfl
  have n6 : hc z nd (0 + 6) = some (.int .i64 per) := by rw [hc_of hnz]; rfl
  have n7 : hc z nd (0 + 7) = some (.int .i64 (IntKind.i64.wrap (miss * per))) := by rw [hc_of hnz]; rfl
  have n8' : hc z nd (0 + 8) = some (.slice none 0 0) := by rw [hc_of hnz]; rfl
  have n9' : hc z nd (0 + 9) = some (.slice none 0 0) := by rw [hc_of hnz]; rfl
  refine c_mid ((48, .pointer (some ⟨nd, 0, none⟩)) :: env1 a2 a3 a4 n2 n3 n4 c2 c3 c4 id per miss now sq lead p pb epb nmb enb wb ewb og n rb bb cfb) (fun u => z = u) ?_ ?_
  · refine c_seq ?_
    refine c_quiet followsM (by kernel_rfl) ?_
    intro w1 hw1
    repeat (first | refine q_nil hw1 ?_ | refine c_seq ?_ | refine c_region ?_ | refine c_block ?_ | refine c_skip ?_ | refine c_exit ?_ | refine c_ret ?_ | refine n_then ?_ | refine n_block ?_ | refine x_then ?_ | refine x_block_eq ?_ | refine x_block_ne rfl ?_ | refine r_then ?_ | refine r_block ?_ | refine s_nil ?_ | refine c_true rfl ?_ | refine c_false rfl ?_ | refine q_pur hw1 (p_move rfl) rfl ?_ | refine q_pur hw1 (p_assign rfl) rfl ?_ | refine q_pur hw1 (p_nil rfl) rfl ?_ | refine q_pur hw1 (p_pick_t rfl rfl) rfl ?_ | refine q_pur hw1 (p_pick_f rfl rfl) rfl ?_ | refine q_pur hw1 (p_fld (off := 0) rfl Yba.underlying66 rfl Yba.sizeOf62 rfl) rfl ?_ | refine q_pur hw1 (p_fld (off := 2) rfl Yba.underlying66 rfl Yba.sizeOf64 rfl) rfl ?_ | refine q_pur hw1 (p_fld (off := 5) rfl Yba.underlying66 rfl Yba.sizeOf50 rfl) rfl ?_ | refine q_pur hw1 (p_load rfl Yba.isAgg50 (by assumption)) rfl ?_ | refine q_pur hw1 (p_loadA (vs := [.int .u64 p, .int .u64 id]) rfl Yba.isAgg62 Yba.sizeOf62 rfl n62) rfl ?_ | refine q_pur hw1 (p_loadA (vs := [.int .u64 p, .int .u64 id]) rfl Yba.isAgg62 Yba.sizeOf62 rfl s62) rfl ?_ | refine q_pur hw1 (p_neq62 rfl rfl) rfl ?_ | refine q_pur hw1 (p_loadA (vs := [.int .u64 p, .int .u64 id, .int .u64 1]) rfl Yba.isAgg64 Yba.sizeOf64 rfl n64) rfl ?_ | refine q_pur hw1 (p_build64 rfl rfl) rfl ?_ | refine q_pur hw1 (p_neq64 rfl rfl) rfl ?_ | refine q_pur hw1 (p_neqF rfl rfl rfl) rfl ?_ | refine q_skip rfl rfl rfl ?_ | refine q_skip' rfl rfl rfl ?_ | refine q_pur_g hw1 rfl (p_move rfl) rfl ?_ | refine q_pur_g hw1 rfl (p_assign rfl) rfl ?_ | refine q_pur_g hw1 rfl (p_nil rfl) rfl ?_ | refine q_pur_g hw1 rfl (p_pick_t rfl rfl) rfl ?_ | refine q_pur_g hw1 rfl (p_pick_f rfl rfl) rfl ?_ | refine q_pur_g hw1 rfl (p_fld (off := 0) rfl Yba.underlying66 rfl Yba.sizeOf62 rfl) rfl ?_ | refine q_pur_g hw1 rfl (p_fld (off := 2) rfl Yba.underlying66 rfl Yba.sizeOf64 rfl) rfl ?_ | refine q_pur_g hw1 rfl (p_fld (off := 5) rfl Yba.underlying66 rfl Yba.sizeOf50 rfl) rfl ?_ | refine q_pur_g hw1 rfl (p_load rfl Yba.isAgg50 (by assumption)) rfl ?_ | refine q_pur_g hw1 rfl (p_loadA (vs := [.int .u64 p, .int .u64 id]) rfl Yba.isAgg62 Yba.sizeOf62 rfl n62) rfl ?_ | refine q_pur_g hw1 rfl (p_loadA (vs := [.int .u64 p, .int .u64 id]) rfl Yba.isAgg62 Yba.sizeOf62 rfl s62) rfl ?_ | refine q_pur_g hw1 rfl (p_neq62 rfl rfl) rfl ?_ | refine q_pur_g hw1 rfl (p_loadA (vs := [.int .u64 p, .int .u64 id, .int .u64 1]) rfl Yba.isAgg64 Yba.sizeOf64 rfl n64) rfl ?_ | refine q_pur_g hw1 rfl (p_build64 rfl rfl) rfl ?_ | refine q_pur_g hw1 rfl (p_neq64 rfl rfl) rfl ?_ | refine q_pur_g hw1 rfl (p_neqF rfl rfl rfl) rfl ?_)
    exact m_done rfl (by repeat (first | exact Sub.nil | refine Sub.cons rfl ?_))
  rintro _ rfl
  refine c_mid (env2 a2 a3 a4 n2 n3 n4 c2 c3 c4 id per now sq pb epb nmb enb wb ewb og n rb) (fun u => z = u) ?_ ?_
  · repeat (first | refine c_seq ?_ | refine c_region ?_ | refine c_block ?_ | refine c_skip ?_ | refine c_exit ?_ | refine c_ret ?_ | refine n_then ?_ | refine n_block ?_ | refine x_then ?_ | refine x_block_eq ?_ | refine x_block_ne rfl ?_ | refine r_then ?_ | refine r_block ?_ | refine s_nil ?_ | refine c_true rfl ?_ | refine c_false rfl ?_ | refine s_pur (p_move rfl) rfl ?_ | refine s_pur (p_assign rfl) rfl ?_ | refine s_pur (p_nil rfl) rfl ?_ | refine s_pur (p_pick_t rfl rfl) rfl ?_ | refine s_pur (p_pick_f rfl rfl) rfl ?_ | refine s_pur (p_fld (off := 6) rfl Yba.underlying66 rfl Yba.sizeOf2 rfl) rfl ?_ | refine s_pur (p_fld (off := 7) rfl Yba.underlying66 rfl Yba.sizeOf2 rfl) rfl ?_ | refine s_pur (p_fld (off := 8) rfl Yba.underlying66 rfl Yba.sizeOf52 rfl) rfl ?_ | refine s_pur (p_fld (off := 9) rfl Yba.underlying66 rfl Yba.sizeOf52 rfl) rfl ?_ | refine s_pur (p_load rfl Yba.isAgg2 (by assumption)) rfl ?_ | refine s_pur (p_load rfl Yba.isAgg52 (by assumption)) rfl ?_ | refine s_pur (p_mulW rfl rfl) rfl ?_ | refine s_pur (p_neqF rfl rfl rfl) rfl ?_ | refine s_pur (V.p_slneq rfl rfl Yba.underlying52) rfl ?_ | refine s_skip rfl rfl rfl ?_ | refine s_skip' rfl rfl rfl ?_ | refine s_pur_g rfl (p_move rfl) rfl ?_ | refine s_pur_g rfl (p_assign rfl) rfl ?_ | refine s_pur_g rfl (p_nil rfl) rfl ?_ | refine s_pur_g rfl (p_pick_t rfl rfl) rfl ?_ | refine s_pur_g rfl (p_pick_f rfl rfl) rfl ?_ | refine s_pur_g rfl (p_fld (off := 6) rfl Yba.underlying66 rfl Yba.sizeOf2 rfl) rfl ?_ | refine s_pur_g rfl (p_fld (off := 7) rfl Yba.underlying66 rfl Yba.sizeOf2 rfl) rfl ?_ | refine s_pur_g rfl (p_fld (off := 8) rfl Yba.underlying66 rfl Yba.sizeOf52 rfl) rfl ?_ | refine s_pur_g rfl (p_fld (off := 9) rfl Yba.underlying66 rfl Yba.sizeOf52 rfl) rfl ?_ | refine s_pur_g rfl (p_load rfl Yba.isAgg2 (by assumption)) rfl ?_ | refine s_pur_g rfl (p_load rfl Yba.isAgg52 (by assumption)) rfl ?_ | refine s_pur_g rfl (p_mulW rfl rfl) rfl ?_ | refine s_pur_g rfl (p_neqF rfl rfl rfl) rfl ?_ | refine s_pur_g rfl (V.p_slneq rfl rfl Yba.underlying52) rfl ?_)
    exact m_done rfl (by repeat (first | exact Sub.nil | refine Sub.cons rfl ?_))
  rintro _ rfl
  have lowz : Low h0.size h0 z := lowy.trans (kz.toLow (Nat.le_trans pre.low.size sy))
  refine lawT2 (ip.low lowz) (ie.low lowz) (is.low lowz) hb2 hb3 hb4 (mPy.kp kz) (mPy'.kp kz) pre.vP (mNy.kp kz) (mNy'.kp kz) pre.vN (mWy.kp kz) (mEy.kp kz) pre.vW pre.lenP (kz.cell ry.c7) hcase2 e8.symm (wky.kp kz) (yold.keep (kz.same og yold.lt)) pre.srt pre.hn ?_
  intro q' sq1 oq1
  exact ⟨rfl, lowz.trans ⟨sq1, fun k hk => oq1 k (by have := lowz.size; omega) (by omega)⟩⟩
end Go.Proofs.Ybulkdiqq
