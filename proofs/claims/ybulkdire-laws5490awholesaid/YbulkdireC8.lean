/-
  C8: table.NewCache.
-/
import Derived.Test.YbulkdireC7
namespace Go.Proofs.Ybulkdire
set_option linter.unusedSimpArgs false
set_option linter.unusedVariables false
set_option linter.unnecessarySimpa false
open Go Go.RowKit V
set_option maxRecDepth 100000

theorem p_max {P : Program} {l : Env} {h : Heap} {ty : TypeId} {x y : Operand} {t t2 : TypeId} {k k' : IntKind} {a b c : Int} (hx : ev l x = some (.int k a)) (hy : ev l y = some (.int k' b)) (hc : (if b > a then b else a) = c) :
    Pur P (.call { callee := .builtin .max, args := #[x, y], argTypes := #[t, t2] }) ty l h (.int k c) := by
  refine ⟨fun ρ w d p af g hρ hw => ?_⟩
  subst hc
  simp [execOp, resolve, invoke, builtin, Builtin.max_, Builtin.max2, hρ _ _ hx, hρ _ _ hy]
theorem p_min {P : Program} {l : Env} {h : Heap} {ty : TypeId} {x y : Operand} {t t2 : TypeId} {k k' : IntKind} {a b c : Int} (hx : ev l x = some (.int k a)) (hy : ev l y = some (.int k' b)) (hc : (if b < a then b else a) = c) :
    Pur P (.call { callee := .builtin .min, args := #[x, y], argTypes := #[t, t2] }) ty l h (.int k c) := by
  refine ⟨fun ρ w d p af g hρ hw => ?_⟩
  subst hc
  simp [execOp, resolve, invoke, builtin, Builtin.min_, Builtin.min2, hρ _ _ hx, hρ _ _ hy]
theorem p_quo {P : Program} {l : Env} {h : Heap} {ty : TypeId} {x y : Operand} {t t2 : TypeId} {a b c : Int} (hx : ev l x = some (.int .i64 a)) (hy : ev l y = some (.int .i64 b)) (h0 : ¬ b = 0) (hc : a.tdiv b = c) (h1 : -9223372036854775808 ≤ c) (h2 : c ≤ 9223372036854775807) :
    Pur P (.binOp .quo t x y t2) ty l h (.int .i64 c) := by
  refine ⟨fun ρ w d p af g hρ hw => ?_⟩
  subst hc
  simp [execOp, hρ _ _ hx, hρ _ _ hy, eqGuard, binOp, Op.intDiv, h0, wrap64_eq h1 h2]
theorem p_build58 {l : Env} {h : Heap} {ty : TypeId} {x : Operand} {s : Option Addr} {n c : Nat} (h0 : ev l x = some (.slice s n c)) :
    Pur Yba.prog (.build 58 #[(0, x)]) ty l h (.agg #[.slice s n c]) := by
  refine ⟨fun ρ w d p af g hρ hw => ?_⟩
  simp only [execOp, Instr.build, List.map_toArray, List.map_cons, List.map_nil, hρ _ _ h0]
  simp [Yba.zeroValue58, run_underlying Yba.underlying58, Array.mapM_eq_mapM_toList, List.mapM_cons, Yba.sizeOf56, Instr.fill, Value.cells]
theorem info54 : ∃ i, Yba.prog.info? 54 = some i ∧ i.zero = some (.agg #[.int .i32 0, .int .u32 0, .int .i64 0, .int .i64 0, .map none, .int .u64 0, .int .i64 0, .slice none 0 0, .pointer none, .pointer none]) ∧ i.size = 10 ∧ i.bytes = 88 := info_parts (by kernel_rfl)

set_option maxHeartbeats 8000000 in
theorem new_ok (h : Heap) (cap : Nat) (E : Nat → Ent) (hcap : cap < 1000) :
    CallsH Yba.prog 5 #[.int .i64 cap, .int .i64 1000] h (fun u h' => u = .pointer (some ⟨h.size + 1, 0, none⟩) ∧ Full h' h.size (h.size + 1) h.size (h.size + 2) cap 0 E ∧ Kp h h') := by
  refine calls_of (N := 60) [(0, .int .i64 cap), (1, .int .i64 1000)] Yba.func5 rfl rfl (by simp) (by repeat (first | exact ArgsAre.nil | refine ArgsAre.cons rfl ?_)) ?_
  intro w0 _
  have hq0 : (cap : Int).tdiv 8000 = 0 := by rw [Int.tdiv_eq_ediv_of_nonneg (by omega)]; omega
  have hq1 : (cap : Int).tdiv 1 = (cap : Int) := by simp
  obtain ⟨i54, hi54, hz54, hs54, hb54⟩ := info54
  refine c_seq ?_
  repeat (first | refine c_region ?_ | refine c_block ?_ | refine c_skip ?_ | refine c_exit ?_ | refine c_ret ?_ | refine n_then ?_ | refine n_block ?_ | refine x_then ?_ | refine x_block_eq ?_ | refine x_block_ne rfl ?_ | refine r_then ?_ | refine r_block ?_ | refine s_nil ?_ | refine c_true rfl ?_ | refine c_false rfl ?_ | refine s_pur (p_move rfl) rfl ?_ | refine s_pur (p_assign rfl) rfl ?_ | refine s_pur (p_nil rfl) rfl ?_ | refine s_pur (p_pick_t rfl rfl) rfl ?_ | refine s_pur (p_pick_f rfl rfl) rfl ?_)
  refine c_mid [(0, .int .i64 cap), (5, .int .i64 ((1 : Nat) : Int))] (fun q => h = q) ?_ ?_
  · repeat (first | refine c_seq ?_ | refine c_region ?_ | refine c_block ?_ | refine c_skip ?_ | refine c_exit ?_ | refine c_ret ?_ | refine n_then ?_ | refine n_block ?_ | refine x_then ?_ | refine x_block_eq ?_ | refine x_block_ne rfl ?_ | refine r_then ?_ | refine r_block ?_ | refine s_nil ?_ | refine c_true rfl ?_ | refine c_false rfl ?_ | refine s_pur (p_move rfl) rfl ?_ | refine s_pur (p_assign rfl) rfl ?_ | refine s_pur (p_nil rfl) rfl ?_ | refine s_pur (p_pick_t rfl rfl) rfl ?_ | refine s_pur (p_pick_f rfl rfl) rfl ?_ | refine s_pur (p_max (c := 1000) rfl rfl rfl) rfl ?_ | refine s_pur (p_mul (c := 8000) rfl rfl rfl (by omega) (by omega)) rfl ?_ | refine s_pur (p_quo rfl rfl (by decide) hq0 (by omega) (by omega)) rfl ?_ | refine s_pur (p_max (c := 1) rfl rfl rfl) rfl ?_ | refine s_pur (p_min (c := 1) rfl rfl rfl) rfl ?_)
    exact m_done rfl (by repeat (first | exact Sub.nil | refine Sub.cons rfl ?_))
  rintro _ rfl
  refine c_mid [(0, .int .i64 cap), (5, .int .i64 ((1 : Nat) : Int)), (6, .pointer (some ⟨h.size + 1, 0, none⟩))] (fun q => Kp h q ∧ q[h.size + 1]? = some (.cells #[.slice (some ⟨h.size, 0, none⟩) 1 1] 58 (0, 0)) ∧ q.size = h.size + 2 ∧ ∃ c, q[h.size]? = some (.cells c 54 (0, 0)) ∧ c.size = 10 ∧ c[0]? = some (.int .i32 0) ∧ c[3]? = some (.int .i64 0)) ?_ ?_
  · repeat (first | refine c_seq ?_ | refine c_region ?_ | refine c_block ?_ | refine c_skip ?_ | refine c_exit ?_ | refine c_ret ?_ | refine n_then ?_ | refine n_block ?_ | refine x_then ?_ | refine x_block_eq ?_ | refine x_block_ne rfl ?_ | refine r_then ?_ | refine r_block ?_ | refine s_nil ?_ | refine c_true rfl ?_ | refine c_false rfl ?_ | refine s_pur (p_move rfl) rfl ?_ | refine s_pur (p_assign rfl) rfl ?_ | refine s_pur (p_nil rfl) rfl ?_ | refine s_pur (p_pick_t rfl rfl) rfl ?_ | refine s_pur (p_pick_f rfl rfl) rfl ?_)
    refine s_eff (e_make (n := 1) (c := 1) rfl rfl Yba.underlying56 hi54 hz54 (Nat.le_refl _) (by rw [hb54]; omega) (by omega)) rfl ?_
    rintro _ q ⟨rfl, nq⟩
    repeat (first | refine c_seq ?_ | refine c_region ?_ | refine c_block ?_ | refine c_skip ?_ | refine c_exit ?_ | refine c_ret ?_ | refine n_then ?_ | refine n_block ?_ | refine x_then ?_ | refine x_block_eq ?_ | refine x_block_ne rfl ?_ | refine r_then ?_ | refine r_block ?_ | refine s_nil ?_ | refine c_true rfl ?_ | refine c_false rfl ?_ | refine s_pur (p_move rfl) rfl ?_ | refine s_pur (p_assign rfl) rfl ?_ | refine s_pur (p_nil rfl) rfl ?_ | refine s_pur (p_pick_t rfl rfl) rfl ?_ | refine s_pur (p_pick_f rfl rfl) rfl ?_ | refine s_pur (p_build58 rfl) rfl ?_)
    refine s_eff (e_box rfl) rfl ?_
    rintro _ q2 ⟨rfl, nq2⟩
    have e1 : Array.size q = Array.size h + 1 := nq.size
    rw [e1]
    have e2 := nq2.size
    have a2 := nq2.at_
    rw [e1] at a2
    repeat (first | refine c_seq ?_ | refine c_region ?_ | refine c_block ?_ | refine c_skip ?_ | refine c_exit ?_ | refine c_ret ?_ | refine n_then ?_ | refine n_block ?_ | refine x_then ?_ | refine x_block_eq ?_ | refine x_block_ne rfl ?_ | refine r_then ?_ | refine r_block ?_ | refine s_nil ?_ | refine c_true rfl ?_ | refine c_false rfl ?_ | refine s_pur (p_move rfl) rfl ?_ | refine s_pur (p_assign rfl) rfl ?_ | refine s_pur (p_nil rfl) rfl ?_ | refine s_pur (p_pick_t rfl rfl) rfl ?_ | refine s_pur (p_pick_f rfl rfl) rfl ?_)
    refine m_done ⟨(Kp.of nq).trans (Kp.of nq2), a2, by omega, _, by rw [nq2.other _ (by omega)]; exact nq.at_, by simp [madeCells, hs54], ?_, ?_⟩ (by repeat (first | exact Sub.nil | refine Sub.cons rfl ?_))
    · rw [madeCells_get _ _ _ (by rw [hs54]; omega)]; rfl
    · rw [madeCells_get _ _ _ (by rw [hs54]; omega)]; rfl
  rintro h2 ⟨kp2, hcb, sz2, cc, hsb, scc, cc0, cc3⟩
  have lcb : hc h2 (h.size + 1) (0 + 0) = some (.slice (some ⟨h.size, 0, none⟩) 1 1) := by rw [hc_of hcb]; rfl
  refine c_mid [(6, .pointer (some ⟨h.size + 1, 0, none⟩))] (fun q => Full q h.size (h.size + 1) h.size (h.size + 2) cap 0 E ∧ Kp h q) ?_ ?_
  · repeat (first | refine c_seq ?_ | refine c_region ?_ | refine c_block ?_ | refine c_skip ?_ | refine c_exit ?_ | refine c_ret ?_ | refine n_then ?_ | refine n_block ?_ | refine x_then ?_ | refine x_block_eq ?_ | refine x_block_ne rfl ?_ | refine r_then ?_ | refine r_block ?_ | refine s_nil ?_ | refine c_true rfl ?_ | refine c_false rfl ?_ | refine s_pur (p_move rfl) rfl ?_ | refine s_pur (p_assign rfl) rfl ?_ | refine s_pur (p_nil rfl) rfl ?_ | refine s_pur (p_pick_t rfl rfl) rfl ?_ | refine s_pur (p_pick_f rfl rfl) rfl ?_ | refine s_pur (p_fld (off := 0) rfl Yba.underlying58 rfl Yba.sizeOf56 rfl) rfl ?_ | refine s_pur (p_load rfl Yba.isAgg56 (by assumption)) rfl ?_ | refine s_pur (p_len rfl Yba.underlying56) rfl ?_ | refine s_pur (p_idx rfl rfl rfl (by omega) Yba.underlying56 Yba.sizeOf54) rfl ?_)
    refine c_loop (fun k : Nat => [(0, .int .i64 cap), (5, .int .i64 ((1 : Nat) : Int)), (6, .pointer (some ⟨h.size + 1, 0, none⟩)), (24, .int .i64 ((1 : Nat) : Int)), (25, .int .i64 (k : Int))])
      (fun k q => (k = 0 ∧ h2 = q) ∨ (k = 1 ∧ Full q h.size (h.size + 1) h.size (h.size + 2) cap 0 E ∧ Kp h q)) (fun k => 1 - k) 0 (.inl ⟨rfl, rfl⟩) (by repeat (first | exact Sub.nil | refine Sub.cons rfl ?_)) ?_
    rintro k q (⟨rfl, rfl⟩ | ⟨rfl, fq, kq⟩)
    · refine c_seq ?_
      repeat (first | refine c_region ?_ | refine c_block ?_ | refine c_skip ?_ | refine c_exit ?_ | refine c_ret ?_ | refine n_then ?_ | refine n_block ?_ | refine x_then ?_ | refine x_block_eq ?_ | refine x_block_ne rfl ?_ | refine r_then ?_ | refine r_block ?_ | refine s_nil ?_ | refine c_true rfl ?_ | refine c_false rfl ?_ | refine s_pur (p_move rfl) rfl ?_ | refine s_pur (p_assign rfl) rfl ?_ | refine s_pur (p_nil rfl) rfl ?_ | refine s_pur (p_pick_t rfl rfl) rfl ?_ | refine s_pur (p_pick_f rfl rfl) rfl ?_ | refine s_pur (p_lssT rfl rfl (by omega)) rfl ?_ | refine s_pur (p_lssF rfl rfl (by omega)) rfl ?_ | refine s_pur (p_leqT rfl rfl (by omega)) rfl ?_ | refine s_pur (p_leqF rfl rfl (by omega)) rfl ?_ | refine s_pur (p_gtrT rfl rfl (by omega)) rfl ?_ | refine s_pur (p_gtrF rfl rfl (by omega)) rfl ?_ | refine s_pur (p_geqT rfl rfl (by omega)) rfl ?_ | refine s_pur (p_geqF rfl rfl (by omega)) rfl ?_ | refine s_pur (p_eqlT rfl rfl (by omega)) rfl ?_ | refine s_pur (p_eqlF rfl rfl (by omega)) rfl ?_ | refine s_pur (p_neqT rfl rfl (by omega)) rfl ?_ | refine s_pur (p_neqF rfl rfl (by omega)) rfl ?_)
      refine c_seq ?_
      repeat (first | refine c_region ?_ | refine c_block ?_ | refine c_skip ?_ | refine c_exit ?_ | refine c_ret ?_ | refine n_then ?_ | refine n_block ?_ | refine x_then ?_ | refine x_block_eq ?_ | refine x_block_ne rfl ?_ | refine r_then ?_ | refine r_block ?_ | refine s_nil ?_ | refine c_true rfl ?_ | refine c_false rfl ?_ | refine s_pur (p_move rfl) rfl ?_ | refine s_pur (p_assign rfl) rfl ?_ | refine s_pur (p_nil rfl) rfl ?_ | refine s_pur (p_pick_t rfl rfl) rfl ?_ | refine s_pur (p_pick_f rfl rfl) rfl ?_ | refine s_pur (p_lssT rfl rfl (by omega)) rfl ?_ | refine s_pur (p_lssF rfl rfl (by omega)) rfl ?_ | refine s_pur (p_leqT rfl rfl (by omega)) rfl ?_ | refine s_pur (p_leqF rfl rfl (by omega)) rfl ?_ | refine s_pur (p_gtrT rfl rfl (by omega)) rfl ?_ | refine s_pur (p_gtrF rfl rfl (by omega)) rfl ?_ | refine s_pur (p_geqT rfl rfl (by omega)) rfl ?_ | refine s_pur (p_geqF rfl rfl (by omega)) rfl ?_ | refine s_pur (p_eqlT rfl rfl (by omega)) rfl ?_ | refine s_pur (p_eqlF rfl rfl (by omega)) rfl ?_ | refine s_pur (p_neqT rfl rfl (by omega)) rfl ?_ | refine s_pur (p_neqF rfl rfl (by omega)) rfl ?_)
      refine c_seq ?_
      refine c_block ?_
      refine c_mid [(0, .int .i64 cap), (5, .int .i64 ((1 : Nat) : Int)), (6, .pointer (some ⟨h.size + 1, 0, none⟩)), (24, .int .i64 ((1 : Nat) : Int)), (25, .int .i64 ((0 : Nat) : Int)), (7, .int .i64 ((0 : Nat) : Int))] (fun q => h2 = q) ?_ ?_
      · repeat (first | refine c_seq ?_ | refine c_region ?_ | refine c_block ?_ | refine c_skip ?_ | refine c_exit ?_ | refine c_ret ?_ | refine n_then ?_ | refine n_block ?_ | refine x_then ?_ | refine x_block_eq ?_ | refine x_block_ne rfl ?_ | refine r_then ?_ | refine r_block ?_ | refine s_nil ?_ | refine c_true rfl ?_ | refine c_false rfl ?_ | refine s_pur (p_move rfl) rfl ?_ | refine s_pur (p_assign rfl) rfl ?_ | refine s_pur (p_nil rfl) rfl ?_ | refine s_pur (p_pick_t rfl rfl) rfl ?_ | refine s_pur (p_pick_f rfl rfl) rfl ?_)
        exact m_done rfl (by repeat (first | exact Sub.nil | refine Sub.cons rfl ?_))
      rintro _ rfl
      refine c_mid [(0, .int .i64 cap), (5, .int .i64 ((1 : Nat) : Int)), (6, .pointer (some ⟨h.size + 1, 0, none⟩)), (24, .int .i64 ((1 : Nat) : Int)), (25, .int .i64 ((0 : Nat) : Int)), (8, .pointer (some ⟨h.size, 0, none⟩))] (fun q => h2 = q) ?_ ?_
      · repeat (first | refine c_seq ?_ | refine c_region ?_ | refine c_block ?_ | refine c_skip ?_ | refine c_exit ?_ | refine c_ret ?_ | refine n_then ?_ | refine n_block ?_ | refine x_then ?_ | refine x_block_eq ?_ | refine x_block_ne rfl ?_ | refine r_then ?_ | refine r_block ?_ | refine s_nil ?_ | refine c_true rfl ?_ | refine c_false rfl ?_ | refine s_pur (p_move rfl) rfl ?_ | refine s_pur (p_assign rfl) rfl ?_ | refine s_pur (p_nil rfl) rfl ?_ | refine s_pur (p_pick_t rfl rfl) rfl ?_ | refine s_pur (p_pick_f rfl rfl) rfl ?_ | refine s_pur (p_fld (off := 0) rfl Yba.underlying58 rfl Yba.sizeOf56 rfl) rfl ?_ | refine s_pur (p_load rfl Yba.isAgg56 (by assumption)) rfl ?_ | refine s_pur (p_len rfl Yba.underlying56) rfl ?_ | refine s_pur (p_idx rfl rfl rfl (by omega) Yba.underlying56 Yba.sizeOf54) rfl ?_)
        exact m_done rfl (by repeat (first | exact Sub.nil | refine Sub.cons rfl ?_))
      rintro _ rfl
      have bs : Blk h2 h.size 10 54 := ⟨cc, hsb, scc⟩
      refine c_mid [(0, .int .i64 cap), (5, .int .i64 ((1 : Nat) : Int)), (6, .pointer (some ⟨h.size + 1, 0, none⟩)), (24, .int .i64 ((1 : Nat) : Int)), (25, .int .i64 ((0 : Nat) : Int)), (8, .pointer (some ⟨h.size, 0, none⟩))] (fun q => Wr h2 q h.size 2 (.int .i64 cap)) ?_ ?_
      · repeat (first | refine c_seq ?_ | refine c_region ?_ | refine c_block ?_ | refine c_skip ?_ | refine c_exit ?_ | refine c_ret ?_ | refine n_then ?_ | refine n_block ?_ | refine x_then ?_ | refine x_block_eq ?_ | refine x_block_ne rfl ?_ | refine r_then ?_ | refine r_block ?_ | refine s_nil ?_ | refine c_true rfl ?_ | refine c_false rfl ?_ | refine s_pur (p_move rfl) rfl ?_ | refine s_pur (p_assign rfl) rfl ?_ | refine s_pur (p_nil rfl) rfl ?_ | refine s_pur (p_pick_t rfl rfl) rfl ?_ | refine s_pur (p_pick_f rfl rfl) rfl ?_ | refine s_pur (p_fld (off := 2) rfl Yba.underlying54 rfl Yba.sizeOf2 rfl) rfl ?_ | refine s_pur (p_quo rfl rfl (by decide) hq1 (by omega) (by omega)) rfl ?_)
        refine s_eff0 (e_wr rfl rfl rfl Yba.sizeOf2 bs (by omega)) ?_
        intro _ q wq
        repeat (first | refine c_seq ?_ | refine c_region ?_ | refine c_block ?_ | refine c_skip ?_ | refine c_exit ?_ | refine c_ret ?_ | refine n_then ?_ | refine n_block ?_ | refine x_then ?_ | refine x_block_eq ?_ | refine x_block_ne rfl ?_ | refine r_then ?_ | refine r_block ?_ | refine s_nil ?_ | refine c_true rfl ?_ | refine c_false rfl ?_ | refine s_pur (p_move rfl) rfl ?_ | refine s_pur (p_assign rfl) rfl ?_ | refine s_pur (p_nil rfl) rfl ?_ | refine s_pur (p_pick_t rfl rfl) rfl ?_ | refine s_pur (p_pick_f rfl rfl) rfl ?_)
        exact m_done wq (by repeat (first | exact Sub.nil | refine Sub.cons rfl ?_))
      intro h3 w3
      refine c_mid [(0, .int .i64 cap), (5, .int .i64 ((1 : Nat) : Int)), (6, .pointer (some ⟨h.size + 1, 0, none⟩)), (24, .int .i64 ((1 : Nat) : Int)), (25, .int .i64 ((0 : Nat) : Int)), (8, .pointer (some ⟨h.size, 0, none⟩))] (fun q => ∃ x, New h3 x (.map #[] 0) ∧ Wr x q h.size 4 (.map (some (h.size + 2)))) ?_ ?_
      · repeat (first | refine c_seq ?_ | refine c_region ?_ | refine c_block ?_ | refine c_skip ?_ | refine c_exit ?_ | refine c_ret ?_ | refine n_then ?_ | refine n_block ?_ | refine x_then ?_ | refine x_block_eq ?_ | refine x_block_ne rfl ?_ | refine r_then ?_ | refine r_block ?_ | refine s_nil ?_ | refine c_true rfl ?_ | refine c_false rfl ?_ | refine s_pur (p_move rfl) rfl ?_ | refine s_pur (p_assign rfl) rfl ?_ | refine s_pur (p_nil rfl) rfl ?_ | refine s_pur (p_pick_t rfl rfl) rfl ?_ | refine s_pur (p_pick_f rfl rfl) rfl ?_)
        refine s_eff e_makeMap rfl ?_
        rintro _ x ⟨rfl, nx⟩
        have e3 : Array.size h3 = h.size + 2 := by rw [w3.size]; exact sz2
        rw [e3]
        repeat (first | refine c_seq ?_ | refine c_region ?_ | refine c_block ?_ | refine c_skip ?_ | refine c_exit ?_ | refine c_ret ?_ | refine n_then ?_ | refine n_block ?_ | refine x_then ?_ | refine x_block_eq ?_ | refine x_block_ne rfl ?_ | refine r_then ?_ | refine r_block ?_ | refine s_nil ?_ | refine c_true rfl ?_ | refine c_false rfl ?_ | refine s_pur (p_move rfl) rfl ?_ | refine s_pur (p_assign rfl) rfl ?_ | refine s_pur (p_nil rfl) rfl ?_ | refine s_pur (p_pick_t rfl rfl) rfl ?_ | refine s_pur (p_pick_f rfl rfl) rfl ?_ | refine s_pur (p_fld (off := 4) rfl Yba.underlying54 rfl Yba.sizeOf49 rfl) rfl ?_)
        refine s_eff0 (e_wr rfl rfl rfl Yba.sizeOf49 ((Kp.of nx).blk (w3.blk _ _ _ bs)) (by omega)) ?_
        intro _ q wq
        repeat (first | refine c_seq ?_ | refine c_region ?_ | refine c_block ?_ | refine c_skip ?_ | refine c_exit ?_ | refine c_ret ?_ | refine n_then ?_ | refine n_block ?_ | refine x_then ?_ | refine x_block_eq ?_ | refine x_block_ne rfl ?_ | refine r_then ?_ | refine r_block ?_ | refine s_nil ?_ | refine c_true rfl ?_ | refine c_false rfl ?_ | refine s_pur (p_move rfl) rfl ?_ | refine s_pur (p_assign rfl) rfl ?_ | refine s_pur (p_nil rfl) rfl ?_ | refine s_pur (p_pick_t rfl rfl) rfl ?_ | refine s_pur (p_pick_f rfl rfl) rfl ?_)
        exact m_done ⟨x, nx, wq⟩ (by repeat (first | exact Sub.nil | refine Sub.cons rfl ?_))
      rintro h5 ⟨h4, n4, w5⟩
      have bs5 := w5.blk _ _ _ ((Kp.of n4).blk (w3.blk _ _ _ bs))
      refine c_held followsM rfl ?_
      refine h_any 0 rfl (by kernel_rfl) rfl (fun _ => p_move rfl) rfl ?_
      refine h_any 1 rfl (by kernel_rfl) rfl (fun _ => p_move rfl) rfl ?_
      refine h_any 2 rfl (by kernel_rfl) rfl (fun _ => p_move rfl) rfl ?_
      refine h_any 3 rfl (by kernel_rfl) rfl (fun _ => p_nil rfl) rfl ?_
      refine h_any 4 rfl (by kernel_rfl) rfl (fun _ => p_fld (off := 5) rfl Yba.underlying54 rfl Yba.sizeOf52 rfl) rfl ?_
      refine h_any 5 rfl (by kernel_rfl) rfl (fun _ => p_move rfl) rfl ?_
      refine h_any 6 rfl (by kernel_rfl) rfl (fun _ => p_nil rfl) rfl ?_
      refine h_any 7 rfl (by kernel_rfl) rfl (fun _ => p_fld (off := 5) rfl Yba.underlying54 rfl Yba.sizeOf52 rfl) rfl ?_
      refine h_any 8 rfl (by kernel_rfl) rfl (fun _ => p_nil rfl) rfl ?_
      refine h_any 9 rfl (by kernel_rfl) rfl (fun _ => p_fld (off := 5) rfl Yba.underlying54 rfl Yba.sizeOf52 rfl) rfl ?_
      refine h_any 10 rfl (by kernel_rfl) rfl (fun _ => p_fld (off := 3) rfl Yba.underlying52 rfl Yba.sizeOf50 rfl) rfl ?_
      refine h_eff0 11 rfl (by kernel_rfl) rfl (e_wr rfl rfl rfl Yba.sizeOf50 bs5 (by omega)) ?_
      intro _ h6 w6
      refine h_any 12 rfl (by kernel_rfl) rfl (fun _ => p_nil rfl) rfl ?_
      refine h_any 13 rfl (by kernel_rfl) rfl (fun _ => p_fld (off := 5) rfl Yba.underlying54 rfl Yba.sizeOf52 rfl) rfl ?_
      refine h_any 14 rfl (by kernel_rfl) rfl (fun _ => p_fld (off := 4) rfl Yba.underlying52 rfl Yba.sizeOf50 rfl) rfl ?_
      refine h_eff0 15 rfl (by kernel_rfl) rfl (e_wr rfl rfl rfl Yba.sizeOf50 (w6.blk _ _ _ bs5) (by omega)) ?_
      intro _ h7 w7
      refine h_done (by kernel_rfl) ?_
      have s3 := w3.size
      have s4 := n4.size
      have s5 := w5.size
      have s6 := w6.size
      have s7 := w7.size
      have keep : ∀ k : Nat, k < h.size + 2 → k ≠ h.size → h7[k]? = h2[k]? := fun k hk hne => by
        rw [w7.other k hne, w6.other k hne, w5.other k hne, n4.other k (by omega), w3.other k hne]
      have c0 : hc h2 h.size 0 = some (.int .i32 0) := by rw [hc_of hsb]; exact cc0
      have c3 : hc h2 h.size 3 = some (.int .i64 0) := by rw [hc_of hsb]; exact cc3
      have old : ∀ o v, o ≠ 2 → o ≠ 4 → o ≠ 8 → o ≠ 9 → hc h2 h.size o = some v → hc h7 h.size o = some v := fun o v o2 o4 o8 o9 hv =>
        w7.cell' (fun ⟨_, e⟩ => o9 e) (w6.cell' (fun ⟨_, e⟩ => o8 e) (w5.cell' (fun ⟨_, e⟩ => o4 e) ((Kp.of n4).cell (w3.cell' (fun ⟨_, e⟩ => o2 e) hv))))
      have hmap : h7[h.size + 2]? = some (.map #[] 0) := by
        rw [w7.other _ (by omega), w6.other _ (by omega), w5.other _ (by omega)]
        have := n4.at_
        rw [show Array.size h3 = h.size + 2 by omega] at this
        exact this
      have fu : Full h7 h.size (h.size + 1) h.size (h.size + 2) cap 0 E := by
        refine ⟨⟨[], ⟨⟨by rw [keep _ (by omega) (by omega)]; exact hcb, w7.blk _ _ _ (w6.blk _ _ _ bs5), old 0 _ (by omega) (by omega) (by omega) (by omega) c0, ?_, old 3 _ (by omega) (by omega) (by omega) (by omega) c3, ?_, ⟨#[], 0, hmap, rfl⟩, by omega, by omega⟩, ⟨fun i hi => by omega, fun i k hi => by omega⟩, ⟨fun i hi => ?_, fun i hi => ?_⟩⟩, ?_⟩, by simp [sumL]⟩
        · exact w7.cell' (by simp) (w6.cell' (by simp) (w5.cell' (by simp) ((Kp.of n4).cell w3.at_)))
        · exact w7.cell' (by simp) (w6.cell' (by simp) w5.at_)
        · obtain rfl : i = 0 := by omega
          rw [adr_zero, adr_last]
          exact w7.at_
        · obtain rfl : i = 0 := by omega
          rw [adr_zero, adr_last]
          exact w7.cell' (by simp) w6.at_
        · exact ⟨by simp [KeysND], fun i hi => by omega, fun k _ => rfl⟩
      have kp7 : Kp h h7 := ⟨by have := kp2.size; omega, fun k hk => by rw [keep k (by omega) (by omega)]; exact kp2.same k hk⟩
      repeat (first | refine c_seq ?_ | refine c_region ?_ | refine c_block ?_ | refine c_skip ?_ | refine c_exit ?_ | refine c_ret ?_ | refine n_then ?_ | refine n_block ?_ | refine x_then ?_ | refine x_block_eq ?_ | refine x_block_ne rfl ?_ | refine r_then ?_ | refine r_block ?_ | refine s_nil ?_ | refine c_true rfl ?_ | refine c_false rfl ?_ | refine s_pur (p_move rfl) rfl ?_ | refine s_pur (p_assign rfl) rfl ?_ | refine s_pur (p_nil rfl) rfl ?_ | refine s_pur (p_pick_t rfl rfl) rfl ?_ | refine s_pur (p_pick_f rfl rfl) rfl ?_ | refine s_pur (p_add rfl rfl rfl (by omega) (by omega)) rfl ?_)
      exact c_next 1 (.inr ⟨rfl, fu, kp7⟩) (by repeat (first | exact Sub.nil | refine Sub.cons rfl ?_)) (by omega)
    · repeat (first | refine c_seq ?_ | refine c_region ?_ | refine c_block ?_ | refine c_skip ?_ | refine c_exit ?_ | refine c_ret ?_ | refine n_then ?_ | refine n_block ?_ | refine x_then ?_ | refine x_block_eq ?_ | refine x_block_ne rfl ?_ | refine r_then ?_ | refine r_block ?_ | refine s_nil ?_ | refine c_true rfl ?_ | refine c_false rfl ?_ | refine s_pur (p_move rfl) rfl ?_ | refine s_pur (p_assign rfl) rfl ?_ | refine s_pur (p_nil rfl) rfl ?_ | refine s_pur (p_pick_t rfl rfl) rfl ?_ | refine s_pur (p_pick_f rfl rfl) rfl ?_ | refine s_pur (p_lssT rfl rfl (by omega)) rfl ?_ | refine s_pur (p_lssF rfl rfl (by omega)) rfl ?_ | refine s_pur (p_leqT rfl rfl (by omega)) rfl ?_ | refine s_pur (p_leqF rfl rfl (by omega)) rfl ?_ | refine s_pur (p_gtrT rfl rfl (by omega)) rfl ?_ | refine s_pur (p_gtrF rfl rfl (by omega)) rfl ?_ | refine s_pur (p_geqT rfl rfl (by omega)) rfl ?_ | refine s_pur (p_geqF rfl rfl (by omega)) rfl ?_ | refine s_pur (p_eqlT rfl rfl (by omega)) rfl ?_ | refine s_pur (p_eqlF rfl rfl (by omega)) rfl ?_ | refine s_pur (p_neqT rfl rfl (by omega)) rfl ?_ | refine s_pur (p_neqF rfl rfl (by omega)) rfl ?_)
      exact m_done ⟨fq, kq⟩ (by repeat (first | exact Sub.nil | refine Sub.cons rfl ?_))
  rintro q ⟨fq, kq⟩
  repeat (first | refine c_seq ?_ | refine c_region ?_ | refine c_block ?_ | refine c_skip ?_ | refine c_exit ?_ | refine c_ret ?_ | refine n_then ?_ | refine n_block ?_ | refine x_then ?_ | refine x_block_eq ?_ | refine x_block_ne rfl ?_ | refine r_then ?_ | refine r_block ?_ | refine s_nil ?_ | refine c_true rfl ?_ | refine c_false rfl ?_ | refine s_pur (p_move rfl) rfl ?_ | refine s_pur (p_assign rfl) rfl ?_ | refine s_pur (p_nil rfl) rfl ?_ | refine s_pur (p_pick_t rfl rfl) rfl ?_ | refine s_pur (p_pick_f rfl rfl) rfl ?_)
  exact ret1 Yba.results5 rfl ⟨rfl, fq, kq⟩
end Go.Proofs.Ybulkdire
