/-
  D15: LawS5489CWhole: the run is laid.
-/
import Derived.Test.YbulkdiqqD14
namespace Go.Proofs.Ybulkdiqq
set_option linter.unusedSimpArgs false
set_option linter.unusedVariables false
set_option linter.unnecessarySimpa false
open Go Go.RowKit V
set_option maxRecDepth 100000

/-- Wakes as they came in. -/
def OIn (h : Heap) (a : Option Addr) (n : Nat) (D : Nat → Dlv) : Prop := ∀ i, i < n → ∃ b o, a = some ⟨b, o, none⟩ ∧ ∀ t, t < 3 → hc h b (o + i * 3 + t) = ([.int .i64 (D i).1, .int .u64 (D i).2.1, .int .u64 (D i).2.2] : List Value)[t]?
theorem OIn.low {h h' : Heap} {a : Option Addr} {n : Nat} {D : Nat → Dlv} (u : OIn h a n D) (k : Low h.size h h') : OIn h' a n D := fun i hi => by
  obtain ⟨b, o, ea, hh⟩ := u i hi
  have h0 := hh 0 (by omega)
  have hb : b < h.size := lt_of_hc h0
  exact ⟨b, o, ea, fun t ht => by rw [hc_congr (k.same b hb)]; exact hh t ht⟩

/-- The maps. -/
structure Mps (h0 q : Heap) (id p : Int) (pb epb nmb enb wb ewb : Nat) (Lp Ln Lw : ML) : Prop where
  low : Low h0.size h0 q
  mP : MapAt keyU q pb Lp
  mP' : MapAt keyU q epb Lp
  mN : MapAt keyU q nmb Ln
  mN' : MapAt keyU q enb (putM Ln id (.pointer none))
  mW : MapAt keyU q wb Lw
  mW' : MapAt keyU q ewb Lw
  low2 : h0.size ≤ wb ∧ h0.size ≤ nmb ∧ h0.size ≤ ewb
  ne : wb ≠ nmb ∧ pb ≠ wb ∧ pb ≠ nmb ∧ epb ≠ wb ∧ epb ≠ nmb ∧ enb ≠ wb ∧ enb ≠ nmb ∧ ewb ≠ wb ∧ ewb ≠ nmb
  vP : Nums Lp
  vN : Ptrs Ln
  vW : Nums Lw
  hp : prio Lp id = .int .u64 p
  lenP : Lp.length ≤ 1048576
theorem Mps.kp {h0 q q' : Heap} {id p : Int} {pb epb nmb enb wb ewb : Nat} {Lp Ln Lw : ML} (m : Mps h0 q id p pb epb nmb enb wb ewb Lp Ln Lw) (k : Kp q q') : Mps h0 q' id p pb epb nmb enb wb ewb Lp Ln Lw :=
  ⟨m.low.trans (k.toLow m.low.size), m.mP.kp k, m.mP'.kp k, m.mN.kp k, m.mN'.kp k, m.mW.kp k, m.mW'.kp k, m.low2, m.ne, m.vP, m.vN, m.vW, m.hp, m.lenP⟩

theorem p_build84 {l : Env} {h : Heap} {ty : TypeId} {x y z : Operand} {a b c : Int} (h0 : ev l x = some (.int .i64 a)) (h1 : ev l y = some (.int .i64 b)) (h2 : ev l z = some (.int .i64 c)) :
    Pur Yba.prog (.build 84 #[(0, x), (1, y), (2, z)]) ty l h (.agg [.int .i64 a, .int .i64 b, .int .i64 c].toArray) := by
  refine ⟨fun ρ w d p af g hρ hw => ?_⟩
  simp only [execOp, Instr.build, List.map_toArray, List.map_cons, List.map_nil, hρ _ _ h0, hρ _ _ h1, hρ _ _ h2]
  simp [Yba.zeroValue84, run_underlying Yba.underlying84, Array.mapM_eq_mapM_toList, List.mapM_cons, Yba.sizeOf2, Instr.fill, Value.cells]
def netC (now : Int) : List Value := [.pointer none, .pointer none, .int .i64 0, .slice none 0 0, .int .i64 0, .map none, .int .u64 0, .int .u64 0, .int .i64 now, .int .i64 0, .int .i64 0, .slice none 0 0]
theorem p_build91 {l : Env} {h : Heap} {ty : TypeId} {x : Operand} {a : Int} (h0 : ev l x = some (.int .i64 a)) :
    Pur Yba.prog (.build 91 #[(8, x)]) ty l h (.agg (netC a).toArray) := by
  refine ⟨fun ρ w d p af g hρ hw => ?_⟩
  simp only [execOp, Instr.build, List.map_toArray, List.map_cons, List.map_nil, hρ _ _ h0]
  simp [Yba.zeroValue91, run_underlying Yba.underlying91, Array.mapM_eq_mapM_toList, List.mapM_cons, Yba.sizeOf87, Yba.sizeOf2, Yba.sizeOf68, Yba.sizeOf3, Yba.sizeOf88, Yba.sizeOf50, Yba.sizeOf89, Instr.fill, Value.cells, netC]
def runC (m1 ptr sl m2 sq : Value) : List Value := [m1, .nilIface, .pointer none, .int .i64 0, ptr, sl, m2, sq, .pointer none, .slice none 0 0, .int .i64 0, .int .i64 0, .int .i64 0, .int .i64 0, .int .i64 0, .int .i64 0, .int .i64 0, .slice none 0 0, .int .i64 0, .int .i64 0, .int .i64 0, .map none, .slice none 0 0, .int .u64 0, .bool false]
theorem p_build104 {l : Env} {h : Heap} {ty : TypeId} {x y z u v : Operand} {pb nb wb g n c : Nat} {sq : Int} (h0 : ev l x = some (.map (some pb))) (h1 : ev l y = some (.pointer (some ⟨nb, 0, none⟩))) (h2 : ev l z = some (.slice (some ⟨g, 0, none⟩) n c)) (h3 : ev l u = some (.map (some wb))) (h4 : ev l v = some (.int .u64 sq)) :
    Pur Yba.prog (.build 104 #[(0, x), (4, y), (5, z), (6, u), (7, v)]) ty l h (.agg (runC (.map (some pb)) (.pointer (some ⟨nb, 0, none⟩)) (.slice (some ⟨g, 0, none⟩) n c) (.map (some wb)) (.int .u64 sq)).toArray) := by
  refine ⟨fun ρ w d p af g hρ hw => ?_⟩
  simp only [execOp, Instr.build, List.map_toArray, List.map_cons, List.map_nil, hρ _ _ h0, hρ _ _ h1, hρ _ _ h2, hρ _ _ h3, hρ _ _ h4]
  simp [Yba.zeroValue104, run_underlying Yba.underlying104, Array.mapM_eq_mapM_toList, List.mapM_cons, Yba.sizeOf56, Yba.sizeOf93, Yba.sizeOf94, Yba.sizeOf2, Yba.sizeOf86, Yba.sizeOf68, Yba.sizeOf50, Yba.sizeOf95, Yba.sizeOf99, Yba.sizeOf102, Instr.fill, Value.cells, runC]
theorem p_build107 {l : Env} {h : Heap} {ty : TypeId} {x y z : Operand} {rb nmb : Nat} {a b c : Int} (h0 : ev l x = some (.pointer (some ⟨rb, 0, none⟩))) (h1 : ev l y = some (.agg [.int .i64 a, .int .i64 b, .int .i64 c].toArray)) (h2 : ev l z = some (.map (some nmb))) :
    Pur Yba.prog (.build 107 #[(0, x), (1, y), (2, z)]) ty l h (.agg [.pointer (some ⟨rb, 0, none⟩), .int .i64 a, .int .i64 b, .int .i64 c, .map (some nmb)].toArray) := by
  refine ⟨fun ρ w d p af g hρ hw => ?_⟩
  simp only [execOp, Instr.build, List.map_toArray, List.map_cons, List.map_nil, hρ _ _ h0, hρ _ _ h1, hρ _ _ h2]
  simp [Yba.zeroValue107, run_underlying Yba.underlying107, Array.mapM_eq_mapM_toList, List.mapM_cons, Yba.sizeOf85, Yba.sizeOf84, Yba.sizeOf58, Instr.fill, Value.cells]

abbrev envA (a2 a3 a4 : Option Addr) (n2 n3 n4 c2 c3 c4 : Nat) (id per miss hor now sq lead p : Int) (pb epb nmb enb wb ewb : Nat) : Env :=
  [(0, .int .u64 id), (2, .slice a2 n2 c2), (3, .slice a3 n3 c3), (4, .slice a4 n4 c4), (6, .int .i64 per), (7, .int .i64 miss), (8, .int .i64 hor), (9, .int .i64 now), (10, .int .u64 sq), (11, .int .i64 lead), (25, .map (some pb)), (26, .map (some epb)), (29, .int .u64 p), (32, .map (some nmb)), (33, .map (some enb)), (37, .map (some wb)), (38, .map (some ewb))]

set_option maxHeartbeats 16000000 in
theorem lawA {h0 q : Heap} {a2 a3 a4 a5 : Option Addr} {n2 n3 n4 n5 c2 c3 c4 c5 : Nat} {id per miss hor now sq lead p : Int} {pb epb nmb enb wb ewb : Nat} {I P X Y : Nat → Int} {D : Nat → Dlv} {Lp Ln Lw : ML} {w0 : World}
    (ip : PIn h0 a2 n2 I P) (ie : UIn h0 a3 n3 X) (is : UIn h0 a4 n4 Y) (io : OIn h0 a5 n5 D) (hb2 : n2 ≤ 65536) (hb3 : n3 ≤ 65536) (hb4 : n4 ≤ 65536) (hb5 : n5 ≤ 65536) (ms : Mps h0 q id p pb epb nmb enb wb ewb Lp Ln Lw) :
    V.Fin 531 w0 (CW Yba.prog (V.sub (Yba.f4.body.getD .skip) [1, 1, 1, 1, 1, 1, 1, 1, 1, 1, 1, 1, 1, 1, 1, 1]) (bodyPost Yba.prog Yba.f4 (PostR w0 (fun u h' => u = .bool true ∧ Low h0.size h0 h')))) ((5, .slice a5 n5 c5) :: envA a2 a3 a4 n2 n3 n4 c2 c3 c4 id per miss hor now sq lead p pb epb nmb enb wb ewb) q := by
  have hsz := ms.low.size
  refine c_mid ((41, .slice (some ⟨q.size, 0, none⟩) n5 n5) :: (5, .slice a5 n5 c5) :: envA a2 a3 a4 n2 n3 n4 c2 c3 c4 id per miss hor now sq lead p pb epb nmb enb wb ewb) (fun x => Kp q x ∧ DRow x q.size n5 n5 (fun _ => (0, 0, 0))) ?_ ?_
  · repeat (first | refine c_seq ?_ | refine c_region ?_ | refine c_block ?_ | refine c_skip ?_ | refine c_exit ?_ | refine c_ret ?_ | refine n_then ?_ | refine n_block ?_ | refine x_then ?_ | refine x_block_eq ?_ | refine x_block_ne rfl ?_ | refine r_then ?_ | refine r_block ?_ | refine s_nil ?_ | refine c_true rfl ?_ | refine c_false rfl ?_ | refine s_pur (p_move rfl) rfl ?_ | refine s_pur (p_assign rfl) rfl ?_ | refine s_pur (p_nil rfl) rfl ?_ | refine s_pur (p_pick_t rfl rfl) rfl ?_ | refine s_pur (p_pick_f rfl rfl) rfl ?_ | refine s_pur (p_len rfl Yba.underlying53) rfl ?_)
    refine s_eff (e_make80 rfl rfl (by omega)) rfl ?_
    rintro _ x ⟨rfl, kx, _, dx⟩
    repeat (first | refine c_seq ?_ | refine c_region ?_ | refine c_block ?_ | refine c_skip ?_ | refine c_exit ?_ | refine c_ret ?_ | refine n_then ?_ | refine n_block ?_ | refine x_then ?_ | refine x_block_eq ?_ | refine x_block_ne rfl ?_ | refine r_then ?_ | refine r_block ?_ | refine s_nil ?_ | refine c_true rfl ?_ | refine c_false rfl ?_ | refine s_pur (p_move rfl) rfl ?_ | refine s_pur (p_assign rfl) rfl ?_ | refine s_pur (p_nil rfl) rfl ?_ | refine s_pur (p_pick_t rfl rfl) rfl ?_ | refine s_pur (p_pick_f rfl rfl) rfl ?_)
    exact m_done ⟨kx, dx⟩ (by repeat (first | exact Sub.nil | refine Sub.cons rfl ?_))
  rintro q1 ⟨k1, d1⟩
  -- the wakes that came in
  refine c_mid ((41, .slice (some ⟨q.size, 0, none⟩) n5 n5) :: envA a2 a3 a4 n2 n3 n4 c2 c3 c4 id per miss hor now sq lead p pb epb nmb enb wb ewb) (fun x => Kp q x ∧ DRow x q.size n5 n5 D) ?_ ?_
  · repeat (first | refine c_seq ?_ | refine c_region ?_ | refine c_block ?_ | refine c_skip ?_ | refine c_exit ?_ | refine c_ret ?_ | refine n_then ?_ | refine n_block ?_ | refine x_then ?_ | refine x_block_eq ?_ | refine x_block_ne rfl ?_ | refine r_then ?_ | refine r_block ?_ | refine s_nil ?_ | refine c_true rfl ?_ | refine c_false rfl ?_ | refine s_pur (p_move rfl) rfl ?_ | refine s_pur (p_assign rfl) rfl ?_ | refine s_pur (p_nil rfl) rfl ?_ | refine s_pur (p_pick_t rfl rfl) rfl ?_ | refine s_pur (p_pick_f rfl rfl) rfl ?_ | refine s_pur (p_len rfl Yba.underlying53) rfl ?_)
    refine c_loop (fun k : Nat => (183, .slice a5 n5 c5) :: (184, .int .i64 (n5 : Int)) :: (185, .int .i64 (k : Int)) :: (41, .slice (some ⟨q.size, 0, none⟩) n5 n5) :: envA a2 a3 a4 n2 n3 n4 c2 c3 c4 id per miss hor now sq lead p pb epb nmb enb wb ewb)
      (fun k x => k ≤ n5 ∧ Kp q x ∧ DRow x q.size n5 n5 (fun i => if i < k then D i else (0, 0, 0))) (fun k => n5 - k) 0 ⟨Nat.zero_le _, k1, d1.congr (fun i hi => by simp)⟩ (by repeat (first | exact Sub.nil | refine Sub.cons rfl ?_)) ?_
    rintro k x ⟨hk, kx, dx⟩
    by_cases hlt : k < n5
    · obtain ⟨b, o, rfl, hcell⟩ := (io.low (ms.kp kx).low) k hlt
      refine c_seq ?_
      repeat (first | refine c_region ?_ | refine c_block ?_ | refine c_skip ?_ | refine c_exit ?_ | refine c_ret ?_ | refine n_then ?_ | refine n_block ?_ | refine x_then ?_ | refine x_block_eq ?_ | refine x_block_ne rfl ?_ | refine r_then ?_ | refine r_block ?_ | refine s_nil ?_ | refine c_true rfl ?_ | refine c_false rfl ?_ | refine s_pur (p_move rfl) rfl ?_ | refine s_pur (p_assign rfl) rfl ?_ | refine s_pur (p_nil rfl) rfl ?_ | refine s_pur (p_pick_t rfl rfl) rfl ?_ | refine s_pur (p_pick_f rfl rfl) rfl ?_ | refine s_pur (p_lssT rfl rfl (by omega)) rfl ?_ | refine s_pur (p_lssF rfl rfl (by omega)) rfl ?_ | refine s_pur (p_leqT rfl rfl (by omega)) rfl ?_ | refine s_pur (p_leqF rfl rfl (by omega)) rfl ?_ | refine s_pur (p_gtrT rfl rfl (by omega)) rfl ?_ | refine s_pur (p_gtrF rfl rfl (by omega)) rfl ?_ | refine s_pur (p_geqT rfl rfl (by omega)) rfl ?_ | refine s_pur (p_geqF rfl rfl (by omega)) rfl ?_ | refine s_pur (p_eqlT rfl rfl (by omega)) rfl ?_ | refine s_pur (p_eqlF rfl rfl (by omega)) rfl ?_ | refine s_pur (p_neqT rfl rfl (by omega)) rfl ?_ | refine s_pur (p_neqF rfl rfl (by omega)) rfl ?_)
      refine c_seq ?_
      repeat (first | refine c_region ?_ | refine c_block ?_ | refine c_skip ?_ | refine c_exit ?_ | refine c_ret ?_ | refine n_then ?_ | refine n_block ?_ | refine x_then ?_ | refine x_block_eq ?_ | refine x_block_ne rfl ?_ | refine r_then ?_ | refine r_block ?_ | refine s_nil ?_ | refine c_true rfl ?_ | refine c_false rfl ?_ | refine s_pur (p_move rfl) rfl ?_ | refine s_pur (p_assign rfl) rfl ?_ | refine s_pur (p_nil rfl) rfl ?_ | refine s_pur (p_pick_t rfl rfl) rfl ?_ | refine s_pur (p_pick_f rfl rfl) rfl ?_)
      refine c_seq ?_
      refine c_block ?_
      refine c_mid ((183, .slice (some ⟨b, o, none⟩) n5 c5) :: (184, .int .i64 (n5 : Int)) :: (185, .int .i64 (k : Int)) :: (41, .slice (some ⟨q.size, 0, none⟩) n5 n5) :: (42, .int .i64 (k : Int)) :: (43, .pointer (some ⟨x.size, 0, none⟩)) :: envA a2 a3 a4 n2 n3 n4 c2 c3 c4 id per miss hor now sq lead p pb epb nmb enb wb ewb) (fun y => Kp x y ∧ y[x.size]? = some (.cells [.int .i64 (D k).1, .int .u64 (D k).2.1, .int .u64 (D k).2.2].toArray 70 (0, 0))) ?_ ?_
      · repeat (first | refine c_seq ?_ | refine c_region ?_ | refine c_block ?_ | refine c_skip ?_ | refine c_exit ?_ | refine c_ret ?_ | refine n_then ?_ | refine n_block ?_ | refine x_then ?_ | refine x_block_eq ?_ | refine x_block_ne rfl ?_ | refine r_then ?_ | refine r_block ?_ | refine s_nil ?_ | refine c_true rfl ?_ | refine c_false rfl ?_ | refine s_pur (p_move rfl) rfl ?_ | refine s_pur (p_assign rfl) rfl ?_ | refine s_pur (p_nil rfl) rfl ?_ | refine s_pur (p_pick_t rfl rfl) rfl ?_ | refine s_pur (p_pick_f rfl rfl) rfl ?_ | refine s_pur (p_len rfl Yba.underlying53) rfl ?_ | refine s_pur (p_idx rfl rfl rfl (by omega) Yba.underlying53 Yba.sizeOf70) rfl ?_ | refine s_pur (p_loadA (vs := [.int .i64 (D k).1, .int .u64 (D k).2.1, .int .u64 (D k).2.2]) rfl Yba.isAgg70 Yba.sizeOf70 rfl hcell) rfl ?_)
        refine s_eff (e_alloc Yba.zeroValue70) rfl ?_
        rintro _ y ⟨rfl, ny⟩
        repeat (first | refine c_seq ?_ | refine c_region ?_ | refine c_block ?_ | refine c_skip ?_ | refine c_exit ?_ | refine c_ret ?_ | refine n_then ?_ | refine n_block ?_ | refine x_then ?_ | refine x_block_eq ?_ | refine x_block_ne rfl ?_ | refine r_then ?_ | refine r_block ?_ | refine s_nil ?_ | refine c_true rfl ?_ | refine c_false rfl ?_ | refine s_pur (p_move rfl) rfl ?_ | refine s_pur (p_assign rfl) rfl ?_ | refine s_pur (p_nil rfl) rfl ?_ | refine s_pur (p_pick_t rfl rfl) rfl ?_ | refine s_pur (p_pick_f rfl rfl) rfl ?_)
        refine s_eff0 (e_storeAll (vs := [.int .i64 (D k).1, .int .u64 (D k).2.1, .int .u64 (D k).2.2]) rfl rfl Yba.sizeOf70 rfl ny.at_ rfl (by simp [Value.oneCell'])) ?_
        intro _ y2 uy
        repeat (first | refine c_seq ?_ | refine c_region ?_ | refine c_block ?_ | refine c_skip ?_ | refine c_exit ?_ | refine c_ret ?_ | refine n_then ?_ | refine n_block ?_ | refine x_then ?_ | refine x_block_eq ?_ | refine x_block_ne rfl ?_ | refine r_then ?_ | refine r_block ?_ | refine s_nil ?_ | refine c_true rfl ?_ | refine c_false rfl ?_ | refine s_pur (p_move rfl) rfl ?_ | refine s_pur (p_assign rfl) rfl ?_ | refine s_pur (p_nil rfl) rfl ?_ | refine s_pur (p_pick_t rfl rfl) rfl ?_ | refine s_pur (p_pick_f rfl rfl) rfl ?_)
        exact m_done ⟨⟨by rw [uy.size]; have := ny.size; omega, fun k hk => by rw [uy.other k (by omega), ny.other k hk]⟩, uy.at_⟩ (by repeat (first | exact Sub.nil | refine Sub.cons rfl ?_))
      rintro y ⟨ky, hy⟩
      have m0 : hc y x.size (0 + 0) = some (.int .i64 (D k).1) := by rw [hc_of hy]; rfl
      have m1 : hc y x.size (0 + 1) = some (.int .u64 (D k).2.1) := by rw [hc_of hy]; rfl
      have m2 : hc y x.size (0 + 2) = some (.int .u64 (D k).2.2) := by rw [hc_of hy]; rfl
      have dy := dx.keep (ky.same _ dx.lt)
      have sx := dx.lt
      repeat (first | refine c_seq ?_ | refine c_region ?_ | refine c_block ?_ | refine c_skip ?_ | refine c_exit ?_ | refine c_ret ?_ | refine n_then ?_ | refine n_block ?_ | refine x_then ?_ | refine x_block_eq ?_ | refine x_block_ne rfl ?_ | refine r_then ?_ | refine r_block ?_ | refine s_nil ?_ | refine c_true rfl ?_ | refine c_false rfl ?_ | refine s_pur (p_move rfl) rfl ?_ | refine s_pur (p_assign rfl) rfl ?_ | refine s_pur (p_nil rfl) rfl ?_ | refine s_pur (p_pick_t rfl rfl) rfl ?_ | refine s_pur (p_pick_f rfl rfl) rfl ?_ | refine s_pur (p_len rfl Yba.underlying68) rfl ?_ | refine s_pur (p_idx rfl rfl rfl (by omega) Yba.underlying68 Yba.sizeOf80) rfl ?_ | refine s_pur (p_fld (off := 0) rfl Yba.underlying70 rfl Yba.sizeOf2 rfl) rfl ?_ | refine s_pur (p_fld (off := 1) rfl Yba.underlying70 rfl Yba.sizeOf50 rfl) rfl ?_ | refine s_pur (p_fld (off := 2) rfl Yba.underlying70 rfl Yba.sizeOf50 rfl) rfl ?_ | refine s_pur (p_load rfl Yba.isAgg2 (by assumption)) rfl ?_ | refine s_pur (p_load rfl Yba.isAgg50 (by assumption)) rfl ?_ | refine s_pur (p_build80 rfl rfl rfl) rfl ?_)
      refine s_eff0 (e_setD rfl rfl dy hlt) ?_
      rintro _ z ⟨dz, _, sz, oz⟩
      repeat (first | refine c_seq ?_ | refine c_region ?_ | refine c_block ?_ | refine c_skip ?_ | refine c_exit ?_ | refine c_ret ?_ | refine n_then ?_ | refine n_block ?_ | refine x_then ?_ | refine x_block_eq ?_ | refine x_block_ne rfl ?_ | refine r_then ?_ | refine r_block ?_ | refine s_nil ?_ | refine c_true rfl ?_ | refine c_false rfl ?_ | refine s_pur (p_move rfl) rfl ?_ | refine s_pur (p_assign rfl) rfl ?_ | refine s_pur (p_nil rfl) rfl ?_ | refine s_pur (p_pick_t rfl rfl) rfl ?_ | refine s_pur (p_pick_f rfl rfl) rfl ?_ | refine s_pur (p_add rfl rfl rfl (by omega) (by omega)) rfl ?_)
      refine c_next (k + 1) ⟨hlt, ⟨by have := kx.size; have := ky.size; omega, fun j hj => by rw [oz j (by omega), ky.same j (by have := kx.size; omega), kx.same j hj]⟩, dz.congr (fun i hi => ?_)⟩ (by repeat (first | exact Sub.nil | refine Sub.cons rfl ?_)) (by omega)
      unfold upd
      by_cases e : i = k
      · subst e; rw [if_pos rfl, if_pos (by omega)]
      · rw [if_neg e]
        show (if i < k then D i else (0, 0, 0)) = _
        by_cases e2 : i < k
        · rw [if_pos e2, if_pos (by omega)]
        · rw [if_neg e2, if_neg (by omega)]
    · repeat (first | refine c_seq ?_ | refine c_region ?_ | refine c_block ?_ | refine c_skip ?_ | refine c_exit ?_ | refine c_ret ?_ | refine n_then ?_ | refine n_block ?_ | refine x_then ?_ | refine x_block_eq ?_ | refine x_block_ne rfl ?_ | refine r_then ?_ | refine r_block ?_ | refine s_nil ?_ | refine c_true rfl ?_ | refine c_false rfl ?_ | refine s_pur (p_move rfl) rfl ?_ | refine s_pur (p_assign rfl) rfl ?_ | refine s_pur (p_nil rfl) rfl ?_ | refine s_pur (p_pick_t rfl rfl) rfl ?_ | refine s_pur (p_pick_f rfl rfl) rfl ?_ | refine s_pur (p_lssT rfl rfl (by omega)) rfl ?_ | refine s_pur (p_lssF rfl rfl (by omega)) rfl ?_ | refine s_pur (p_leqT rfl rfl (by omega)) rfl ?_ | refine s_pur (p_leqF rfl rfl (by omega)) rfl ?_ | refine s_pur (p_gtrT rfl rfl (by omega)) rfl ?_ | refine s_pur (p_gtrF rfl rfl (by omega)) rfl ?_ | refine s_pur (p_geqT rfl rfl (by omega)) rfl ?_ | refine s_pur (p_geqF rfl rfl (by omega)) rfl ?_ | refine s_pur (p_eqlT rfl rfl (by omega)) rfl ?_ | refine s_pur (p_eqlF rfl rfl (by omega)) rfl ?_ | refine s_pur (p_neqT rfl rfl (by omega)) rfl ?_ | refine s_pur (p_neqF rfl rfl (by omega)) rfl ?_)
      exact m_done ⟨kx, dx.congr (fun i hi => by rw [if_pos (by omega)])⟩ (by repeat (first | exact Sub.nil | refine Sub.cons rfl ?_))
  rintro q2 ⟨k2, d2⟩
  have glt := d2.lt
  -- the sort
  refine c_mid ((41, .slice (some ⟨q.size, 0, none⟩) n5 n5) :: envA a2 a3 a4 n2 n3 n4 c2 c3 c4 id per miss hor now sq lead p pb epb nmb enb wb ewb) (fun x => Kp q x ∧ ∃ f, DRow x q.size n5 n5 f ∧ ∀ i j, i < j → j < n5 → lt (f j) (f i) = false) ?_ ?_
  · repeat (first | refine c_seq ?_ | refine c_region ?_ | refine c_block ?_ | refine c_skip ?_ | refine c_exit ?_ | refine c_ret ?_ | refine n_then ?_ | refine n_block ?_ | refine x_then ?_ | refine x_block_eq ?_ | refine x_block_ne rfl ?_ | refine r_then ?_ | refine r_block ?_ | refine s_nil ?_ | refine c_true rfl ?_ | refine c_false rfl ?_ | refine s_pur (p_move rfl) rfl ?_ | refine s_pur (p_assign rfl) rfl ?_ | refine s_pur (p_nil rfl) rfl ?_ | refine s_pur (p_pick_t rfl rfl) rfl ?_ | refine s_pur (p_pick_f rfl rfl) rfl ?_)
    refine s_call Yba.call13 rfl rfl (sort_ok q2 q.size n5 D d2 hb5) ?_
    rintro _ x ⟨rfl, f, df, hsrt, sx, ox⟩
    repeat (first | refine c_seq ?_ | refine c_region ?_ | refine c_block ?_ | refine c_skip ?_ | refine c_exit ?_ | refine c_ret ?_ | refine n_then ?_ | refine n_block ?_ | refine x_then ?_ | refine x_block_eq ?_ | refine x_block_ne rfl ?_ | refine r_then ?_ | refine r_block ?_ | refine s_nil ?_ | refine c_true rfl ?_ | refine c_false rfl ?_ | refine s_pur (p_move rfl) rfl ?_ | refine s_pur (p_assign rfl) rfl ?_ | refine s_pur (p_nil rfl) rfl ?_ | refine s_pur (p_pick_t rfl rfl) rfl ?_ | refine s_pur (p_pick_f rfl rfl) rfl ?_)
    exact m_done ⟨⟨by have := k2.size; omega, fun j hj => by rw [ox j (by omega) (by omega), k2.same j hj]⟩, f, df, hsrt⟩ (by repeat (first | exact Sub.nil | refine Sub.cons rfl ?_))
  rintro q3 ⟨k3, f, d3, hsrt⟩
  have g3 := d3.lt
  refine c_mid ((41, .slice (some ⟨q.size, 0, none⟩) n5 n5) :: (44, .slice (some ⟨q3.size, 0, none⟩) n5 n5) :: envA a2 a3 a4 n2 n3 n4 c2 c3 c4 id per miss hor now sq lead p pb epb nmb enb wb ewb) (fun x => Kp q3 x ∧ DRow x q3.size n5 n5 (fun _ => (0, 0, 0))) ?_ ?_
  · repeat (first | refine c_seq ?_ | refine c_region ?_ | refine c_block ?_ | refine c_skip ?_ | refine c_exit ?_ | refine c_ret ?_ | refine n_then ?_ | refine n_block ?_ | refine x_then ?_ | refine x_block_eq ?_ | refine x_block_ne rfl ?_ | refine r_then ?_ | refine r_block ?_ | refine s_nil ?_ | refine c_true rfl ?_ | refine c_false rfl ?_ | refine s_pur (p_move rfl) rfl ?_ | refine s_pur (p_assign rfl) rfl ?_ | refine s_pur (p_nil rfl) rfl ?_ | refine s_pur (p_pick_t rfl rfl) rfl ?_ | refine s_pur (p_pick_f rfl rfl) rfl ?_ | refine s_pur (p_len rfl Yba.underlying68) rfl ?_ | refine s_pur (p_idx rfl rfl rfl (by omega) Yba.underlying68 Yba.sizeOf80) rfl ?_)
    refine s_eff (e_make80 rfl rfl (by omega)) rfl ?_
    rintro _ x ⟨rfl, kx, _, dx⟩
    repeat (first | refine c_seq ?_ | refine c_region ?_ | refine c_block ?_ | refine c_skip ?_ | refine c_exit ?_ | refine c_ret ?_ | refine n_then ?_ | refine n_block ?_ | refine x_then ?_ | refine x_block_eq ?_ | refine x_block_ne rfl ?_ | refine r_then ?_ | refine r_block ?_ | refine s_nil ?_ | refine c_true rfl ?_ | refine c_false rfl ?_ | refine s_pur (p_move rfl) rfl ?_ | refine s_pur (p_assign rfl) rfl ?_ | refine s_pur (p_nil rfl) rfl ?_ | refine s_pur (p_pick_t rfl rfl) rfl ?_ | refine s_pur (p_pick_f rfl rfl) rfl ?_)
    exact m_done ⟨kx, dx⟩ (by repeat (first | exact Sub.nil | refine Sub.cons rfl ?_))
  rintro q4 ⟨k4, d4⟩
  have s4 := d4.lt
  refine c_mid ((41, .slice (some ⟨q.size, 0, none⟩) n5 n5) :: (44, .slice (some ⟨q3.size, 0, none⟩) n5 n5) :: envA a2 a3 a4 n2 n3 n4 c2 c3 c4 id per miss hor now sq lead p pb epb nmb enb wb ewb) (fun x => Kp q3 x ∧ DRow x q3.size n5 n5 f) ?_ ?_
  · repeat (first | refine c_seq ?_ | refine c_region ?_ | refine c_block ?_ | refine c_skip ?_ | refine c_exit ?_ | refine c_ret ?_ | refine n_then ?_ | refine n_block ?_ | refine x_then ?_ | refine x_block_eq ?_ | refine x_block_ne rfl ?_ | refine r_then ?_ | refine r_block ?_ | refine s_nil ?_ | refine c_true rfl ?_ | refine c_false rfl ?_ | refine s_pur (p_move rfl) rfl ?_ | refine s_pur (p_assign rfl) rfl ?_ | refine s_pur (p_nil rfl) rfl ?_ | refine s_pur (p_pick_t rfl rfl) rfl ?_ | refine s_pur (p_pick_f rfl rfl) rfl ?_)
    refine s_eff (copyD rfl rfl (d3.keep (k4.same _ g3)) d4 (Nat.le_refl _)) rfl ?_
    rintro _ x ⟨dx, sx, ox⟩
    repeat (first | refine c_seq ?_ | refine c_region ?_ | refine c_block ?_ | refine c_skip ?_ | refine c_exit ?_ | refine c_ret ?_ | refine n_then ?_ | refine n_block ?_ | refine x_then ?_ | refine x_block_eq ?_ | refine x_block_ne rfl ?_ | refine r_then ?_ | refine r_block ?_ | refine s_nil ?_ | refine c_true rfl ?_ | refine c_false rfl ?_ | refine s_pur (p_move rfl) rfl ?_ | refine s_pur (p_assign rfl) rfl ?_ | refine s_pur (p_nil rfl) rfl ?_ | refine s_pur (p_pick_t rfl rfl) rfl ?_ | refine s_pur (p_pick_f rfl rfl) rfl ?_)
    exact m_done ⟨⟨by have := k4.size; omega, fun j hj => by rw [ox j (by omega), k4.same j hj]⟩, dx.congr (fun i hi => by rw [if_pos hi])⟩ (by repeat (first | exact Sub.nil | refine Sub.cons rfl ?_))
  rintro q5 ⟨k5, d5⟩
  have w5 := d5.lt
  -- the setting
  refine c_mid ((41, .slice (some ⟨q.size, 0, none⟩) n5 n5) :: (44, .slice (some ⟨q3.size, 0, none⟩) n5 n5) :: (45, .pointer (some ⟨q5.size, 0, none⟩)) :: envA a2 a3 a4 n2 n3 n4 c2 c3 c4 id per miss hor now sq lead p pb epb nmb enb wb ewb) (fun x => Kp q5 x ∧ x[q5.size]? = some (.cells [.int .i64 per, .int .i64 miss, .int .i64 hor].toArray 84 (0, 0))) ?_ ?_
  · repeat (first | refine c_seq ?_ | refine c_region ?_ | refine c_block ?_ | refine c_skip ?_ | refine c_exit ?_ | refine c_ret ?_ | refine n_then ?_ | refine n_block ?_ | refine x_then ?_ | refine x_block_eq ?_ | refine x_block_ne rfl ?_ | refine r_then ?_ | refine r_block ?_ | refine s_nil ?_ | refine c_true rfl ?_ | refine c_false rfl ?_ | refine s_pur (p_move rfl) rfl ?_ | refine s_pur (p_assign rfl) rfl ?_ | refine s_pur (p_nil rfl) rfl ?_ | refine s_pur (p_pick_t rfl rfl) rfl ?_ | refine s_pur (p_pick_f rfl rfl) rfl ?_ | refine s_pur (p_build84 rfl rfl rfl) rfl ?_)
    refine s_eff (e_alloc Yba.zeroValue84) rfl ?_
    rintro _ y ⟨rfl, ny⟩
    refine s_eff0 (e_storeAll (vs := [.int .i64 per, .int .i64 miss, .int .i64 hor]) rfl rfl Yba.sizeOf84 rfl ny.at_ rfl (by simp [Value.oneCell'])) ?_
    intro _ y2 uy
    repeat (first | refine c_seq ?_ | refine c_region ?_ | refine c_block ?_ | refine c_skip ?_ | refine c_exit ?_ | refine c_ret ?_ | refine n_then ?_ | refine n_block ?_ | refine x_then ?_ | refine x_block_eq ?_ | refine x_block_ne rfl ?_ | refine r_then ?_ | refine r_block ?_ | refine s_nil ?_ | refine c_true rfl ?_ | refine c_false rfl ?_ | refine s_pur (p_move rfl) rfl ?_ | refine s_pur (p_assign rfl) rfl ?_ | refine s_pur (p_nil rfl) rfl ?_ | refine s_pur (p_pick_t rfl rfl) rfl ?_ | refine s_pur (p_pick_f rfl rfl) rfl ?_)
    exact m_done ⟨⟨by rw [uy.size]; have := ny.size; omega, fun k hk => by rw [uy.other k (by omega), ny.other k hk]⟩, uy.at_⟩ (by repeat (first | exact Sub.nil | refine Sub.cons rfl ?_))
  rintro q6 ⟨k6, hcfg⟩
  -- the run
  refine c_mid ((41, .slice (some ⟨q.size, 0, none⟩) n5 n5) :: (45, .pointer (some ⟨q5.size, 0, none⟩)) :: (46, .pointer (some ⟨q6.size + 1, 0, none⟩)) :: envA a2 a3 a4 n2 n3 n4 c2 c3 c4 id per miss hor now sq lead p pb epb nmb enb wb ewb) (fun x => Kp q6 x ∧ x.size = q6.size + 2 ∧ x[q6.size]? = some (.cells (netC now).toArray 91 (0, 0)) ∧ x[q6.size + 1]? = some (.cells (runC (.map (some pb)) (.pointer (some ⟨q6.size, 0, none⟩)) (.slice (some ⟨q3.size, 0, none⟩) n5 n5) (.map (some wb)) (.int .u64 sq)).toArray 104 (0, 0))) ?_ ?_
  · repeat (first | refine c_seq ?_ | refine c_region ?_ | refine c_block ?_ | refine c_skip ?_ | refine c_exit ?_ | refine c_ret ?_ | refine n_then ?_ | refine n_block ?_ | refine x_then ?_ | refine x_block_eq ?_ | refine x_block_ne rfl ?_ | refine r_then ?_ | refine r_block ?_ | refine s_nil ?_ | refine c_true rfl ?_ | refine c_false rfl ?_ | refine s_pur (p_move rfl) rfl ?_ | refine s_pur (p_assign rfl) rfl ?_ | refine s_pur (p_nil rfl) rfl ?_ | refine s_pur (p_pick_t rfl rfl) rfl ?_ | refine s_pur (p_pick_f rfl rfl) rfl ?_ | refine s_pur (p_build91 rfl) rfl ?_)
    refine s_eff (e_box rfl) rfl ?_
    rintro _ y ⟨rfl, ny⟩
    repeat (first | refine c_seq ?_ | refine c_region ?_ | refine c_block ?_ | refine c_skip ?_ | refine c_exit ?_ | refine c_ret ?_ | refine n_then ?_ | refine n_block ?_ | refine x_then ?_ | refine x_block_eq ?_ | refine x_block_ne rfl ?_ | refine r_then ?_ | refine r_block ?_ | refine s_nil ?_ | refine c_true rfl ?_ | refine c_false rfl ?_ | refine s_pur (p_move rfl) rfl ?_ | refine s_pur (p_assign rfl) rfl ?_ | refine s_pur (p_nil rfl) rfl ?_ | refine s_pur (p_pick_t rfl rfl) rfl ?_ | refine s_pur (p_pick_f rfl rfl) rfl ?_ | refine s_pur (p_build104 rfl rfl rfl rfl rfl) rfl ?_)
    refine s_eff (e_box rfl) rfl ?_
    rintro _ y2 ⟨rfl, ny2⟩
    have e1 : Array.size y = q6.size + 1 := ny.size
    have at2 := ny2.at_
    rw [e1] at at2
    rw [e1]
    repeat (first | refine c_seq ?_ | refine c_region ?_ | refine c_block ?_ | refine c_skip ?_ | refine c_exit ?_ | refine c_ret ?_ | refine n_then ?_ | refine n_block ?_ | refine x_then ?_ | refine x_block_eq ?_ | refine x_block_ne rfl ?_ | refine r_then ?_ | refine r_block ?_ | refine s_nil ?_ | refine c_true rfl ?_ | refine c_false rfl ?_ | refine s_pur (p_move rfl) rfl ?_ | refine s_pur (p_assign rfl) rfl ?_ | refine s_pur (p_nil rfl) rfl ?_ | refine s_pur (p_pick_t rfl rfl) rfl ?_ | refine s_pur (p_pick_f rfl rfl) rfl ?_)
    exact m_done ⟨(Kp.of ny).trans (Kp.of ny2), by rw [ny2.size, e1], by rw [ny2.other _ (by omega)]; exact ny.at_, at2⟩ (by repeat (first | exact Sub.nil | refine Sub.cons rfl ?_))
  rintro q7 ⟨k7, s7, hnet, hrun⟩
  have brun : Blk q7 (q6.size + 1) 25 104 := ⟨_, hrun, rfl⟩
  refine c_mid ((41, .slice (some ⟨q.size, 0, none⟩) n5 n5) :: (45, .pointer (some ⟨q5.size, 0, none⟩)) :: (46, .pointer (some ⟨q6.size + 1, 0, none⟩)) :: envA a2 a3 a4 n2 n3 n4 c2 c3 c4 id per miss hor now sq lead p pb epb nmb enb wb ewb) (fun x => Wr q7 x (q6.size + 1) 14 (.int .i64 lead)) ?_ ?_
  · repeat (first | refine c_seq ?_ | refine c_region ?_ | refine c_block ?_ | refine c_skip ?_ | refine c_exit ?_ | refine c_ret ?_ | refine n_then ?_ | refine n_block ?_ | refine x_then ?_ | refine x_block_eq ?_ | refine x_block_ne rfl ?_ | refine r_then ?_ | refine r_block ?_ | refine s_nil ?_ | refine c_true rfl ?_ | refine c_false rfl ?_ | refine s_pur (p_move rfl) rfl ?_ | refine s_pur (p_assign rfl) rfl ?_ | refine s_pur (p_nil rfl) rfl ?_ | refine s_pur (p_pick_t rfl rfl) rfl ?_ | refine s_pur (p_pick_f rfl rfl) rfl ?_ | refine s_pur (p_fld (off := 9) rfl Yba.underlying104 rfl Yba.sizeOf99 rfl) rfl ?_ | refine s_pur (p_fld (off := 5) rfl Yba.underlying99 rfl Yba.sizeOf2 rfl) rfl ?_)
    refine s_eff0 (e_wr rfl rfl rfl Yba.sizeOf2 brun (by omega)) ?_
    intro _ x wx
    repeat (first | refine c_seq ?_ | refine c_region ?_ | refine c_block ?_ | refine c_skip ?_ | refine c_exit ?_ | refine c_ret ?_ | refine n_then ?_ | refine n_block ?_ | refine x_then ?_ | refine x_block_eq ?_ | refine x_block_ne rfl ?_ | refine r_then ?_ | refine r_block ?_ | refine s_nil ?_ | refine c_true rfl ?_ | refine c_false rfl ?_ | refine s_pur (p_move rfl) rfl ?_ | refine s_pur (p_assign rfl) rfl ?_ | refine s_pur (p_nil rfl) rfl ?_ | refine s_pur (p_pick_t rfl rfl) rfl ?_ | refine s_pur (p_pick_f rfl rfl) rfl ?_)
    exact m_done wx (by repeat (first | exact Sub.nil | refine Sub.cons rfl ?_))
  intro q8 w8
  have sq5 := k5.size
  have sq6 := k6.size
  have k8 : Kp q6 q8 := ⟨by rw [w8.size]; exact k7.size, fun j hj => by rw [w8.other j (by omega), k7.same j hj]⟩
  have hcfg8 : q8[q5.size]? = some (.cells [.int .i64 per, .int .i64 miss, .int .i64 hor].toArray 84 (0, 0)) := k8.get hcfg
  have lcfg : ∀ j, j < 3 → hc q8 q5.size (0 + j) = ([.int .i64 per, .int .i64 miss, .int .i64 hor] : List Value)[j]? := fun j hj => by rw [hc_of hcfg8, Nat.zero_add]; simp
  refine c_mid (env1 a2 a3 a4 n2 n3 n4 c2 c3 c4 id per miss now sq lead p pb epb nmb enb wb ewb q.size n5 (q6.size + 1) q8.size q5.size) (fun x => New q8 x (.cells [.pointer (some ⟨q6.size + 1, 0, none⟩), .int .i64 per, .int .i64 miss, .int .i64 hor, .map (some nmb)].toArray 107)) ?_ ?_
  · repeat (first | refine c_seq ?_ | refine c_region ?_ | refine c_block ?_ | refine c_skip ?_ | refine c_exit ?_ | refine c_ret ?_ | refine n_then ?_ | refine n_block ?_ | refine x_then ?_ | refine x_block_eq ?_ | refine x_block_ne rfl ?_ | refine r_then ?_ | refine r_block ?_ | refine s_nil ?_ | refine c_true rfl ?_ | refine c_false rfl ?_ | refine s_pur (p_move rfl) rfl ?_ | refine s_pur (p_assign rfl) rfl ?_ | refine s_pur (p_nil rfl) rfl ?_ | refine s_pur (p_pick_t rfl rfl) rfl ?_ | refine s_pur (p_pick_f rfl rfl) rfl ?_ | refine s_pur (p_loadA (vs := [.int .i64 per, .int .i64 miss, .int .i64 hor]) rfl Yba.isAgg84 Yba.sizeOf84 rfl lcfg) rfl ?_ | refine s_pur (p_build107 rfl rfl rfl) rfl ?_)
    refine s_eff (e_box rfl) rfl ?_
    rintro _ x ⟨rfl, nx⟩
    repeat (first | refine c_seq ?_ | refine c_region ?_ | refine c_block ?_ | refine c_skip ?_ | refine c_exit ?_ | refine c_ret ?_ | refine n_then ?_ | refine n_block ?_ | refine x_then ?_ | refine x_block_eq ?_ | refine x_block_ne rfl ?_ | refine r_then ?_ | refine r_block ?_ | refine s_nil ?_ | refine c_true rfl ?_ | refine c_false rfl ?_ | refine s_pur (p_move rfl) rfl ?_ | refine s_pur (p_assign rfl) rfl ?_ | refine s_pur (p_nil rfl) rfl ?_ | refine s_pur (p_pick_t rfl rfl) rfl ?_ | refine s_pur (p_pick_f rfl rfl) rfl ?_)
    exact m_done nx (by repeat (first | exact Sub.nil | refine Sub.cons rfl ?_))
  intro q9 n9
  have k9 := Kp.of n9
  have kA : Kp q3 q9 := ((k5.trans k6).trans k8).trans k9
  have kQ : Kp q q9 := k3.trans kA
  have ms9 := ms.kp kQ
  have hnet8 : q8[q6.size]? = some (.cells (netC now).toArray 91 (0, 0)) := by rw [w8.other _ (by omega)]; exact hnet
  have hb9 : q9[q8.size]? = some (.cells [.pointer (some ⟨q6.size + 1, 0, none⟩), .int .i64 per, .int .i64 miss, .int .i64 hor, .map (some nmb)].toArray 107 (0, 0)) := n9.at_
  have oc : ∀ o v, o ≠ 14 → hc q7 (q6.size + 1) o = some v → hc q9 (q6.size + 1) o = some v := fun o v ho hv => k9.cell (w8.cell' (fun e => ho e.2) hv)
  have run9 : RunAt q9 (q6.size + 1) pb q6.size wb sq lead now q3.size n5 n5 := by
    refine ⟨(w8.blk _ _ _ brun).keep (k9.same _ (w8.blk _ _ _ brun).lt), oc 0 _ (by omega) (by rw [hc_of hrun]; rfl), oc 4 _ (by omega) (by rw [hc_of hrun]; rfl), oc 5 _ (by omega) (by rw [hc_of hrun]; rfl), oc 6 _ (by omega) (by rw [hc_of hrun]; rfl), oc 7 _ (by omega) (by rw [hc_of hrun]; rfl), k9.cell w8.at_, ⟨_, k9.get hnet8, rfl⟩, k9.cell (by rw [hc_of hnet8]; rfl), k9.cell (by rw [hc_of hnet8]; rfl)⟩
  obtain ⟨m1, m2, m3⟩ := ms9.low2
  obtain ⟨e1, e2, e3, e4, e5, e6, e7, e8, e9⟩ := ms9.ne
  have s3 := k3.size
  refine lawT1 (g := q3.size) (nb := q6.size) (hor := hor) (Lp := Lp) (Ln := Ln) (Lw := Lw) (f := f) ip ie is hb2 hb3 hb4 ?_
  exact ⟨ms9.low, by rw [hc_of hb9]; rfl, by rw [hc_of hb9]; rfl, by rw [hc_of hb9]; rfl, by rw [hc_of hb9]; rfl, by rw [hc_of hb9]; rfl, ⟨_, hb9, rfl⟩, k9.get hcfg8, run9, d5.keep (((k6.trans k8).trans k9).same _ w5), d3.keep (kA.same _ g3), ms9.mP, ms9.mP', ms9.mN, ms9.mN', ms9.mW, ms9.mW', ⟨by omega, m1, by omega, m2, m3⟩, ⟨e1, e2, e3, e4, e5, e6, e7, e8, e9, by omega⟩, ms9.vP, ms9.vN, ms9.vW, ms9.hp, ms9.lenP, hsrt, hb5⟩
end Go.Proofs.Ybulkdiqq
