/-
  D16: LawS5489CWhole: the maps are laid.
-/
import Derived.Test.YbulkdiqqD15
namespace Go.Proofs.Ybulkdiqq
set_option linter.unusedSimpArgs false
set_option linter.unusedVariables false
set_option linter.unnecessarySimpa false
open Go Go.RowKit V
set_option maxRecDepth 100000

theorem info60 : ∃ i, Yba.prog.info? 60 = some i ∧ i.zero = some (.pointer none) ∧ i.size = 1 ∧ i.bytes = 8 := info_parts (by kernel_rfl)
theorem p_build66h {l : Env} {h : Heap} {ty : TypeId} {x : Operand} {a : Int} (h0 : ev l x = some (.int .u64 a)) :
    Pur Yba.prog (.build 66 #[(2, x)]) ty l h (.agg #[.int .u64 0, .int .u64 0, .int .u64 0, .int .u64 0, .int .u64 0, .int .u64 a, .int .i64 0, .int .i64 0, .slice none 0 0, .slice none 0 0]) := by
  refine ⟨fun ρ w d p af g hρ hw => ?_⟩
  simp only [execOp, Instr.build, List.map_toArray, List.map_cons, List.map_nil, hρ _ _ h0]
  simp [Yba.zeroValue66, run_underlying Yba.underlying66, Array.mapM_eq_mapM_toList, List.mapM_cons, Yba.sizeOf50, Yba.sizeOf62, Yba.sizeOf64, Yba.sizeOf2, Yba.sizeOf52, Instr.fill, Value.cells]

theorem Nums.nil : Nums [] := fun k => ⟨0, rfl⟩
theorem Ptrs.nil : Ptrs [] := fun k => ⟨none, rfl⟩

abbrev envB (a2 a3 a4 a5 : Option Addr) (n2 n3 n4 n5 c2 c3 c4 c5 : Nat) (id per miss hor now sq lead : Int) (pb epb : Nat) : Env :=
  [(0, .int .u64 id), (2, .slice a2 n2 c2), (3, .slice a3 n3 c3), (4, .slice a4 n4 c4), (5, .slice a5 n5 c5), (6, .int .i64 per), (7, .int .i64 miss), (8, .int .i64 hor), (9, .int .i64 now), (10, .int .u64 sq), (11, .int .i64 lead), (25, .map (some pb)), (26, .map (some epb))]

set_option maxHeartbeats 16000000 in
theorem lawB {h0 q : Heap} {a2 a3 a4 a5 : Option Addr} {n2 n3 n4 n5 c2 c3 c4 c5 : Nat} {id per miss hor now sq lead p : Int} {pb epb : Nat} {I P X Y : Nat → Int} {D : Nat → Dlv} {Lp : ML} {w0 : World}
    (ip : PIn h0 a2 n2 I P) (ie : UIn h0 a3 n3 X) (is : UIn h0 a4 n4 Y) (io : OIn h0 a5 n5 D) (hb2 : n2 ≤ 65536) (hb3 : n3 ≤ 65536) (hb4 : n4 ≤ 65536) (hb5 : n5 ≤ 65536)
    (low : Low h0.size h0 q) (mP : MapAt keyU q pb Lp) (mP' : MapAt keyU q epb Lp) (vP : Nums Lp) (hp : prio Lp id = .int .u64 p) (lenP : Lp.length ≤ 1048576) :
    V.Fin 531 w0 (CW Yba.prog (V.sub (Yba.f4.body.getD .skip) [1, 1, 1, 1, 1, 1, 1, 1]) (bodyPost Yba.prog Yba.f4 (PostR w0 (fun u h' => u = .bool true ∧ Low h0.size h0 h')))) ((29, .int .u64 p) :: envB a2 a3 a4 a5 n2 n3 n4 n5 c2 c3 c4 c5 id per miss hor now sq lead pb epb) q := by
  have hsz := low.size
  have plt := mP.lt
  have plt' := mP'.lt
  refine c_mid ((32, .map (some q.size)) :: (29, .int .u64 p) :: envB a2 a3 a4 a5 n2 n3 n4 n5 c2 c3 c4 c5 id per miss hor now sq lead pb epb) (fun x => New q x (.map #[] 0)) ?_ ?_
  · repeat (first | refine c_seq ?_ | refine c_region ?_ | refine c_block ?_ | refine c_skip ?_ | refine c_exit ?_ | refine c_ret ?_ | refine n_then ?_ | refine n_block ?_ | refine x_then ?_ | refine x_block_eq ?_ | refine x_block_ne rfl ?_ | refine r_then ?_ | refine r_block ?_ | refine s_nil ?_ | refine c_true rfl ?_ | refine c_false rfl ?_ | refine s_pur (p_move rfl) rfl ?_ | refine s_pur (p_assign rfl) rfl ?_ | refine s_pur (p_nil rfl) rfl ?_ | refine s_pur (p_pick_t rfl rfl) rfl ?_ | refine s_pur (p_pick_f rfl rfl) rfl ?_)
    refine s_eff e_makeMap rfl ?_
    rintro _ x ⟨rfl, nx⟩
    repeat (first | refine c_seq ?_ | refine c_region ?_ | refine c_block ?_ | refine c_skip ?_ | refine c_exit ?_ | refine c_ret ?_ | refine n_then ?_ | refine n_block ?_ | refine x_then ?_ | refine x_block_eq ?_ | refine x_block_ne rfl ?_ | refine r_then ?_ | refine r_block ?_ | refine s_nil ?_ | refine c_true rfl ?_ | refine c_false rfl ?_ | refine s_pur (p_move rfl) rfl ?_ | refine s_pur (p_assign rfl) rfl ?_ | refine s_pur (p_nil rfl) rfl ?_ | refine s_pur (p_pick_t rfl rfl) rfl ?_ | refine s_pur (p_pick_f rfl rfl) rfl ?_)
    exact m_done nx (by repeat (first | exact Sub.nil | refine Sub.cons rfl ?_))
  intro q1 n1
  have s1 := n1.size
  refine c_mid ((32, .map (some q.size)) :: (33, .map (some (q.size + 1))) :: (29, .int .u64 p) :: envB a2 a3 a4 a5 n2 n3 n4 n5 c2 c3 c4 c5 id per miss hor now sq lead pb epb) (fun x => New q1 x (.map #[] 0)) ?_ ?_
  · repeat (first | refine c_seq ?_ | refine c_region ?_ | refine c_block ?_ | refine c_skip ?_ | refine c_exit ?_ | refine c_ret ?_ | refine n_then ?_ | refine n_block ?_ | refine x_then ?_ | refine x_block_eq ?_ | refine x_block_ne rfl ?_ | refine r_then ?_ | refine r_block ?_ | refine s_nil ?_ | refine c_true rfl ?_ | refine c_false rfl ?_ | refine s_pur (p_move rfl) rfl ?_ | refine s_pur (p_assign rfl) rfl ?_ | refine s_pur (p_nil rfl) rfl ?_ | refine s_pur (p_pick_t rfl rfl) rfl ?_ | refine s_pur (p_pick_f rfl rfl) rfl ?_)
    refine s_eff e_makeMap rfl ?_
    rintro _ x ⟨rfl, nx⟩
    rw [s1]
    repeat (first | refine c_seq ?_ | refine c_region ?_ | refine c_block ?_ | refine c_skip ?_ | refine c_exit ?_ | refine c_ret ?_ | refine n_then ?_ | refine n_block ?_ | refine x_then ?_ | refine x_block_eq ?_ | refine x_block_ne rfl ?_ | refine r_then ?_ | refine r_block ?_ | refine s_nil ?_ | refine c_true rfl ?_ | refine c_false rfl ?_ | refine s_pur (p_move rfl) rfl ?_ | refine s_pur (p_assign rfl) rfl ?_ | refine s_pur (p_nil rfl) rfl ?_ | refine s_pur (p_pick_t rfl rfl) rfl ?_ | refine s_pur (p_pick_f rfl rfl) rfl ?_)
    exact m_done nx (by repeat (first | exact Sub.nil | refine Sub.cons rfl ?_))
  intro q2 n2'
  have s2 := n2'.size
  obtain ⟨i60, hi60, hz60, hs60, hb60⟩ := info60
  refine c_mid ((32, .map (some q.size)) :: (33, .map (some (q.size + 1))) :: (34, .slice (some ⟨q.size + 2, 0, none⟩) n3 n3) :: (29, .int .u64 p) :: envB a2 a3 a4 a5 n2 n3 n4 n5 c2 c3 c4 c5 id per miss hor now sq lead pb epb) (fun x => Kp q x ∧ q.size + 3 ≤ x.size ∧ MapAt keyU x q.size [] ∧ MapAt keyU x (q.size + 1) [] ∧ Blk x (q.size + 2) n3 60) ?_ ?_
  · repeat (first | refine c_seq ?_ | refine c_region ?_ | refine c_block ?_ | refine c_skip ?_ | refine c_exit ?_ | refine c_ret ?_ | refine n_then ?_ | refine n_block ?_ | refine x_then ?_ | refine x_block_eq ?_ | refine x_block_ne rfl ?_ | refine r_then ?_ | refine r_block ?_ | refine s_nil ?_ | refine c_true rfl ?_ | refine c_false rfl ?_ | refine s_pur (p_move rfl) rfl ?_ | refine s_pur (p_assign rfl) rfl ?_ | refine s_pur (p_nil rfl) rfl ?_ | refine s_pur (p_pick_t rfl rfl) rfl ?_ | refine s_pur (p_pick_f rfl rfl) rfl ?_ | refine s_pur (p_len rfl Yba.underlying52) rfl ?_)
    refine s_eff (e_make (n := n3) (c := n3) rfl rfl Yba.underlying59 hi60 hz60 (Nat.le_refl _) (by rw [hb60]; omega) (by omega)) rfl ?_
    rintro _ x ⟨rfl, nx⟩
    have sx := nx.size
    have e2 : Array.size q2 = q.size + 2 := by omega
    have ax := nx.at_
    rw [e2] at ax
    rw [e2]
    repeat (first | refine c_seq ?_ | refine c_region ?_ | refine c_block ?_ | refine c_skip ?_ | refine c_exit ?_ | refine c_ret ?_ | refine n_then ?_ | refine n_block ?_ | refine x_then ?_ | refine x_block_eq ?_ | refine x_block_ne rfl ?_ | refine r_then ?_ | refine r_block ?_ | refine s_nil ?_ | refine c_true rfl ?_ | refine c_false rfl ?_ | refine s_pur (p_move rfl) rfl ?_ | refine s_pur (p_assign rfl) rfl ?_ | refine s_pur (p_nil rfl) rfl ?_ | refine s_pur (p_pick_t rfl rfl) rfl ?_ | refine s_pur (p_pick_f rfl rfl) rfl ?_)
    refine m_done ⟨((Kp.of n1).trans (Kp.of n2')).trans (Kp.of nx), by omega, (((MapAt.new n1).keep (n2'.other _ (by omega))).keep (nx.other _ (by omega))), ?_, ⟨_, ax, by simp [madeCells, hs60]⟩⟩ (by repeat (first | exact Sub.nil | refine Sub.cons rfl ?_))
    have := (MapAt.new (mk := keyU) n2').keep (nx.other _ (by omega))
    rw [s1] at this
    exact this
  rintro q3 ⟨k3, s3, mN3, mE3, bp3⟩
  -- the nodes
  refine c_seq ?_
  repeat (first | refine c_seq ?_ | refine c_region ?_ | refine c_block ?_ | refine c_skip ?_ | refine c_exit ?_ | refine c_ret ?_ | refine n_then ?_ | refine n_block ?_ | refine x_then ?_ | refine x_block_eq ?_ | refine x_block_ne rfl ?_ | refine r_then ?_ | refine r_block ?_ | refine s_nil ?_ | refine c_true rfl ?_ | refine c_false rfl ?_ | refine s_pur (p_move rfl) rfl ?_ | refine s_pur (p_assign rfl) rfl ?_ | refine s_pur (p_nil rfl) rfl ?_ | refine s_pur (p_pick_t rfl rfl) rfl ?_ | refine s_pur (p_pick_f rfl rfl) rfl ?_ | refine s_pur (p_len rfl Yba.underlying52) rfl ?_)
  refine c_loop (fun x : Nat × ML => (133, .slice a3 n3 c3) :: (134, .int .i64 (n3 : Int)) :: (135, .int .i64 (x.1 : Int)) :: (32, .map (some q.size)) :: (33, .map (some (q.size + 1))) :: (34, .slice (some ⟨q.size + 2, 0, none⟩) n3 n3) :: (29, .int .u64 p) :: envB a2 a3 a4 a5 n2 n3 n4 n5 c2 c3 c4 c5 id per miss hor now sq lead pb epb)
    (fun x y => x.1 ≤ n3 ∧ Kp q y ∧ q.size + 3 ≤ y.size ∧ MapAt keyU y q.size x.2 ∧ MapAt keyU y (q.size + 1) x.2 ∧ Blk y (q.size + 2) n3 60 ∧ Ptrs x.2) (fun x => n3 - x.1) (0, []) ⟨Nat.zero_le _, k3, s3, mN3, mE3, bp3, Ptrs.nil⟩ (by repeat (first | exact Sub.nil | refine Sub.cons rfl ?_)) ?_
  rintro ⟨k, L⟩ y ⟨hk, ky, sy, mN, mE, bp, vN⟩
  simp only at hk mN mE vN
  refine cut ((133, .slice a3 n3 c3) :: (134, .int .i64 (n3 : Int)) :: (135, .int .i64 (k : Int)) :: (32, .map (some q.size)) :: (33, .map (some (q.size + 1))) :: (34, .slice (some ⟨q.size + 2, 0, none⟩) n3 n3) :: (29, .int .u64 p) :: envB a2 a3 a4 a5 n2 n3 n4 n5 c2 c3 c4 c5 id per miss hor now sq lead pb epb) Sub.refl ?_
  by_cases hlt : k < n3
  · obtain ⟨b, o, rfl, hcell⟩ := (ie.low (low.trans (ky.toLow hsz))) k hlt
    repeat (first | refine c_seq ?_ | refine c_region ?_ | refine c_block ?_ | refine c_skip ?_ | refine c_exit ?_ | refine c_ret ?_ | refine n_then ?_ | refine n_block ?_ | refine x_then ?_ | refine x_block_eq ?_ | refine x_block_ne rfl ?_ | refine r_then ?_ | refine r_block ?_ | refine s_nil ?_ | refine c_true rfl ?_ | refine c_false rfl ?_ | refine s_pur (p_move rfl) rfl ?_ | refine s_pur (p_assign rfl) rfl ?_ | refine s_pur (p_nil rfl) rfl ?_ | refine s_pur (p_pick_t rfl rfl) rfl ?_ | refine s_pur (p_pick_f rfl rfl) rfl ?_ | refine s_pur (p_len rfl Yba.underlying52) rfl ?_ | refine s_pur (p_idx1 rfl rfl rfl (by omega) Yba.underlying52 Yba.sizeOf50) rfl ?_ | refine s_pur (p_load rfl Yba.isAgg50 (by assumption)) rfl ?_ | refine s_pur (p_convU64 rfl Yba.underlying3 Yba.underlying50 (by omega) (by omega)) rfl ?_ | refine s_pur (p_build66h rfl) rfl ?_ | refine s_pur (p_lssT rfl rfl (by omega)) rfl ?_ | refine s_pur (p_lssF rfl rfl (by omega)) rfl ?_ | refine s_pur (p_leqT rfl rfl (by omega)) rfl ?_ | refine s_pur (p_leqF rfl rfl (by omega)) rfl ?_ | refine s_pur (p_gtrT rfl rfl (by omega)) rfl ?_ | refine s_pur (p_gtrF rfl rfl (by omega)) rfl ?_ | refine s_pur (p_geqT rfl rfl (by omega)) rfl ?_ | refine s_pur (p_geqF rfl rfl (by omega)) rfl ?_ | refine s_pur (p_eqlT rfl rfl (by omega)) rfl ?_ | refine s_pur (p_eqlF rfl rfl (by omega)) rfl ?_ | refine s_pur (p_neqT rfl rfl (by omega)) rfl ?_ | refine s_pur (p_neqF rfl rfl (by omega)) rfl ?_)
    refine s_eff (e_box rfl) rfl ?_
    rintro _ z ⟨rfl, nz⟩
    have sz := nz.size
    have bpz := bp.keep (nz.other _ bp.lt)
    repeat (first | refine c_seq ?_ | refine c_region ?_ | refine c_block ?_ | refine c_skip ?_ | refine c_exit ?_ | refine c_ret ?_ | refine n_then ?_ | refine n_block ?_ | refine x_then ?_ | refine x_block_eq ?_ | refine x_block_ne rfl ?_ | refine r_then ?_ | refine r_block ?_ | refine s_nil ?_ | refine c_true rfl ?_ | refine c_false rfl ?_ | refine s_pur (p_move rfl) rfl ?_ | refine s_pur (p_assign rfl) rfl ?_ | refine s_pur (p_nil rfl) rfl ?_ | refine s_pur (p_pick_t rfl rfl) rfl ?_ | refine s_pur (p_pick_f rfl rfl) rfl ?_ | refine s_pur (p_len rfl Yba.underlying59) rfl ?_ | refine s_pur (p_idx1 rfl rfl rfl (by omega) Yba.underlying59 Yba.sizeOf60) rfl ?_)
    refine s_eff0 (e_wr rfl rfl rfl Yba.sizeOf60 bpz (by omega)) ?_
    intro _ z1 w1
    have lptr : hc z1 (q.size + 2) (0 + k) = some (.pointer (some ⟨y.size, 0, none⟩)) := w1.at_
    have sz1 := w1.size
    have mN1 : MapAt keyU z1 q.size L := (mN.keep (nz.other _ (by omega))).keep (w1.other _ (by omega))
    repeat (first | refine c_seq ?_ | refine c_region ?_ | refine c_block ?_ | refine c_skip ?_ | refine c_exit ?_ | refine c_ret ?_ | refine n_then ?_ | refine n_block ?_ | refine x_then ?_ | refine x_block_eq ?_ | refine x_block_ne rfl ?_ | refine r_then ?_ | refine r_block ?_ | refine s_nil ?_ | refine c_true rfl ?_ | refine c_false rfl ?_ | refine s_pur (p_move rfl) rfl ?_ | refine s_pur (p_assign rfl) rfl ?_ | refine s_pur (p_nil rfl) rfl ?_ | refine s_pur (p_pick_t rfl rfl) rfl ?_ | refine s_pur (p_pick_f rfl rfl) rfl ?_ | refine s_pur (p_len rfl Yba.underlying59) rfl ?_ | refine s_pur (p_idx1 rfl rfl rfl (by omega) Yba.underlying59 Yba.sizeOf60) rfl ?_ | refine s_pur (p_load rfl Yba.isAgg60 lptr) rfl ?_)
    refine s_eff0 (e_mapUpd keyEnc50 (key := X k) rfl rfl rfl Yba.underlying58 mN1) ?_
    intro _ z2 u2
    have sz2 := u2.size
    have lptr2 : hc z2 (q.size + 2) (0 + k) = some (.pointer (some ⟨y.size, 0, none⟩)) := UpdM.cell u2 mN1 lptr
    have mE2 : MapAt keyU z2 (q.size + 1) L := ((mE.keep (nz.other _ (by omega))).keep (w1.other _ (by omega))).keep (u2.other _ (by omega))
    repeat (first | refine c_seq ?_ | refine c_region ?_ | refine c_block ?_ | refine c_skip ?_ | refine c_exit ?_ | refine c_ret ?_ | refine n_then ?_ | refine n_block ?_ | refine x_then ?_ | refine x_block_eq ?_ | refine x_block_ne rfl ?_ | refine r_then ?_ | refine r_block ?_ | refine s_nil ?_ | refine c_true rfl ?_ | refine c_false rfl ?_ | refine s_pur (p_move rfl) rfl ?_ | refine s_pur (p_assign rfl) rfl ?_ | refine s_pur (p_nil rfl) rfl ?_ | refine s_pur (p_pick_t rfl rfl) rfl ?_ | refine s_pur (p_pick_f rfl rfl) rfl ?_ | refine s_pur (p_len rfl Yba.underlying59) rfl ?_ | refine s_pur (p_idx1 rfl rfl rfl (by omega) Yba.underlying59 Yba.sizeOf60) rfl ?_ | refine s_pur (p_load rfl Yba.isAgg60 lptr2) rfl ?_)
    refine s_eff0 (e_mapUpd keyEnc50 (key := X k) rfl rfl rfl Yba.underlying57 mE2) ?_
    intro _ z3 u3
    have sz3 := u3.size
    repeat (first | refine c_seq ?_ | refine c_region ?_ | refine c_block ?_ | refine c_skip ?_ | refine c_exit ?_ | refine c_ret ?_ | refine n_then ?_ | refine n_block ?_ | refine x_then ?_ | refine x_block_eq ?_ | refine x_block_ne rfl ?_ | refine r_then ?_ | refine r_block ?_ | refine s_nil ?_ | refine c_true rfl ?_ | refine c_false rfl ?_ | refine s_pur (p_move rfl) rfl ?_ | refine s_pur (p_assign rfl) rfl ?_ | refine s_pur (p_nil rfl) rfl ?_ | refine s_pur (p_pick_t rfl rfl) rfl ?_ | refine s_pur (p_pick_f rfl rfl) rfl ?_ | refine s_pur (p_add rfl rfl rfl (by omega) (by omega)) rfl ?_)
    exact c_next (k + 1, putM L (X k) (.pointer (some ⟨y.size, 0, none⟩))) ⟨hlt, ⟨by omega, fun j hj => by rw [u3.other j (by omega), u2.other j (by omega), w1.other j (by omega), nz.other j (by have := ky.size; omega), ky.same j hj]⟩, by omega, u2.at_.keep (u3.other _ (by omega)), u3.at_, ((w1.blk _ _ _ bpz).keep (u2.other _ (by omega))).keep (u3.other _ (by omega)), vN.put _ _⟩ (by repeat (first | exact Sub.nil | refine Sub.cons rfl ?_)) (by simp only; omega)
  -- behind that loop
  refine c_seq ?_
  repeat (first | refine c_region ?_ | refine c_block ?_ | refine c_skip ?_ | refine c_exit ?_ | refine c_ret ?_ | refine n_then ?_ | refine n_block ?_ | refine x_then ?_ | refine x_block_eq ?_ | refine x_block_ne rfl ?_ | refine r_then ?_ | refine r_block ?_ | refine s_nil ?_ | refine c_true rfl ?_ | refine c_false rfl ?_ | refine s_pur (p_move rfl) rfl ?_ | refine s_pur (p_assign rfl) rfl ?_ | refine s_pur (p_nil rfl) rfl ?_ | refine s_pur (p_pick_t rfl rfl) rfl ?_ | refine s_pur (p_pick_f rfl rfl) rfl ?_ | refine s_pur (p_lssT rfl rfl (by omega)) rfl ?_ | refine s_pur (p_lssF rfl rfl (by omega)) rfl ?_ | refine s_pur (p_leqT rfl rfl (by omega)) rfl ?_ | refine s_pur (p_leqF rfl rfl (by omega)) rfl ?_ | refine s_pur (p_gtrT rfl rfl (by omega)) rfl ?_ | refine s_pur (p_gtrF rfl rfl (by omega)) rfl ?_ | refine s_pur (p_geqT rfl rfl (by omega)) rfl ?_ | refine s_pur (p_geqF rfl rfl (by omega)) rfl ?_ | refine s_pur (p_eqlT rfl rfl (by omega)) rfl ?_ | refine s_pur (p_eqlF rfl rfl (by omega)) rfl ?_ | refine s_pur (p_neqT rfl rfl (by omega)) rfl ?_ | refine s_pur (p_neqF rfl rfl (by omega)) rfl ?_)
  refine c_seq ?_
  repeat (first | refine c_region ?_ | refine c_block ?_ | refine c_skip ?_ | refine c_exit ?_ | refine c_ret ?_ | refine n_then ?_ | refine n_block ?_ | refine x_then ?_ | refine x_block_eq ?_ | refine x_block_ne rfl ?_ | refine r_then ?_ | refine r_block ?_ | refine s_nil ?_ | refine c_true rfl ?_ | refine c_false rfl ?_ | refine s_pur (p_move rfl) rfl ?_ | refine s_pur (p_assign rfl) rfl ?_ | refine s_pur (p_nil rfl) rfl ?_ | refine s_pur (p_pick_t rfl rfl) rfl ?_ | refine s_pur (p_pick_f rfl rfl) rfl ?_)
  refine cut ((32, .map (some q.size)) :: (33, .map (some (q.size + 1))) :: (29, .int .u64 p) :: envB a2 a3 a4 a5 n2 n3 n4 n5 c2 c3 c4 c5 id per miss hor now sq lead pb epb) (by repeat (first | exact Sub.nil | refine Sub.cons rfl ?_)) ?_
  refine c_mid ((32, .map (some q.size)) :: (33, .map (some (q.size + 1))) :: (29, .int .u64 p) :: envB a2 a3 a4 a5 n2 n3 n4 n5 c2 c3 c4 c5 id per miss hor now sq lead pb epb) (fun x => UpdM keyU y x (q.size + 1) (putM L id (.pointer none))) ?_ ?_
  · repeat (first | refine c_seq ?_ | refine c_region ?_ | refine c_block ?_ | refine c_skip ?_ | refine c_exit ?_ | refine c_ret ?_ | refine n_then ?_ | refine n_block ?_ | refine x_then ?_ | refine x_block_eq ?_ | refine x_block_ne rfl ?_ | refine r_then ?_ | refine r_block ?_ | refine s_nil ?_ | refine c_true rfl ?_ | refine c_false rfl ?_ | refine s_pur (p_move rfl) rfl ?_ | refine s_pur (p_assign rfl) rfl ?_ | refine s_pur (p_nil rfl) rfl ?_ | refine s_pur (p_pick_t rfl rfl) rfl ?_ | refine s_pur (p_pick_f rfl rfl) rfl ?_)
    refine s_eff0 (e_mapUpd keyEnc50 (key := id) rfl rfl rfl Yba.underlying57 mE) ?_
    intro _ x ux
    repeat (first | refine c_seq ?_ | refine c_region ?_ | refine c_block ?_ | refine c_skip ?_ | refine c_exit ?_ | refine c_ret ?_ | refine n_then ?_ | refine n_block ?_ | refine x_then ?_ | refine x_block_eq ?_ | refine x_block_ne rfl ?_ | refine r_then ?_ | refine r_block ?_ | refine s_nil ?_ | refine c_true rfl ?_ | refine c_false rfl ?_ | refine s_pur (p_move rfl) rfl ?_ | refine s_pur (p_assign rfl) rfl ?_ | refine s_pur (p_nil rfl) rfl ?_ | refine s_pur (p_pick_t rfl rfl) rfl ?_ | refine s_pur (p_pick_f rfl rfl) rfl ?_)
    exact m_done ux (by repeat (first | exact Sub.nil | refine Sub.cons rfl ?_))
  intro z uz
  have sz := uz.size
  have kz : Kp q z := ⟨by omega, fun j hj => by rw [uz.other j (by omega), ky.same j hj]⟩
  have mNz : MapAt keyU z q.size L := mN.keep (uz.other _ (by omega))
  refine c_mid ((32, .map (some q.size)) :: (33, .map (some (q.size + 1))) :: (37, .map (some z.size)) :: (29, .int .u64 p) :: envB a2 a3 a4 a5 n2 n3 n4 n5 c2 c3 c4 c5 id per miss hor now sq lead pb epb) (fun x => New z x (.map #[] 0)) ?_ ?_
  · repeat (first | refine c_seq ?_ | refine c_region ?_ | refine c_block ?_ | refine c_skip ?_ | refine c_exit ?_ | refine c_ret ?_ | refine n_then ?_ | refine n_block ?_ | refine x_then ?_ | refine x_block_eq ?_ | refine x_block_ne rfl ?_ | refine r_then ?_ | refine r_block ?_ | refine s_nil ?_ | refine c_true rfl ?_ | refine c_false rfl ?_ | refine s_pur (p_move rfl) rfl ?_ | refine s_pur (p_assign rfl) rfl ?_ | refine s_pur (p_nil rfl) rfl ?_ | refine s_pur (p_pick_t rfl rfl) rfl ?_ | refine s_pur (p_pick_f rfl rfl) rfl ?_)
    refine s_eff e_makeMap rfl ?_
    rintro _ x ⟨rfl, nx⟩
    repeat (first | refine c_seq ?_ | refine c_region ?_ | refine c_block ?_ | refine c_skip ?_ | refine c_exit ?_ | refine c_ret ?_ | refine n_then ?_ | refine n_block ?_ | refine x_then ?_ | refine x_block_eq ?_ | refine x_block_ne rfl ?_ | refine r_then ?_ | refine r_block ?_ | refine s_nil ?_ | refine c_true rfl ?_ | refine c_false rfl ?_ | refine s_pur (p_move rfl) rfl ?_ | refine s_pur (p_assign rfl) rfl ?_ | refine s_pur (p_nil rfl) rfl ?_ | refine s_pur (p_pick_t rfl rfl) rfl ?_ | refine s_pur (p_pick_f rfl rfl) rfl ?_)
    exact m_done nx (by repeat (first | exact Sub.nil | refine Sub.cons rfl ?_))
  intro z1 m1
  have sz1 := m1.size
  refine c_mid ((32, .map (some q.size)) :: (33, .map (some (q.size + 1))) :: (37, .map (some z.size)) :: (38, .map (some (z.size + 1))) :: (29, .int .u64 p) :: envB a2 a3 a4 a5 n2 n3 n4 n5 c2 c3 c4 c5 id per miss hor now sq lead pb epb) (fun x => New z1 x (.map #[] 0)) ?_ ?_
  · repeat (first | refine c_seq ?_ | refine c_region ?_ | refine c_block ?_ | refine c_skip ?_ | refine c_exit ?_ | refine c_ret ?_ | refine n_then ?_ | refine n_block ?_ | refine x_then ?_ | refine x_block_eq ?_ | refine x_block_ne rfl ?_ | refine r_then ?_ | refine r_block ?_ | refine s_nil ?_ | refine c_true rfl ?_ | refine c_false rfl ?_ | refine s_pur (p_move rfl) rfl ?_ | refine s_pur (p_assign rfl) rfl ?_ | refine s_pur (p_nil rfl) rfl ?_ | refine s_pur (p_pick_t rfl rfl) rfl ?_ | refine s_pur (p_pick_f rfl rfl) rfl ?_)
    refine s_eff e_makeMap rfl ?_
    rintro _ x ⟨rfl, nx⟩
    rw [sz1]
    repeat (first | refine c_seq ?_ | refine c_region ?_ | refine c_block ?_ | refine c_skip ?_ | refine c_exit ?_ | refine c_ret ?_ | refine n_then ?_ | refine n_block ?_ | refine x_then ?_ | refine x_block_eq ?_ | refine x_block_ne rfl ?_ | refine r_then ?_ | refine r_block ?_ | refine s_nil ?_ | refine c_true rfl ?_ | refine c_false rfl ?_ | refine s_pur (p_move rfl) rfl ?_ | refine s_pur (p_assign rfl) rfl ?_ | refine s_pur (p_nil rfl) rfl ?_ | refine s_pur (p_pick_t rfl rfl) rfl ?_ | refine s_pur (p_pick_f rfl rfl) rfl ?_)
    exact m_done nx (by repeat (first | exact Sub.nil | refine Sub.cons rfl ?_))
  intro z2 m2
  have sz2 := m2.size
  have kz2 : Kp z z2 := (Kp.of m1).trans (Kp.of m2)
  have mw2 : MapAt keyU z2 z.size [] := (MapAt.new m1).keep (m2.other _ (by omega))
  have me2 : MapAt keyU z2 (z.size + 1) [] := by
    have := MapAt.new (mk := keyU) m2
    rw [sz1] at this
    exact this
  -- the wakes' numbers
  refine c_seq ?_
  repeat (first | refine c_seq ?_ | refine c_region ?_ | refine c_block ?_ | refine c_skip ?_ | refine c_exit ?_ | refine c_ret ?_ | refine n_then ?_ | refine n_block ?_ | refine x_then ?_ | refine x_block_eq ?_ | refine x_block_ne rfl ?_ | refine r_then ?_ | refine r_block ?_ | refine s_nil ?_ | refine c_true rfl ?_ | refine c_false rfl ?_ | refine s_pur (p_move rfl) rfl ?_ | refine s_pur (p_assign rfl) rfl ?_ | refine s_pur (p_nil rfl) rfl ?_ | refine s_pur (p_pick_t rfl rfl) rfl ?_ | refine s_pur (p_pick_f rfl rfl) rfl ?_ | refine s_pur (p_len rfl Yba.underlying52) rfl ?_)
  refine c_loop (fun x : Nat × ML => (164, .slice a4 n4 c4) :: (165, .int .i64 (n4 : Int)) :: (166, .int .i64 (x.1 : Int)) :: (32, .map (some q.size)) :: (33, .map (some (q.size + 1))) :: (37, .map (some z.size)) :: (38, .map (some (z.size + 1))) :: (29, .int .u64 p) :: envB a2 a3 a4 a5 n2 n3 n4 n5 c2 c3 c4 c5 id per miss hor now sq lead pb epb)
    (fun x y => x.1 ≤ n4 ∧ Kp z y ∧ z.size + 2 ≤ y.size ∧ MapAt keyU y z.size x.2 ∧ MapAt keyU y (z.size + 1) x.2 ∧ Nums x.2) (fun x => n4 - x.1) (0, []) ⟨Nat.zero_le _, kz2, by omega, mw2, me2, Nums.nil⟩ (by repeat (first | exact Sub.nil | refine Sub.cons rfl ?_)) ?_
  rintro ⟨j, Lw⟩ u ⟨hj, ku, su, mW, mW', vW⟩
  simp only at hj mW mW' vW
  refine cut ((164, .slice a4 n4 c4) :: (165, .int .i64 (n4 : Int)) :: (166, .int .i64 (j : Int)) :: (32, .map (some q.size)) :: (33, .map (some (q.size + 1))) :: (37, .map (some z.size)) :: (38, .map (some (z.size + 1))) :: (29, .int .u64 p) :: envB a2 a3 a4 a5 n2 n3 n4 n5 c2 c3 c4 c5 id per miss hor now sq lead pb epb) Sub.refl ?_
  have lowu : Low h0.size h0 u := low.trans ((kz.trans ku).toLow hsz)
  by_cases hltj : j < n4
  · obtain ⟨b, o, rfl, hcell⟩ := (is.low lowu) j hltj
    repeat (first | refine c_seq ?_ | refine c_region ?_ | refine c_block ?_ | refine c_skip ?_ | refine c_exit ?_ | refine c_ret ?_ | refine n_then ?_ | refine n_block ?_ | refine x_then ?_ | refine x_block_eq ?_ | refine x_block_ne rfl ?_ | refine r_then ?_ | refine r_block ?_ | refine s_nil ?_ | refine c_true rfl ?_ | refine c_false rfl ?_ | refine s_pur (p_move rfl) rfl ?_ | refine s_pur (p_assign rfl) rfl ?_ | refine s_pur (p_nil rfl) rfl ?_ | refine s_pur (p_pick_t rfl rfl) rfl ?_ | refine s_pur (p_pick_f rfl rfl) rfl ?_ | refine s_pur (p_len rfl Yba.underlying52) rfl ?_ | refine s_pur (p_idx1 rfl rfl rfl (by omega) Yba.underlying52 Yba.sizeOf50) rfl ?_ | refine s_pur (p_load rfl Yba.isAgg50 (by assumption)) rfl ?_ | refine s_pur (p_convU64 rfl Yba.underlying3 Yba.underlying50 (by omega) (by omega)) rfl ?_ | refine s_pur (p_lssT rfl rfl (by omega)) rfl ?_ | refine s_pur (p_lssF rfl rfl (by omega)) rfl ?_ | refine s_pur (p_leqT rfl rfl (by omega)) rfl ?_ | refine s_pur (p_leqF rfl rfl (by omega)) rfl ?_ | refine s_pur (p_gtrT rfl rfl (by omega)) rfl ?_ | refine s_pur (p_gtrF rfl rfl (by omega)) rfl ?_ | refine s_pur (p_geqT rfl rfl (by omega)) rfl ?_ | refine s_pur (p_geqF rfl rfl (by omega)) rfl ?_ | refine s_pur (p_eqlT rfl rfl (by omega)) rfl ?_ | refine s_pur (p_eqlF rfl rfl (by omega)) rfl ?_ | refine s_pur (p_neqT rfl rfl (by omega)) rfl ?_ | refine s_pur (p_neqF rfl rfl (by omega)) rfl ?_)
    refine s_eff0 (e_mapUpd keyEnc50 (key := Y j) rfl rfl rfl Yba.underlying56 mW) ?_
    intro _ u1 v1
    have mE1 : MapAt keyU u1 (z.size + 1) Lw := mW'.keep (v1.other _ (by omega))
    repeat (first | refine c_seq ?_ | refine c_region ?_ | refine c_block ?_ | refine c_skip ?_ | refine c_exit ?_ | refine c_ret ?_ | refine n_then ?_ | refine n_block ?_ | refine x_then ?_ | refine x_block_eq ?_ | refine x_block_ne rfl ?_ | refine r_then ?_ | refine r_block ?_ | refine s_nil ?_ | refine c_true rfl ?_ | refine c_false rfl ?_ | refine s_pur (p_move rfl) rfl ?_ | refine s_pur (p_assign rfl) rfl ?_ | refine s_pur (p_nil rfl) rfl ?_ | refine s_pur (p_pick_t rfl rfl) rfl ?_ | refine s_pur (p_pick_f rfl rfl) rfl ?_ | refine s_pur (p_convU64 rfl Yba.underlying3 Yba.underlying50 (by omega) (by omega)) rfl ?_)
    refine s_eff0 (e_mapUpd keyEnc50 (key := Y j) rfl rfl rfl Yba.underlying56 mE1) ?_
    intro _ u2 v2
    have e1 := v1.size
    have e2 := v2.size
    repeat (first | refine c_seq ?_ | refine c_region ?_ | refine c_block ?_ | refine c_skip ?_ | refine c_exit ?_ | refine c_ret ?_ | refine n_then ?_ | refine n_block ?_ | refine x_then ?_ | refine x_block_eq ?_ | refine x_block_ne rfl ?_ | refine r_then ?_ | refine r_block ?_ | refine s_nil ?_ | refine c_true rfl ?_ | refine c_false rfl ?_ | refine s_pur (p_move rfl) rfl ?_ | refine s_pur (p_assign rfl) rfl ?_ | refine s_pur (p_nil rfl) rfl ?_ | refine s_pur (p_pick_t rfl rfl) rfl ?_ | refine s_pur (p_pick_f rfl rfl) rfl ?_ | refine s_pur (p_add rfl rfl rfl (by omega) (by omega)) rfl ?_)
    exact c_next (j + 1, putM Lw (Y j) (.int .u64 (j : Int))) ⟨hltj, ⟨by omega, fun t ht => by rw [v2.other t (by omega), v1.other t (by omega), ku.same t ht]⟩, by omega, v1.at_.keep (v2.other _ (by omega)), v2.at_, vW.put _ _⟩ (by repeat (first | exact Sub.nil | refine Sub.cons rfl ?_)) (by simp only; omega)
  refine c_seq ?_
  repeat (first | refine c_region ?_ | refine c_block ?_ | refine c_skip ?_ | refine c_exit ?_ | refine c_ret ?_ | refine n_then ?_ | refine n_block ?_ | refine x_then ?_ | refine x_block_eq ?_ | refine x_block_ne rfl ?_ | refine r_then ?_ | refine r_block ?_ | refine s_nil ?_ | refine c_true rfl ?_ | refine c_false rfl ?_ | refine s_pur (p_move rfl) rfl ?_ | refine s_pur (p_assign rfl) rfl ?_ | refine s_pur (p_nil rfl) rfl ?_ | refine s_pur (p_pick_t rfl rfl) rfl ?_ | refine s_pur (p_pick_f rfl rfl) rfl ?_ | refine s_pur (p_lssT rfl rfl (by omega)) rfl ?_ | refine s_pur (p_lssF rfl rfl (by omega)) rfl ?_ | refine s_pur (p_leqT rfl rfl (by omega)) rfl ?_ | refine s_pur (p_leqF rfl rfl (by omega)) rfl ?_ | refine s_pur (p_gtrT rfl rfl (by omega)) rfl ?_ | refine s_pur (p_gtrF rfl rfl (by omega)) rfl ?_ | refine s_pur (p_geqT rfl rfl (by omega)) rfl ?_ | refine s_pur (p_geqF rfl rfl (by omega)) rfl ?_ | refine s_pur (p_eqlT rfl rfl (by omega)) rfl ?_ | refine s_pur (p_eqlF rfl rfl (by omega)) rfl ?_ | refine s_pur (p_neqT rfl rfl (by omega)) rfl ?_ | refine s_pur (p_neqF rfl rfl (by omega)) rfl ?_)
  refine c_seq ?_
  repeat (first | refine c_region ?_ | refine c_block ?_ | refine c_skip ?_ | refine c_exit ?_ | refine c_ret ?_ | refine n_then ?_ | refine n_block ?_ | refine x_then ?_ | refine x_block_eq ?_ | refine x_block_ne rfl ?_ | refine r_then ?_ | refine r_block ?_ | refine s_nil ?_ | refine c_true rfl ?_ | refine c_false rfl ?_ | refine s_pur (p_move rfl) rfl ?_ | refine s_pur (p_assign rfl) rfl ?_ | refine s_pur (p_nil rfl) rfl ?_ | refine s_pur (p_pick_t rfl rfl) rfl ?_ | refine s_pur (p_pick_f rfl rfl) rfl ?_)
  refine cut ((5, .slice a5 n5 c5) :: envA a2 a3 a4 n2 n3 n4 c2 c3 c4 id per miss hor now sq lead p pb epb q.size (q.size + 1) z.size (z.size + 1)) (by repeat (first | exact Sub.nil | refine Sub.cons rfl ?_)) ?_
  refine lawA (Lp := Lp) (Ln := L) (Lw := Lw) ip ie is io hb2 hb3 hb4 hb5 ?_
  have kqu := kz.trans ku
  exact ⟨lowu, mP.kp kqu, mP'.kp kqu, mNz.keep (ku.same _ (by omega)), uz.at_.keep (ku.same _ (by omega)), mW, mW', by omega, by omega, vP, vN, vW, hp, lenP⟩
end Go.Proofs.Ybulkdiqq
