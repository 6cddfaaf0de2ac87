/-
  C7: (*Cache).add.
-/
import Derived.Test.YbulkdireC7p
namespace Go.Proofs.Ybulkdire
set_option linter.unusedSimpArgs false
set_option linter.unusedVariables false
set_option linter.unnecessarySimpa false
open Go Go.RowKit V
set_option maxRecDepth 100000

theorem p_pnneq {P : Program} {l : Env} {h : Heap} {ty : TypeId} {x y : Operand} {t t2 e : TypeId} {a : Option Addr} (hx : ev l x = some (.pointer a)) (hy : ev l y = some (.pointer none)) (hu : P.underlying t = some (.pointer e)) :
    Pur P (.binOp .neq t x y t2) ty l h (.bool (!a.isNone)) := by
  refine ⟨fun ρ w d p af g hρ hw => ?_⟩
  have he : (Op.equal t (.pointer a) (.pointer none)).run P w = .ok a.isNone w := run_equal fun d => by
    cases a <;> simp [Op.equalIn, run_underlying hu]
  simp [execOp, hρ _ _ hx, hρ _ _ hy, eqGuard, binOp, he]
theorem p_build52 {l : Env} {h : Heap} {ty : TypeId} {x y : Operand} {a b : Int} {s : Option Addr} {n c : Nat} (h0 : ev l x = some (.agg [.int .u64 a, .int .i64 b].toArray)) (h1 : ev l y = some (.slice s n c)) :
    Pur Yba.prog (.build 52 #[(0, x), (1, y)]) ty l h (.agg [.int .u64 a, .int .i64 b, .slice s n c, .pointer none, .pointer none].toArray) := by
  refine ⟨fun ρ w d p af g hρ hw => ?_⟩
  simp only [execOp, Instr.build, List.map_toArray, List.map_cons, List.map_nil, hρ _ _ h0, hρ _ _ h1]
  simp [Yba.zeroValue52, run_underlying Yba.underlying52, Array.mapM_eq_mapM_toList, List.mapM_cons, Yba.sizeOf39, Yba.sizeOf25, Instr.fill, Value.cells]

section
variable (h : Heap) (base cb sb mb cap n len bb : Nat) (E : Nat → Ent) (id off : Int)
/-- What add leaves. -/
def AddRes (u : Value) (h' : Heap) : Prop := u = .tuple #[] ∧ Frm base h h' ∧
  (((cap < len ∨ ∃ i, i < n ∧ (E i).key = (id, off)) ∧ Full h' base cb sb mb cap n E) ∨
   (len ≤ cap ∧ (∀ i, i < n → (E i).key ≠ (id, off)) ∧ ∃ nb, Full h' base cb sb mb cap (evict cap len E n + 1) (cns ⟨id, off, bb, len, nb⟩ E)))

def lkd (sb : Nat) : Nt := ⟨104, [⟨.fn (.func 11) #[], #[.pointer (some ⟨sb, 0, none⟩)]⟩]⟩

set_option maxHeartbeats 8000000 in
/-- Behind the loop. -/
theorem addTail {q : Heap} {kb : Nat} {m : Nat} {w0 : World} (fq : Frm base h q) (hkb : q[kb]? = some (.cells [.int .u64 id, .int .i64 off].toArray 39 (0, 0))) (L : List ((Int × Int) × Value)) (c : Cch q base cb sb mb cap 1 (sumL m E) L m E) (ml : MapOf L m E)
    (hby : Byt q bb len) (hlen : len ≤ cap) (hroom : sumL m E + len ≤ cap) (hm : m = evict cap len E n) (hmn : m ≤ n) (hno : ∀ i, i < n → (E i).key ≠ (id, off)) (hcap : cap < 1000) (hbase : base ≤ q.size) :
    V.Fin (lkd sb) w0 (CW Yba.prog (V.sub (Yba.f6.body.getD .skip) [1, 1, 1, 1, 1, 1, 1]) (bodyPostD Yba.prog Yba.f6 (PostR w0 (AddRes h base cb sb mb cap n len bb E id off)))) [(3, .slice (some ⟨bb, 0, none⟩) len len), (8, .pointer (some ⟨kb, 0, none⟩)), (9, .int .i64 len), (10, .pointer (some ⟨sb, 0, none⟩))] q := by
  have ld : ∀ x : Heap, x[kb]? = some (.cells [.int .u64 id, .int .i64 off].toArray 39 (0, 0)) → ∀ j, j < 2 → hc x kb (0 + j) = ([.int .u64 id, .int .i64 off] : List Value)[j]? := fun x hx j hj => by rw [hc_of hx, Nat.zero_add]; simp
  have hno' : ∀ i, i < m → (E i).key ≠ (id, off) := fun i hi => hno i (by omega)
  let x : Ent := ⟨id, off, bb, len, q.size⟩
  refine c_mid [(8, .pointer (some ⟨kb, 0, none⟩)), (9, .int .i64 len), (10, .pointer (some ⟨sb, 0, none⟩)), (12, .pointer (some ⟨q.size, 0, none⟩))] (fun y => Kp q y ∧ Nd y base x) ?_ ?_
  · have ld0 := ld q hkb
    repeat (first | refine c_seq ?_ | refine c_region ?_ | refine c_block ?_ | refine c_skip ?_ | refine c_exit ?_ | refine c_ret ?_ | refine n_then ?_ | refine n_block ?_ | refine x_then ?_ | refine x_block_eq ?_ | refine x_block_ne rfl ?_ | refine r_then ?_ | refine r_block ?_ | refine s_nil ?_ | refine c_true rfl ?_ | refine c_false rfl ?_ | refine s_pur (p_move rfl) rfl ?_ | refine s_pur (p_assign rfl) rfl ?_ | refine s_pur (p_nil rfl) rfl ?_ | refine s_pur (p_pick_t rfl rfl) rfl ?_ | refine s_pur (p_pick_f rfl rfl) rfl ?_ | refine s_pur (p_loadA (vs := [.int .u64 id, .int .i64 off]) rfl Yba.isAgg39 Yba.sizeOf39 rfl ld0) rfl ?_ | refine s_pur (p_build52 rfl rfl) rfl ?_)
    refine s_eff (e_box rfl) rfl ?_
    rintro _ y ⟨rfl, ny⟩
    repeat (first | refine c_seq ?_ | refine c_region ?_ | refine c_block ?_ | refine c_skip ?_ | refine c_exit ?_ | refine c_ret ?_ | refine n_then ?_ | refine n_block ?_ | refine x_then ?_ | refine x_block_eq ?_ | refine x_block_ne rfl ?_ | refine r_then ?_ | refine r_block ?_ | refine s_nil ?_ | refine c_true rfl ?_ | refine c_false rfl ?_ | refine s_pur (p_move rfl) rfl ?_ | refine s_pur (p_assign rfl) rfl ?_ | refine s_pur (p_nil rfl) rfl ?_ | refine s_pur (p_pick_t rfl rfl) rfl ?_ | refine s_pur (p_pick_f rfl rfl) rfl ?_)
    have hy : y[q.size]? = some (.cells #[.int .u64 id, .int .i64 off, .slice (some ⟨bb, 0, none⟩) len len, .pointer none, .pointer none] 52 (0, 0)) := ny.at_
    refine m_done ⟨Kp.of ny, ⟨⟨_, hy, rfl⟩, ?_, ?_, ?_, hby.kp (Kp.of ny), hbase⟩⟩ (by repeat (first | exact Sub.nil | refine Sub.cons rfl ?_))
    · show hc y q.size 0 = _; rw [hc_of hy]; rfl
    · show hc y q.size 1 = _; rw [hc_of hy]; rfl
    · show hc y q.size 2 = _; rw [hc_of hy]; rfl
  rintro y ⟨kpy, ndy⟩
  have cy := c.kp kpy
  have hkb1 : y[kb]? = some (.cells [.int .u64 id, .int .i64 off].toArray 39 (0, 0)) := by rw [kpy.same kb (lt_of_get hkb)]; exact hkb
  have ld1 := ld y hkb1
  have mp1 : hc y sb (0 + 4) = some (.map (some mb)) := cy.sh.mpc
  refine c_mid [(9, .int .i64 len), (10, .pointer (some ⟨sb, 0, none⟩)), (12, .pointer (some ⟨q.size, 0, none⟩))] (fun z => UpdM keyV y z mb (putM L x.key (ptr (x.nb, 0)))) ?_ ?_
  · refine c_held followsM rfl ?_
    refine h_any 0 rfl (by kernel_rfl) rfl (fun _ => p_move rfl) rfl ?_
    refine h_any 1 rfl (by kernel_rfl) rfl (fun _ => p_nil rfl) rfl ?_
    refine h_any 2 rfl (by kernel_rfl) rfl (fun _ => p_fld (off := 4) rfl Yba.underlying54 rfl Yba.sizeOf49 rfl) rfl ?_
    refine h_any 5 rfl (by kernel_rfl) rfl (fun _ => p_move rfl) rfl ?_
    refine h_take 3 rfl (by kernel_rfl) rfl (p_load rfl Yba.isAgg49 mp1) rfl ?_
    refine h_take 4 rfl (by kernel_rfl) rfl (p_loadA (vs := [.int .u64 id, .int .i64 off]) rfl Yba.isAgg39 Yba.sizeOf39 rfl ld1) rfl ?_
    refine h_eff0 6 rfl (by kernel_rfl) rfl (e_mapUpd keyEnc (key := (id, off)) rfl rfl rfl Yba.underlying49 cy.sh.mp) ?_
    intro _ z uz
    refine h_done (by kernel_rfl) ?_
    repeat (first | refine c_seq ?_ | refine c_region ?_ | refine c_block ?_ | refine c_skip ?_ | refine c_exit ?_ | refine c_ret ?_ | refine n_then ?_ | refine n_block ?_ | refine x_then ?_ | refine x_block_eq ?_ | refine x_block_ne rfl ?_ | refine r_then ?_ | refine r_block ?_ | refine s_nil ?_ | refine c_true rfl ?_ | refine c_false rfl ?_ | refine s_pur (p_move rfl) rfl ?_ | refine s_pur (p_assign rfl) rfl ?_ | refine s_pur (p_nil rfl) rfl ?_ | refine s_pur (p_pick_t rfl rfl) rfl ?_ | refine s_pur (p_pick_f rfl rfl) rfl ?_)
    exact m_done uz (by repeat (first | exact Sub.nil | refine Sub.cons rfl ?_))
  intro z uz
  have cz := cy.updM uz
  have ndz := ndy.updM cy.sh uz
  have mz : MapOf (putM L x.key (ptr (x.nb, 0))) (m + 1) (cns x E) := mapOf_put ml hno'
  have sz3 : hc z sb (0 + 3) = some (.int .i64 (sumL m E : Nat)) := cz.sh.siz
  refine c_mid [(10, .pointer (some ⟨sb, 0, none⟩)), (12, .pointer (some ⟨q.size, 0, none⟩))] (fun a => Wr z a sb 3 (.int .i64 (sumL (m + 1) (cns x E) : Nat))) ?_ ?_
  · repeat (first | refine c_seq ?_ | refine c_region ?_ | refine c_block ?_ | refine c_skip ?_ | refine c_exit ?_ | refine c_ret ?_ | refine n_then ?_ | refine n_block ?_ | refine x_then ?_ | refine x_block_eq ?_ | refine x_block_ne rfl ?_ | refine r_then ?_ | refine r_block ?_ | refine s_nil ?_ | refine c_true rfl ?_ | refine c_false rfl ?_ | refine s_pur (p_move rfl) rfl ?_ | refine s_pur (p_assign rfl) rfl ?_ | refine s_pur (p_nil rfl) rfl ?_ | refine s_pur (p_pick_t rfl rfl) rfl ?_ | refine s_pur (p_pick_f rfl rfl) rfl ?_ | refine s_pur (p_fld (off := 3) rfl Yba.underlying54 rfl Yba.sizeOf2 rfl) rfl ?_ | refine s_pur (p_load rfl Yba.isAgg2 (by assumption)) rfl ?_ | refine s_pur (p_add (c := ((sumL (m + 1) (cns x E) : Nat) : Int)) rfl rfl (by rw [sumL_cns]; show (sumL m E : Int) + (len : Int) = _; simp only [x]; omega) (by omega) (by rw [sumL_cns]; simp only [x]; omega)) rfl ?_)
    refine s_eff0 (e_wr rfl rfl rfl Yba.sizeOf2 cz.sh.blk (by omega)) ?_
    intro _ a wa
    repeat (first | refine c_seq ?_ | refine c_region ?_ | refine c_block ?_ | refine c_skip ?_ | refine c_exit ?_ | refine c_ret ?_ | refine n_then ?_ | refine n_block ?_ | refine x_then ?_ | refine x_block_eq ?_ | refine x_block_ne rfl ?_ | refine r_then ?_ | refine r_block ?_ | refine s_nil ?_ | refine c_true rfl ?_ | refine c_false rfl ?_ | refine s_pur (p_move rfl) rfl ?_ | refine s_pur (p_assign rfl) rfl ?_ | refine s_pur (p_nil rfl) rfl ?_ | refine s_pur (p_pick_t rfl rfl) rfl ?_ | refine s_pur (p_pick_f rfl rfl) rfl ?_)
    exact m_done wa (by repeat (first | exact Sub.nil | refine Sub.cons rfl ?_))
  intro a wa
  have ca := cz.size wa
  have nda := ndz.own cz.sh wa
  obtain ⟨m3, e3, b3, s3, _⟩ := ca.adrBlk 1
  have p3 := ca.ring.nx 0 (by omega)
  rw [adr_zero] at p3
  repeat (first | refine c_seq ?_ | refine c_region ?_ | refine c_block ?_ | refine c_skip ?_ | refine c_exit ?_ | refine c_ret ?_ | refine n_then ?_ | refine n_block ?_ | refine x_then ?_ | refine x_block_eq ?_ | refine x_block_ne rfl ?_ | refine r_then ?_ | refine r_block ?_ | refine s_nil ?_ | refine c_true rfl ?_ | refine c_false rfl ?_ | refine s_pur (p_move rfl) rfl ?_ | refine s_pur (p_assign rfl) rfl ?_ | refine s_pur (p_nil rfl) rfl ?_ | refine s_pur (p_pick_t rfl rfl) rfl ?_ | refine s_pur (p_pick_f rfl rfl) rfl ?_)
  refine s_call Yba.call13 rfl rfl (push_ok a sb q.size (adr sb m E 1) m3 e3 p3 ca.sh.blk nda.blk b3 (by omega)) ?_
  rintro _ b ⟨rfl, a1, a2, a3, v1, v2, v3, v4⟩
  obtain ⟨cb', fb⟩ := ca.pushed (x := x) nda hno' v1 v2 v3 v4
  repeat (first | refine c_seq ?_ | refine c_region ?_ | refine c_block ?_ | refine c_skip ?_ | refine c_exit ?_ | refine c_ret ?_ | refine n_then ?_ | refine n_block ?_ | refine x_then ?_ | refine x_block_eq ?_ | refine x_block_ne rfl ?_ | refine r_then ?_ | refine r_block ?_ | refine s_nil ?_ | refine c_true rfl ?_ | refine c_false rfl ?_ | refine s_pur (p_move rfl) rfl ?_ | refine s_pur (p_assign rfl) rfl ?_ | refine s_pur (p_nil rfl) rfl ?_ | refine s_pur (p_pick_t rfl rfl) rfl ?_ | refine s_pur (p_pick_f rfl rfl) rfl ?_)
  obtain ⟨cs6, hcs6, scs6⟩ := cb'.sh.blk
  have lk6 := cb'.sh.lck
  rw [hc_of hcs6] at lk6
  refine retU (o := 0) (.inr rfl) (res0 Yba.results6) hcs6 lk6 ?_
  intro h' uu
  have wu := Wr.of hcs6 (by omega) uu
  have f1 : Frm base h h' := ((((fq.trans (kpy.frm hbase)).updM uz cy.sh.low.2 cy.sh.mp).wr wa cz.sh.low.1 cz.sh.blk (.inl rfl)).trans fb).trans (cb'.frmLock wu)
  refine ⟨rfl, f1, .inr ⟨hlen, hno, q.size, ?_⟩⟩
  rw [← hm]
  refine ⟨⟨_, cb'.lock wu, mz⟩, ?_⟩
  rw [sumL_cns]; show len + sumL m E ≤ cap; omega

set_option maxHeartbeats 8000000 in
theorem add_ok (fu : Full h base cb sb mb cap n E) (hby : Byt h bb len) (hcap : cap < 1000) (hlen : len < 64) (hb : base ≤ h.size) :
    CallsH Yba.prog 6 #[.pointer (some ⟨cb, 0, none⟩), .int .u64 id, .int .i64 off, .slice (some ⟨bb, 0, none⟩) len len] h (AddRes h base cb sb mb cap n len bb E id off) := by
  obtain ⟨⟨L, c, ml⟩, hsum⟩ := fu
  refine calls_of_d (n := 104) [(0, .pointer (some ⟨cb, 0, none⟩)), (1, .int .u64 id), (2, .int .i64 off), (3, .slice (some ⟨bb, 0, none⟩) len len)] Yba.func6 rfl rfl (by simp) (by repeat (first | exact ArgsAre.nil | refine ArgsAre.cons rfl ?_)) ?_
  intro w0 _
  refine c_mid [(0, .pointer (some ⟨cb, 0, none⟩)), (1, .int .u64 id), (2, .int .i64 off), (3, .slice (some ⟨bb, 0, none⟩) len len)] (fun q => h = q) ?_ ?_
  · repeat (first | refine c_seq ?_ | refine c_region ?_ | refine c_block ?_ | refine c_skip ?_ | refine c_exit ?_ | refine c_ret ?_ | refine n_then ?_ | refine n_block ?_ | refine x_then ?_ | refine x_block_eq ?_ | refine x_block_ne rfl ?_ | refine r_then ?_ | refine r_block ?_ | refine s_nil ?_ | refine c_true rfl ?_ | refine c_false rfl ?_ | refine s_pur (p_move rfl) rfl ?_ | refine s_pur (p_assign rfl) rfl ?_ | refine s_pur (p_nil rfl) rfl ?_ | refine s_pur (p_pick_t rfl rfl) rfl ?_ | refine s_pur (p_pick_f rfl rfl) rfl ?_ | refine s_pur (p_pnil rfl rfl Yba.underlying24) rfl ?_)
    exact m_done rfl (by repeat (first | exact Sub.nil | refine Sub.cons rfl ?_))
  rintro _ rfl
  refine c_mid [(0, .pointer (some ⟨cb, 0, none⟩)), (3, .slice (some ⟨bb, 0, none⟩) len len), (8, .pointer (some ⟨h.size, 0, none⟩)), (9, .int .i64 len)] (fun q => Kp h q ∧ q[h.size]? = some (.cells [.int .u64 id, .int .i64 off].toArray 39 (0, 0))) ?_ ?_
  · repeat (first | refine c_seq ?_ | refine c_region ?_ | refine c_block ?_ | refine c_skip ?_ | refine c_exit ?_ | refine c_ret ?_ | refine n_then ?_ | refine n_block ?_ | refine x_then ?_ | refine x_block_eq ?_ | refine x_block_ne rfl ?_ | refine r_then ?_ | refine r_block ?_ | refine s_nil ?_ | refine c_true rfl ?_ | refine c_false rfl ?_ | refine s_pur (p_move rfl) rfl ?_ | refine s_pur (p_assign rfl) rfl ?_ | refine s_pur (p_nil rfl) rfl ?_ | refine s_pur (p_pick_t rfl rfl) rfl ?_ | refine s_pur (p_pick_f rfl rfl) rfl ?_ | refine s_pur (p_len rfl Yba.underlying25) rfl ?_ | refine s_pur (p_idx1 rfl rfl rfl (by omega) Yba.underlying25 Yba.sizeOf5) rfl ?_ | refine s_pur (p_build39 rfl rfl) rfl ?_)
    refine s_eff (e_alloc Yba.zeroValue39) rfl ?_
    rintro _ h1 ⟨rfl, n1⟩
    refine s_eff0 (e_storeAll (vs := [.int .u64 id, .int .i64 off]) rfl rfl Yba.sizeOf39 rfl n1.at_ rfl (by simp [Value.oneCell'])) ?_
    intro _ h2 u2
    repeat (first | refine c_seq ?_ | refine c_region ?_ | refine c_block ?_ | refine c_skip ?_ | refine c_exit ?_ | refine c_ret ?_ | refine n_then ?_ | refine n_block ?_ | refine x_then ?_ | refine x_block_eq ?_ | refine x_block_ne rfl ?_ | refine r_then ?_ | refine r_block ?_ | refine s_nil ?_ | refine c_true rfl ?_ | refine c_false rfl ?_ | refine s_pur (p_move rfl) rfl ?_ | refine s_pur (p_assign rfl) rfl ?_ | refine s_pur (p_nil rfl) rfl ?_ | refine s_pur (p_pick_t rfl rfl) rfl ?_ | refine s_pur (p_pick_f rfl rfl) rfl ?_)
    exact m_done ⟨⟨by rw [u2.size]; have := n1.size; omega, fun k hk => by rw [u2.other k (by omega), n1.other k hk]⟩, u2.at_⟩ (by repeat (first | exact Sub.nil | refine Sub.cons rfl ?_))
  rintro h1 ⟨kp1, hk1⟩
  have c1 := c.kp kp1
  have ld : ∀ x : Heap, x[h.size]? = some (.cells [.int .u64 id, .int .i64 off].toArray 39 (0, 0)) → ∀ j, j < 2 → hc x h.size (0 + j) = ([.int .u64 id, .int .i64 off] : List Value)[j]? := fun x hx j hj => by rw [hc_of hx, Nat.zero_add]; simp
  refine c_mid [(3, .slice (some ⟨bb, 0, none⟩) len len), (8, .pointer (some ⟨h.size, 0, none⟩)), (9, .int .i64 len), (10, .pointer (some ⟨sb, 0, none⟩))] (fun q => Kp h1 q ∧ q[h.size]? = some (.cells [.int .u64 id, .int .i64 off].toArray 39 (0, 0))) ?_ ?_
  · have ld1 := ld h1 hk1
    repeat (first | refine c_seq ?_ | refine c_region ?_ | refine c_block ?_ | refine c_skip ?_ | refine c_exit ?_ | refine c_ret ?_ | refine n_then ?_ | refine n_block ?_ | refine x_then ?_ | refine x_block_eq ?_ | refine x_block_ne rfl ?_ | refine r_then ?_ | refine r_block ?_ | refine s_nil ?_ | refine c_true rfl ?_ | refine c_false rfl ?_ | refine s_pur (p_move rfl) rfl ?_ | refine s_pur (p_assign rfl) rfl ?_ | refine s_pur (p_nil rfl) rfl ?_ | refine s_pur (p_pick_t rfl rfl) rfl ?_ | refine s_pur (p_pick_f rfl rfl) rfl ?_ | refine s_pur (p_loadA (vs := [.int .u64 id, .int .i64 off]) rfl Yba.isAgg39 Yba.sizeOf39 rfl ld1) rfl ?_)
    refine s_call Yba.call9 rfl rfl (shard_ok h1 cb sb (id, off) c1.sh.c0) ?_
    rintro _ q ⟨rfl, nq⟩
    repeat (first | refine c_seq ?_ | refine c_region ?_ | refine c_block ?_ | refine c_skip ?_ | refine c_exit ?_ | refine c_ret ?_ | refine n_then ?_ | refine n_block ?_ | refine x_then ?_ | refine x_block_eq ?_ | refine x_block_ne rfl ?_ | refine r_then ?_ | refine r_block ?_ | refine s_nil ?_ | refine c_true rfl ?_ | refine c_false rfl ?_ | refine s_pur (p_move rfl) rfl ?_ | refine s_pur (p_assign rfl) rfl ?_ | refine s_pur (p_nil rfl) rfl ?_ | refine s_pur (p_pick_t rfl rfl) rfl ?_ | refine s_pur (p_pick_f rfl rfl) rfl ?_)
    exact m_done ⟨Kp.of nq, by rw [nq.other _ (lt_of_get hk1)]; exact hk1⟩ (by repeat (first | exact Sub.nil | refine Sub.cons rfl ?_))
  rintro h2 ⟨kp2, hk2⟩
  have c2 := c1.kp kp2
  obtain ⟨cs, hcs, scs⟩ := c2.sh.blk
  have lk2 := c2.sh.lck
  rw [hc_of hcs] at lk2
  refine c_mid [(3, .slice (some ⟨bb, 0, none⟩) len len), (8, .pointer (some ⟨h.size, 0, none⟩)), (9, .int .i64 len), (10, .pointer (some ⟨sb, 0, none⟩))] (fun q => Wr h2 q sb 0 (.int .i32 1)) ?_ ?_
  · repeat (first | refine c_seq ?_ | refine c_region ?_ | refine c_block ?_ | refine c_skip ?_ | refine c_exit ?_ | refine c_ret ?_ | refine n_then ?_ | refine n_block ?_ | refine x_then ?_ | refine x_block_eq ?_ | refine x_block_ne rfl ?_ | refine r_then ?_ | refine r_block ?_ | refine s_nil ?_ | refine c_true rfl ?_ | refine c_false rfl ?_ | refine s_pur (p_move rfl) rfl ?_ | refine s_pur (p_assign rfl) rfl ?_ | refine s_pur (p_nil rfl) rfl ?_ | refine s_pur (p_pick_t rfl rfl) rfl ?_ | refine s_pur (p_pick_f rfl rfl) rfl ?_ | refine s_pur (p_fld (off := 0) rfl Yba.underlying54 rfl Yba.sizeOf48 rfl) rfl ?_)
    refine s_call Yba.call10 rfl rfl (lock_ok (o := 0) hcs lk2) ?_
    rintro _ q ⟨rfl, uq⟩
    repeat (first | refine c_seq ?_ | refine c_region ?_ | refine c_block ?_ | refine c_skip ?_ | refine c_exit ?_ | refine c_ret ?_ | refine n_then ?_ | refine n_block ?_ | refine x_then ?_ | refine x_block_eq ?_ | refine x_block_ne rfl ?_ | refine r_then ?_ | refine r_block ?_ | refine s_nil ?_ | refine c_true rfl ?_ | refine c_false rfl ?_ | refine s_pur (p_move rfl) rfl ?_ | refine s_pur (p_assign rfl) rfl ?_ | refine s_pur (p_nil rfl) rfl ?_ | refine s_pur (p_pick_t rfl rfl) rfl ?_ | refine s_pur (p_pick_f rfl rfl) rfl ?_)
    exact m_done (Wr.of hcs (by omega) uq) (by repeat (first | exact Sub.nil | refine Sub.cons rfl ?_))
  intro h3 w3
  have c3 := c2.lock w3
  have kp12 := kp1.trans kp2
  have f23 := c2.frmLock w3
  have hk3 := f23.keep _ _ _ hk2 (by decide) (by decide)
  have ld3 := ld h3 hk3
  have f3 : Frm base h h3 := (kp12.frm hb).trans f23
  have by3 : Byt h3 bb len := hby.frm f3
  refine c_seq ?_
  repeat (first | refine c_region ?_ | refine c_block ?_ | refine c_skip ?_ | refine c_exit ?_ | refine c_ret ?_ | refine n_then ?_ | refine n_block ?_ | refine x_then ?_ | refine x_block_eq ?_ | refine x_block_ne rfl ?_ | refine r_then ?_ | refine r_block ?_ | refine s_nil ?_ | refine c_true rfl ?_ | refine c_false rfl ?_ | refine s_pur (p_move rfl) rfl ?_ | refine s_pur (p_assign rfl) rfl ?_ | refine s_pur (p_nil rfl) rfl ?_ | refine s_pur (p_pick_t rfl rfl) rfl ?_ | refine s_pur (p_pick_f rfl rfl) rfl ?_ | refine s_pur (p_fld (off := 0) rfl Yba.underlying54 rfl Yba.sizeOf48 rfl) rfl ?_)
  refine s_defer (vs := [.pointer (some ⟨sb, 0 + 0, none⟩)]) rfl ?_
  refine s_nil ?_
  refine n_then ?_
  have mp3 : hc h3 sb (0 + 4) = some (.map (some mb)) := c3.sh.mpc
  have cp3 : hc h3 sb (0 + 2) = some (.int .i64 (cap : Int)) := c3.sh.cap
  obtain ⟨cs3, hcs3, scs3⟩ := c3.sh.blk
  have lk3 := c3.sh.lck
  rw [hc_of hcs3] at lk3
  by_cases hbig : cap < len
  · refine c_seq ?_
    refine c_seq ?_
    refine c_quiet followsM (by kernel_rfl) ?_
    intro w1 hw1
    repeat (first | refine q_nil hw1 ?_ | refine c_seq ?_ | refine c_region ?_ | refine c_block ?_ | refine c_skip ?_ | refine c_exit ?_ | refine c_ret ?_ | refine n_then ?_ | refine n_block ?_ | refine x_then ?_ | refine x_block_eq ?_ | refine x_block_ne rfl ?_ | refine r_then ?_ | refine r_block ?_ | refine s_nil ?_ | refine c_true rfl ?_ | refine c_false rfl ?_ | refine q_pur hw1 (p_move rfl) rfl ?_ | refine q_pur hw1 (p_assign rfl) rfl ?_ | refine q_pur hw1 (p_nil rfl) rfl ?_ | refine q_pur hw1 (p_pick_t rfl rfl) rfl ?_ | refine q_pur hw1 (p_pick_f rfl rfl) rfl ?_ | refine q_pur hw1 (p_fld (off := 2) rfl Yba.underlying54 rfl Yba.sizeOf2 rfl) rfl ?_ | refine q_pur hw1 (p_load rfl Yba.isAgg2 (by assumption)) rfl ?_ | refine q_pur hw1 (p_lssT rfl rfl (by omega)) rfl ?_ | refine q_pur hw1 (p_lssF rfl rfl (by omega)) rfl ?_ | refine q_pur hw1 (p_leqT rfl rfl (by omega)) rfl ?_ | refine q_pur hw1 (p_leqF rfl rfl (by omega)) rfl ?_ | refine q_pur hw1 (p_gtrT rfl rfl (by omega)) rfl ?_ | refine q_pur hw1 (p_gtrF rfl rfl (by omega)) rfl ?_ | refine q_pur hw1 (p_geqT rfl rfl (by omega)) rfl ?_ | refine q_pur hw1 (p_geqF rfl rfl (by omega)) rfl ?_ | refine q_pur hw1 (p_eqlT rfl rfl (by omega)) rfl ?_ | refine q_pur hw1 (p_eqlF rfl rfl (by omega)) rfl ?_ | refine q_pur hw1 (p_neqT rfl rfl (by omega)) rfl ?_ | refine q_pur hw1 (p_neqF rfl rfl (by omega)) rfl ?_ | refine q_skip rfl rfl rfl ?_ | refine q_skip' rfl rfl rfl ?_ | refine q_pur_g hw1 rfl (p_move rfl) rfl ?_ | refine q_pur_g hw1 rfl (p_assign rfl) rfl ?_ | refine q_pur_g hw1 rfl (p_nil rfl) rfl ?_ | refine q_pur_g hw1 rfl (p_pick_t rfl rfl) rfl ?_ | refine q_pur_g hw1 rfl (p_pick_f rfl rfl) rfl ?_ | refine q_pur_g hw1 rfl (p_fld (off := 2) rfl Yba.underlying54 rfl Yba.sizeOf2 rfl) rfl ?_ | refine q_pur_g hw1 rfl (p_load rfl Yba.isAgg2 (by assumption)) rfl ?_ | refine q_pur_g hw1 rfl (p_lssT rfl rfl (by omega)) rfl ?_ | refine q_pur_g hw1 rfl (p_lssF rfl rfl (by omega)) rfl ?_ | refine q_pur_g hw1 rfl (p_leqT rfl rfl (by omega)) rfl ?_ | refine q_pur_g hw1 rfl (p_leqF rfl rfl (by omega)) rfl ?_ | refine q_pur_g hw1 rfl (p_gtrT rfl rfl (by omega)) rfl ?_ | refine q_pur_g hw1 rfl (p_gtrF rfl rfl (by omega)) rfl ?_ | refine q_pur_g hw1 rfl (p_geqT rfl rfl (by omega)) rfl ?_ | refine q_pur_g hw1 rfl (p_geqF rfl rfl (by omega)) rfl ?_ | refine q_pur_g hw1 rfl (p_eqlT rfl rfl (by omega)) rfl ?_ | refine q_pur_g hw1 rfl (p_eqlF rfl rfl (by omega)) rfl ?_ | refine q_pur_g hw1 rfl (p_neqT rfl rfl (by omega)) rfl ?_ | refine q_pur_g hw1 rfl (p_neqF rfl rfl (by omega)) rfl ?_)
    refine retU (o := 0) (.inl rfl) (res0 Yba.results6) hcs3 lk3 ?_
    intro h' uu
    have wu := Wr.of hcs3 (by omega) uu
    exact ⟨rfl, f3.trans (c3.frmLock wu), .inl ⟨.inl hbig, ⟨L, c3.lock wu, ml⟩, hsum⟩⟩
  by_cases hin : ∃ i, i < n ∧ (E i).key = (id, off)
  · obtain ⟨i, hi, hkey⟩ := hin
    have hv : getM L (id, off) = some (ptr ((E i).nb, 0)) := by rw [← hkey]; exact ml.2.1 i hi
    refine c_seq ?_
    refine c_seq ?_
    refine c_quiet followsM (by kernel_rfl) ?_
    intro w1 hw1
    repeat (first | refine q_nil hw1 ?_ | refine c_seq ?_ | refine c_region ?_ | refine c_block ?_ | refine c_skip ?_ | refine c_exit ?_ | refine c_ret ?_ | refine n_then ?_ | refine n_block ?_ | refine x_then ?_ | refine x_block_eq ?_ | refine x_block_ne rfl ?_ | refine r_then ?_ | refine r_block ?_ | refine s_nil ?_ | refine c_true rfl ?_ | refine c_false rfl ?_ | refine q_pur hw1 (p_move rfl) rfl ?_ | refine q_pur hw1 (p_assign rfl) rfl ?_ | refine q_pur hw1 (p_nil rfl) rfl ?_ | refine q_pur hw1 (p_pick_t rfl rfl) rfl ?_ | refine q_pur hw1 (p_pick_f rfl rfl) rfl ?_ | refine q_pur hw1 (p_fld (off := 2) rfl Yba.underlying54 rfl Yba.sizeOf2 rfl) rfl ?_ | refine q_pur hw1 (p_fld (off := 4) rfl Yba.underlying54 rfl Yba.sizeOf49 rfl) rfl ?_ | refine q_pur hw1 (p_load rfl Yba.isAgg2 (by assumption)) rfl ?_ | refine q_pur hw1 (p_load rfl Yba.isAgg49 (by assumption)) rfl ?_ | refine q_pur hw1 (p_loadA (vs := [.int .u64 id, .int .i64 off]) rfl Yba.isAgg39 Yba.sizeOf39 rfl ld3) rfl ?_ | refine q_pur hw1 (p_lookup' (v := .pointer (some ⟨(E i).nb, 0, none⟩)) keyEnc (key := (id, off)) rfl rfl Yba.underlying49 Yba.zeroValue50 c3.sh.mp (by rw [hv]; rfl)) rfl ?_ | refine q_pur hw1 (p_pnneq rfl rfl Yba.underlying50) rfl ?_ | refine q_pur hw1 (p_lssT rfl rfl (by omega)) rfl ?_ | refine q_pur hw1 (p_lssF rfl rfl (by omega)) rfl ?_ | refine q_pur hw1 (p_leqT rfl rfl (by omega)) rfl ?_ | refine q_pur hw1 (p_leqF rfl rfl (by omega)) rfl ?_ | refine q_pur hw1 (p_gtrT rfl rfl (by omega)) rfl ?_ | refine q_pur hw1 (p_gtrF rfl rfl (by omega)) rfl ?_ | refine q_pur hw1 (p_geqT rfl rfl (by omega)) rfl ?_ | refine q_pur hw1 (p_geqF rfl rfl (by omega)) rfl ?_ | refine q_pur hw1 (p_eqlT rfl rfl (by omega)) rfl ?_ | refine q_pur hw1 (p_eqlF rfl rfl (by omega)) rfl ?_ | refine q_pur hw1 (p_neqT rfl rfl (by omega)) rfl ?_ | refine q_pur hw1 (p_neqF rfl rfl (by omega)) rfl ?_ | refine q_skip rfl rfl rfl ?_ | refine q_skip' rfl rfl rfl ?_ | refine q_pur_g hw1 rfl (p_move rfl) rfl ?_ | refine q_pur_g hw1 rfl (p_assign rfl) rfl ?_ | refine q_pur_g hw1 rfl (p_nil rfl) rfl ?_ | refine q_pur_g hw1 rfl (p_pick_t rfl rfl) rfl ?_ | refine q_pur_g hw1 rfl (p_pick_f rfl rfl) rfl ?_ | refine q_pur_g hw1 rfl (p_fld (off := 2) rfl Yba.underlying54 rfl Yba.sizeOf2 rfl) rfl ?_ | refine q_pur_g hw1 rfl (p_fld (off := 4) rfl Yba.underlying54 rfl Yba.sizeOf49 rfl) rfl ?_ | refine q_pur_g hw1 rfl (p_load rfl Yba.isAgg2 (by assumption)) rfl ?_ | refine q_pur_g hw1 rfl (p_load rfl Yba.isAgg49 (by assumption)) rfl ?_ | refine q_pur_g hw1 rfl (p_loadA (vs := [.int .u64 id, .int .i64 off]) rfl Yba.isAgg39 Yba.sizeOf39 rfl ld3) rfl ?_ | refine q_pur_g hw1 rfl (p_lookup' (v := .pointer (some ⟨(E i).nb, 0, none⟩)) keyEnc (key := (id, off)) rfl rfl Yba.underlying49 Yba.zeroValue50 c3.sh.mp (by rw [hv]; rfl)) rfl ?_ | refine q_pur_g hw1 rfl (p_pnneq rfl rfl Yba.underlying50) rfl ?_ | refine q_pur_g hw1 rfl (p_lssT rfl rfl (by omega)) rfl ?_ | refine q_pur_g hw1 rfl (p_lssF rfl rfl (by omega)) rfl ?_ | refine q_pur_g hw1 rfl (p_leqT rfl rfl (by omega)) rfl ?_ | refine q_pur_g hw1 rfl (p_leqF rfl rfl (by omega)) rfl ?_ | refine q_pur_g hw1 rfl (p_gtrT rfl rfl (by omega)) rfl ?_ | refine q_pur_g hw1 rfl (p_gtrF rfl rfl (by omega)) rfl ?_ | refine q_pur_g hw1 rfl (p_geqT rfl rfl (by omega)) rfl ?_ | refine q_pur_g hw1 rfl (p_geqF rfl rfl (by omega)) rfl ?_ | refine q_pur_g hw1 rfl (p_eqlT rfl rfl (by omega)) rfl ?_ | refine q_pur_g hw1 rfl (p_eqlF rfl rfl (by omega)) rfl ?_ | refine q_pur_g hw1 rfl (p_neqT rfl rfl (by omega)) rfl ?_ | refine q_pur_g hw1 rfl (p_neqF rfl rfl (by omega)) rfl ?_)
    refine retU (o := 0) (.inl rfl) (res0 Yba.results6) hcs3 lk3 ?_
    intro h' uu
    have wu := Wr.of hcs3 (by omega) uu
    exact ⟨rfl, f3.trans (c3.frmLock wu), .inl ⟨.inr ⟨i, hi, hkey⟩, ⟨L, c3.lock wu, ml⟩, hsum⟩⟩
  have hno : ∀ i, i < n → (E i).key ≠ (id, off) := fun i hi e => hin ⟨i, hi, e⟩
  clear hin
  refine c_mid [(3, .slice (some ⟨bb, 0, none⟩) len len), (8, .pointer (some ⟨h.size, 0, none⟩)), (9, .int .i64 len), (10, .pointer (some ⟨sb, 0, none⟩))] (fun q => h3 = q) ?_ ?_
  · refine c_seq ?_
    refine c_quiet followsM (by kernel_rfl) ?_
    intro w1 hw1
    repeat (first | refine q_nil hw1 ?_ | refine c_seq ?_ | refine c_region ?_ | refine c_block ?_ | refine c_skip ?_ | refine c_exit ?_ | refine c_ret ?_ | refine n_then ?_ | refine n_block ?_ | refine x_then ?_ | refine x_block_eq ?_ | refine x_block_ne rfl ?_ | refine r_then ?_ | refine r_block ?_ | refine s_nil ?_ | refine c_true rfl ?_ | refine c_false rfl ?_ | refine q_pur hw1 (p_move rfl) rfl ?_ | refine q_pur hw1 (p_assign rfl) rfl ?_ | refine q_pur hw1 (p_nil rfl) rfl ?_ | refine q_pur hw1 (p_pick_t rfl rfl) rfl ?_ | refine q_pur hw1 (p_pick_f rfl rfl) rfl ?_ | refine q_pur hw1 (p_fld (off := 2) rfl Yba.underlying54 rfl Yba.sizeOf2 rfl) rfl ?_ | refine q_pur hw1 (p_fld (off := 4) rfl Yba.underlying54 rfl Yba.sizeOf49 rfl) rfl ?_ | refine q_pur hw1 (p_load rfl Yba.isAgg2 (by assumption)) rfl ?_ | refine q_pur hw1 (p_load rfl Yba.isAgg49 (by assumption)) rfl ?_ | refine q_pur hw1 (p_loadA (vs := [.int .u64 id, .int .i64 off]) rfl Yba.isAgg39 Yba.sizeOf39 rfl ld3) rfl ?_ | refine q_pur hw1 (p_lookup' (v := .pointer none) keyEnc (key := (id, off)) rfl rfl Yba.underlying49 Yba.zeroValue50 c3.sh.mp (by rw [ml.2.2 _ hno]; rfl)) rfl ?_ | refine q_pur hw1 (p_pnneq rfl rfl Yba.underlying50) rfl ?_ | refine q_pur hw1 (p_lssT rfl rfl (by omega)) rfl ?_ | refine q_pur hw1 (p_lssF rfl rfl (by omega)) rfl ?_ | refine q_pur hw1 (p_leqT rfl rfl (by omega)) rfl ?_ | refine q_pur hw1 (p_leqF rfl rfl (by omega)) rfl ?_ | refine q_pur hw1 (p_gtrT rfl rfl (by omega)) rfl ?_ | refine q_pur hw1 (p_gtrF rfl rfl (by omega)) rfl ?_ | refine q_pur hw1 (p_geqT rfl rfl (by omega)) rfl ?_ | refine q_pur hw1 (p_geqF rfl rfl (by omega)) rfl ?_ | refine q_pur hw1 (p_eqlT rfl rfl (by omega)) rfl ?_ | refine q_pur hw1 (p_eqlF rfl rfl (by omega)) rfl ?_ | refine q_pur hw1 (p_neqT rfl rfl (by omega)) rfl ?_ | refine q_pur hw1 (p_neqF rfl rfl (by omega)) rfl ?_ | refine q_skip rfl rfl rfl ?_ | refine q_skip' rfl rfl rfl ?_ | refine q_pur_g hw1 rfl (p_move rfl) rfl ?_ | refine q_pur_g hw1 rfl (p_assign rfl) rfl ?_ | refine q_pur_g hw1 rfl (p_nil rfl) rfl ?_ | refine q_pur_g hw1 rfl (p_pick_t rfl rfl) rfl ?_ | refine q_pur_g hw1 rfl (p_pick_f rfl rfl) rfl ?_ | refine q_pur_g hw1 rfl (p_fld (off := 2) rfl Yba.underlying54 rfl Yba.sizeOf2 rfl) rfl ?_ | refine q_pur_g hw1 rfl (p_fld (off := 4) rfl Yba.underlying54 rfl Yba.sizeOf49 rfl) rfl ?_ | refine q_pur_g hw1 rfl (p_load rfl Yba.isAgg2 (by assumption)) rfl ?_ | refine q_pur_g hw1 rfl (p_load rfl Yba.isAgg49 (by assumption)) rfl ?_ | refine q_pur_g hw1 rfl (p_loadA (vs := [.int .u64 id, .int .i64 off]) rfl Yba.isAgg39 Yba.sizeOf39 rfl ld3) rfl ?_ | refine q_pur_g hw1 rfl (p_lookup' (v := .pointer none) keyEnc (key := (id, off)) rfl rfl Yba.underlying49 Yba.zeroValue50 c3.sh.mp (by rw [ml.2.2 _ hno]; rfl)) rfl ?_ | refine q_pur_g hw1 rfl (p_pnneq rfl rfl Yba.underlying50) rfl ?_ | refine q_pur_g hw1 rfl (p_lssT rfl rfl (by omega)) rfl ?_ | refine q_pur_g hw1 rfl (p_lssF rfl rfl (by omega)) rfl ?_ | refine q_pur_g hw1 rfl (p_leqT rfl rfl (by omega)) rfl ?_ | refine q_pur_g hw1 rfl (p_leqF rfl rfl (by omega)) rfl ?_ | refine q_pur_g hw1 rfl (p_gtrT rfl rfl (by omega)) rfl ?_ | refine q_pur_g hw1 rfl (p_gtrF rfl rfl (by omega)) rfl ?_ | refine q_pur_g hw1 rfl (p_geqT rfl rfl (by omega)) rfl ?_ | refine q_pur_g hw1 rfl (p_geqF rfl rfl (by omega)) rfl ?_ | refine q_pur_g hw1 rfl (p_eqlT rfl rfl (by omega)) rfl ?_ | refine q_pur_g hw1 rfl (p_eqlF rfl rfl (by omega)) rfl ?_ | refine q_pur_g hw1 rfl (p_neqT rfl rfl (by omega)) rfl ?_ | refine q_pur_g hw1 rfl (p_neqF rfl rfl (by omega)) rfl ?_)
    exact m_done rfl (by repeat (first | exact Sub.nil | refine Sub.cons rfl ?_))
  rintro _ rfl
  refine c_mid [(3, .slice (some ⟨bb, 0, none⟩) len len), (8, .pointer (some ⟨h.size, 0, none⟩)), (9, .int .i64 len), (10, .pointer (some ⟨sb, 0, none⟩))] (fun q => Frm base h3 q ∧ ∃ m L, Cch q base cb sb mb cap 1 (sumL m E : Nat) L m E ∧ MapOf L m E ∧ m = evict cap len E n ∧ sumL m E + len ≤ cap) ?_ ?_
  · repeat (first | refine c_seq ?_ | refine c_region ?_ | refine c_block ?_ | refine c_skip ?_ | refine c_exit ?_ | refine c_ret ?_ | refine n_then ?_ | refine n_block ?_ | refine x_then ?_ | refine x_block_eq ?_ | refine x_block_ne rfl ?_ | refine r_then ?_ | refine r_block ?_ | refine s_nil ?_ | refine c_true rfl ?_ | refine c_false rfl ?_ | refine s_pur (p_move rfl) rfl ?_ | refine s_pur (p_assign rfl) rfl ?_ | refine s_pur (p_nil rfl) rfl ?_ | refine s_pur (p_pick_t rfl rfl) rfl ?_ | refine s_pur (p_pick_f rfl rfl) rfl ?_)
    refine c_loop (fun k : Nat => [(3, .slice (some ⟨bb, 0, none⟩) len len), (8, .pointer (some ⟨h.size, 0, none⟩)), (9, .int .i64 len), (10, .pointer (some ⟨sb, 0, none⟩))])
      (fun k q => k ≤ n ∧ evict cap len E k = evict cap len E n ∧ Frm base h3 q ∧ sumL k E ≤ cap ∧ ∃ L, Cch q base cb sb mb cap 1 (sumL k E : Nat) L k E ∧ MapOf L k E) (fun k => k) n ⟨Nat.le_refl _, rfl, Frm.refl _ _, hsum, L, c3, ml⟩ (by repeat (first | exact Sub.nil | refine Sub.cons rfl ?_)) ?_
    rintro k q ⟨hk, hev, fq, hsk, L', cq, mq⟩
    have sz3 : hc q sb (0 + 3) = some (.int .i64 ((sumL k E : Nat) : Int)) := cq.sh.siz
    have cp : hc q sb (0 + 2) = some (.int .i64 (cap : Int)) := cq.sh.cap
    by_cases hgo : cap < sumL k E + len
    · obtain ⟨m, rfl⟩ : ∃ m, k = m + 1 := ⟨k - 1, by
        have : k ≠ 0 := by rintro rfl; simp [sumL] at hgo; omega
        omega⟩
      refine c_mid [(3, .slice (some ⟨bb, 0, none⟩) len len), (8, .pointer (some ⟨h.size, 0, none⟩)), (9, .int .i64 len), (10, .pointer (some ⟨sb, 0, none⟩))] (fun q' => q = q') ?_ ?_
      · refine c_seq ?_
        refine c_quiet followsM (by kernel_rfl) ?_
        intro w1 hw1
        repeat (first | refine q_nil hw1 ?_ | refine c_seq ?_ | refine c_region ?_ | refine c_block ?_ | refine c_skip ?_ | refine c_exit ?_ | refine c_ret ?_ | refine n_then ?_ | refine n_block ?_ | refine x_then ?_ | refine x_block_eq ?_ | refine x_block_ne rfl ?_ | refine r_then ?_ | refine r_block ?_ | refine s_nil ?_ | refine c_true rfl ?_ | refine c_false rfl ?_ | refine q_pur hw1 (p_move rfl) rfl ?_ | refine q_pur hw1 (p_assign rfl) rfl ?_ | refine q_pur hw1 (p_nil rfl) rfl ?_ | refine q_pur hw1 (p_pick_t rfl rfl) rfl ?_ | refine q_pur hw1 (p_pick_f rfl rfl) rfl ?_ | refine q_pur hw1 (p_fld (off := 2) rfl Yba.underlying54 rfl Yba.sizeOf2 rfl) rfl ?_ | refine q_pur hw1 (p_fld (off := 3) rfl Yba.underlying54 rfl Yba.sizeOf2 rfl) rfl ?_ | refine q_pur hw1 (p_load rfl Yba.isAgg2 (by assumption)) rfl ?_ | refine q_pur hw1 (p_lssT rfl rfl (by omega)) rfl ?_ | refine q_pur hw1 (p_lssF rfl rfl (by omega)) rfl ?_ | refine q_pur hw1 (p_leqT rfl rfl (by omega)) rfl ?_ | refine q_pur hw1 (p_leqF rfl rfl (by omega)) rfl ?_ | refine q_pur hw1 (p_gtrT rfl rfl (by omega)) rfl ?_ | refine q_pur hw1 (p_gtrF rfl rfl (by omega)) rfl ?_ | refine q_pur hw1 (p_geqT rfl rfl (by omega)) rfl ?_ | refine q_pur hw1 (p_geqF rfl rfl (by omega)) rfl ?_ | refine q_pur hw1 (p_eqlT rfl rfl (by omega)) rfl ?_ | refine q_pur hw1 (p_eqlF rfl rfl (by omega)) rfl ?_ | refine q_pur hw1 (p_neqT rfl rfl (by omega)) rfl ?_ | refine q_pur hw1 (p_neqF rfl rfl (by omega)) rfl ?_ | refine q_pur hw1 (p_add rfl rfl rfl (by omega) (by omega)) rfl ?_ | refine q_skip rfl rfl rfl ?_ | refine q_skip' rfl rfl rfl ?_ | refine q_pur_g hw1 rfl (p_move rfl) rfl ?_ | refine q_pur_g hw1 rfl (p_assign rfl) rfl ?_ | refine q_pur_g hw1 rfl (p_nil rfl) rfl ?_ | refine q_pur_g hw1 rfl (p_pick_t rfl rfl) rfl ?_ | refine q_pur_g hw1 rfl (p_pick_f rfl rfl) rfl ?_ | refine q_pur_g hw1 rfl (p_fld (off := 2) rfl Yba.underlying54 rfl Yba.sizeOf2 rfl) rfl ?_ | refine q_pur_g hw1 rfl (p_fld (off := 3) rfl Yba.underlying54 rfl Yba.sizeOf2 rfl) rfl ?_ | refine q_pur_g hw1 rfl (p_load rfl Yba.isAgg2 (by assumption)) rfl ?_ | refine q_pur_g hw1 rfl (p_lssT rfl rfl (by omega)) rfl ?_ | refine q_pur_g hw1 rfl (p_lssF rfl rfl (by omega)) rfl ?_ | refine q_pur_g hw1 rfl (p_leqT rfl rfl (by omega)) rfl ?_ | refine q_pur_g hw1 rfl (p_leqF rfl rfl (by omega)) rfl ?_ | refine q_pur_g hw1 rfl (p_gtrT rfl rfl (by omega)) rfl ?_ | refine q_pur_g hw1 rfl (p_gtrF rfl rfl (by omega)) rfl ?_ | refine q_pur_g hw1 rfl (p_geqT rfl rfl (by omega)) rfl ?_ | refine q_pur_g hw1 rfl (p_geqF rfl rfl (by omega)) rfl ?_ | refine q_pur_g hw1 rfl (p_eqlT rfl rfl (by omega)) rfl ?_ | refine q_pur_g hw1 rfl (p_eqlF rfl rfl (by omega)) rfl ?_ | refine q_pur_g hw1 rfl (p_neqT rfl rfl (by omega)) rfl ?_ | refine q_pur_g hw1 rfl (p_neqF rfl rfl (by omega)) rfl ?_ | refine q_pur_g hw1 rfl (p_add rfl rfl rfl (by omega) (by omega)) rfl ?_)
        exact m_done rfl (by repeat (first | exact Sub.nil | refine Sub.cons rfl ?_))
      rintro _ rfl
      have pv8 := cq.ring.pv (m + 1) (Nat.le_refl _)
      rw [adr_last, adr_in sb (m + 1) E m (by omega)] at pv8
      have l8 : hc q sb (0 + 5 + 3) = some (.pointer (some ⟨(E m).nb, 0, none⟩)) := pv8
      refine c_block ?_
      refine c_mid [(3, .slice (some ⟨bb, 0, none⟩) len len), (8, .pointer (some ⟨h.size, 0, none⟩)), (9, .int .i64 len), (10, .pointer (some ⟨sb, 0, none⟩)), (11, .pointer (some ⟨(E m).nb, 0, none⟩))] (fun q' => q = q') ?_ ?_
      · repeat (first | refine c_seq ?_ | refine c_region ?_ | refine c_block ?_ | refine c_skip ?_ | refine c_exit ?_ | refine c_ret ?_ | refine n_then ?_ | refine n_block ?_ | refine x_then ?_ | refine x_block_eq ?_ | refine x_block_ne rfl ?_ | refine r_then ?_ | refine r_block ?_ | refine s_nil ?_ | refine c_true rfl ?_ | refine c_false rfl ?_ | refine s_pur (p_move rfl) rfl ?_ | refine s_pur (p_assign rfl) rfl ?_ | refine s_pur (p_nil rfl) rfl ?_ | refine s_pur (p_pick_t rfl rfl) rfl ?_ | refine s_pur (p_pick_f rfl rfl) rfl ?_ | refine s_pur (p_fld (off := 5) rfl Yba.underlying54 rfl Yba.sizeOf52 rfl) rfl ?_ | refine s_pur (p_fld (off := 3) rfl Yba.underlying52 rfl Yba.sizeOf50 rfl) rfl ?_ | refine s_pur (p_load rfl Yba.isAgg50 (by assumption)) rfl ?_)
        exact m_done rfl (by repeat (first | exact Sub.nil | refine Sub.cons rfl ?_))
      rintro _ rfl
      have hj : m < m + 1 := by omega
      obtain ⟨m1, e1, b1, s1, _⟩ := cq.adrBlk m
      obtain ⟨m2, e2, b2, s2, _⟩ := cq.adrBlk (m + 2)
      have p1 := cq.ring.pv m (by omega)
      have p2 := cq.ring.nx (m + 1) (by omega)
      rw [adr_in sb (m + 1) E m hj] at p1 p2
      refine c_mid [(3, .slice (some ⟨bb, 0, none⟩) len len), (8, .pointer (some ⟨h.size, 0, none⟩)), (9, .int .i64 len), (10, .pointer (some ⟨sb, 0, none⟩)), (11, .pointer (some ⟨(E m).nb, 0, none⟩))] (fun q' => ∃ h1, Wr q h1 (adr sb (m + 1) E m).1 ((adr sb (m + 1) E m).2 + 4) (ptr (adr sb (m + 1) E (m + 2))) ∧ Wr h1 q' (adr sb (m + 1) E (m + 2)).1 ((adr sb (m + 1) E (m + 2)).2 + 3) (ptr (adr sb (m + 1) E m))) ?_ ?_
      · repeat (first | refine c_seq ?_ | refine c_region ?_ | refine c_block ?_ | refine c_skip ?_ | refine c_exit ?_ | refine c_ret ?_ | refine n_then ?_ | refine n_block ?_ | refine x_then ?_ | refine x_block_eq ?_ | refine x_block_ne rfl ?_ | refine r_then ?_ | refine r_block ?_ | refine s_nil ?_ | refine c_true rfl ?_ | refine c_false rfl ?_ | refine s_pur (p_move rfl) rfl ?_ | refine s_pur (p_assign rfl) rfl ?_ | refine s_pur (p_nil rfl) rfl ?_ | refine s_pur (p_pick_t rfl rfl) rfl ?_ | refine s_pur (p_pick_f rfl rfl) rfl ?_)
        refine s_call Yba.call12 rfl rfl (unlink_ok q (E m).nb (adr sb (m + 1) E m) (adr sb (m + 1) E (m + 2)) m1 m2 e1 e2 p1 p2 b1 s1 b2 (by omega)) ?_
        rintro _ q' ⟨rfl, hq⟩
        repeat (first | refine c_seq ?_ | refine c_region ?_ | refine c_block ?_ | refine c_skip ?_ | refine c_exit ?_ | refine c_ret ?_ | refine n_then ?_ | refine n_block ?_ | refine x_then ?_ | refine x_block_eq ?_ | refine x_block_ne rfl ?_ | refine r_then ?_ | refine r_block ?_ | refine s_nil ?_ | refine c_true rfl ?_ | refine c_false rfl ?_ | refine s_pur (p_move rfl) rfl ?_ | refine s_pur (p_assign rfl) rfl ?_ | refine s_pur (p_nil rfl) rfl ?_ | refine s_pur (p_pick_t rfl rfl) rfl ?_ | refine s_pur (p_pick_f rfl rfl) rfl ?_)
        exact m_done hq (by repeat (first | exact Sub.nil | refine Sub.cons rfl ?_))
      rintro q2 ⟨q1, v1, v2⟩
      obtain ⟨d2, nd2, fr2⟩ := cq.unlinked hj v1 v2
      simp only [Nat.add_sub_cancel] at d2
      have d2 := d2.congr (E' := E) (fun i hi => by unfold era; rw [if_pos hi])
      have nm := nd2 m hj
      have kl : ∀ j, j < 2 → hc q2 (E m).nb (0 + 0 + j) = ([.int .u64 (E m).id, .int .i64 (E m).off] : List Value)[j]? := fun j hj => by
        rcases (by omega : j = 0 ∨ j = 1) with rfl | rfl
        · exact nm.id
        · exact nm.off
      have mp4 : hc q2 sb (0 + 4) = some (.map (some mb)) := d2.sh.mpc
      refine c_mid [(3, .slice (some ⟨bb, 0, none⟩) len len), (8, .pointer (some ⟨h.size, 0, none⟩)), (9, .int .i64 len), (10, .pointer (some ⟨sb, 0, none⟩)), (11, .pointer (some ⟨(E m).nb, 0, none⟩))] (fun z => UpdM keyV q2 z mb (delM L' (E m).key)) ?_ ?_
      · refine c_held followsM rfl ?_
        refine h_any 0 rfl (by kernel_rfl) rfl (fun _ => p_move rfl) rfl ?_
        refine h_any 1 rfl (by kernel_rfl) rfl (fun _ => p_nil rfl) rfl ?_
        refine h_any 2 rfl (by kernel_rfl) rfl (fun _ => p_fld (off := 4) rfl Yba.underlying54 rfl Yba.sizeOf49 rfl) rfl ?_
        refine h_any 4 rfl (by kernel_rfl) rfl (fun _ => p_move rfl) rfl ?_
        refine h_any 5 rfl (by kernel_rfl) rfl (fun _ => p_nil rfl) rfl ?_
        refine h_any 6 rfl (by kernel_rfl) rfl (fun _ => p_fld (off := 0) rfl Yba.underlying52 rfl Yba.sizeOf39 rfl) rfl ?_
        refine h_take 3 rfl (by kernel_rfl) rfl (p_load rfl Yba.isAgg49 mp4) rfl ?_
        refine h_take 7 rfl (by kernel_rfl) rfl (p_loadA (vs := [.int .u64 (E m).id, .int .i64 (E m).off]) rfl Yba.isAgg39 Yba.sizeOf39 rfl kl) rfl ?_
        refine h_eff0 8 rfl (by kernel_rfl) rfl (e_mapDel keyEnc (key := (E m).key) rfl rfl Yba.underlying49 d2.sh.mp) ?_
        intro _ z uz
        refine h_done (by kernel_rfl) ?_
        repeat (first | refine c_seq ?_ | refine c_region ?_ | refine c_block ?_ | refine c_skip ?_ | refine c_exit ?_ | refine c_ret ?_ | refine n_then ?_ | refine n_block ?_ | refine x_then ?_ | refine x_block_eq ?_ | refine x_block_ne rfl ?_ | refine r_then ?_ | refine r_block ?_ | refine s_nil ?_ | refine c_true rfl ?_ | refine c_false rfl ?_ | refine s_pur (p_move rfl) rfl ?_ | refine s_pur (p_assign rfl) rfl ?_ | refine s_pur (p_nil rfl) rfl ?_ | refine s_pur (p_pick_t rfl rfl) rfl ?_ | refine s_pur (p_pick_f rfl rfl) rfl ?_)
        exact m_done uz (by repeat (first | exact Sub.nil | refine Sub.cons rfl ?_))
      intro z uz
      have cz := d2.updM uz
      have nz := nm.updM d2.sh uz
      have mz := mapOf_del mq cq.nods.key
      have sz4 : hc z sb (0 + 3) = some (.int .i64 ((sumL (m + 1) E : Nat) : Int)) := cz.sh.siz
      have rz : hc z (E m).nb (0 + 2) = some (.slice (some ⟨(E m).bb, 0, none⟩) (E m).len (E m).len) := nz.row
      refine c_held followsM rfl ?_
      refine h_any 0 rfl (by kernel_rfl) rfl (fun _ => p_move rfl) rfl ?_
      refine h_any 1 rfl (by kernel_rfl) rfl (fun _ => p_nil rfl) rfl ?_
      refine h_any 2 rfl (by kernel_rfl) rfl (fun _ => p_fld (off := 3) rfl Yba.underlying54 rfl Yba.sizeOf2 rfl) rfl ?_
      refine h_any 4 rfl (by kernel_rfl) rfl (fun _ => p_move rfl) rfl ?_
      refine h_any 5 rfl (by kernel_rfl) rfl (fun _ => p_nil rfl) rfl ?_
      refine h_any 6 rfl (by kernel_rfl) rfl (fun _ => p_fld (off := 2) rfl Yba.underlying52 rfl Yba.sizeOf25 rfl) rfl ?_
      refine h_take 7 rfl (by kernel_rfl) rfl (p_load rfl Yba.isAgg25 rz) rfl ?_
      refine h_any 8 rfl (by kernel_rfl) rfl (fun _ => p_len rfl Yba.underlying25) rfl ?_
      refine h_take 3 rfl (by kernel_rfl) rfl (p_load rfl Yba.isAgg2 sz4) rfl ?_
      refine h_any 9 rfl (by kernel_rfl) rfl (fun _ => p_sub (c := ((sumL m E : Nat) : Int)) rfl rfl (by simp only [sumL]; omega) (by omega) (by simp only [sumL] at hsk; omega)) rfl ?_
      refine h_any 10 rfl (by kernel_rfl) rfl (fun _ => p_nil rfl) rfl ?_
      refine h_any 11 rfl (by kernel_rfl) rfl (fun _ => p_fld (off := 3) rfl Yba.underlying54 rfl Yba.sizeOf2 rfl) rfl ?_
      refine h_eff0 12 rfl (by kernel_rfl) rfl (e_wr rfl rfl rfl Yba.sizeOf2 cz.sh.blk (by omega)) ?_
      intro _ a wa
      refine h_done (by kernel_rfl) ?_
      repeat (first | refine c_seq ?_ | refine c_region ?_ | refine c_block ?_ | refine c_skip ?_ | refine c_exit ?_ | refine c_ret ?_ | refine n_then ?_ | refine n_block ?_ | refine x_then ?_ | refine x_block_eq ?_ | refine x_block_ne rfl ?_ | refine r_then ?_ | refine r_block ?_ | refine s_nil ?_ | refine c_true rfl ?_ | refine c_false rfl ?_ | refine s_pur (p_move rfl) rfl ?_ | refine s_pur (p_assign rfl) rfl ?_ | refine s_pur (p_nil rfl) rfl ?_ | refine s_pur (p_pick_t rfl rfl) rfl ?_ | refine s_pur (p_pick_f rfl rfl) rfl ?_)
      have ca := cz.size wa
      exact c_next m ⟨by omega, by rw [← hev]; exact (evict_go hgo).symm, (((fq.trans fr2).updM uz d2.sh.low.2 d2.sh.mp).wr wa cz.sh.low.1 cz.sh.blk (.inl rfl)), by simp only [sumL] at hsk; omega, _, ca, mz⟩ (by repeat (first | exact Sub.nil | refine Sub.cons rfl ?_)) (by omega)
    · refine c_seq ?_
      refine c_seq ?_
      refine c_quiet followsM (by kernel_rfl) ?_
      intro w1 hw1
      repeat (first | refine q_nil hw1 ?_ | refine c_seq ?_ | refine c_region ?_ | refine c_block ?_ | refine c_skip ?_ | refine c_exit ?_ | refine c_ret ?_ | refine n_then ?_ | refine n_block ?_ | refine x_then ?_ | refine x_block_eq ?_ | refine x_block_ne rfl ?_ | refine r_then ?_ | refine r_block ?_ | refine s_nil ?_ | refine c_true rfl ?_ | refine c_false rfl ?_ | refine q_pur hw1 (p_move rfl) rfl ?_ | refine q_pur hw1 (p_assign rfl) rfl ?_ | refine q_pur hw1 (p_nil rfl) rfl ?_ | refine q_pur hw1 (p_pick_t rfl rfl) rfl ?_ | refine q_pur hw1 (p_pick_f rfl rfl) rfl ?_ | refine q_pur hw1 (p_fld (off := 2) rfl Yba.underlying54 rfl Yba.sizeOf2 rfl) rfl ?_ | refine q_pur hw1 (p_fld (off := 3) rfl Yba.underlying54 rfl Yba.sizeOf2 rfl) rfl ?_ | refine q_pur hw1 (p_load rfl Yba.isAgg2 (by assumption)) rfl ?_ | refine q_pur hw1 (p_lssT rfl rfl (by omega)) rfl ?_ | refine q_pur hw1 (p_lssF rfl rfl (by omega)) rfl ?_ | refine q_pur hw1 (p_leqT rfl rfl (by omega)) rfl ?_ | refine q_pur hw1 (p_leqF rfl rfl (by omega)) rfl ?_ | refine q_pur hw1 (p_gtrT rfl rfl (by omega)) rfl ?_ | refine q_pur hw1 (p_gtrF rfl rfl (by omega)) rfl ?_ | refine q_pur hw1 (p_geqT rfl rfl (by omega)) rfl ?_ | refine q_pur hw1 (p_geqF rfl rfl (by omega)) rfl ?_ | refine q_pur hw1 (p_eqlT rfl rfl (by omega)) rfl ?_ | refine q_pur hw1 (p_eqlF rfl rfl (by omega)) rfl ?_ | refine q_pur hw1 (p_neqT rfl rfl (by omega)) rfl ?_ | refine q_pur hw1 (p_neqF rfl rfl (by omega)) rfl ?_ | refine q_pur hw1 (p_add rfl rfl rfl (by omega) (by omega)) rfl ?_ | refine q_skip rfl rfl rfl ?_ | refine q_skip' rfl rfl rfl ?_ | refine q_pur_g hw1 rfl (p_move rfl) rfl ?_ | refine q_pur_g hw1 rfl (p_assign rfl) rfl ?_ | refine q_pur_g hw1 rfl (p_nil rfl) rfl ?_ | refine q_pur_g hw1 rfl (p_pick_t rfl rfl) rfl ?_ | refine q_pur_g hw1 rfl (p_pick_f rfl rfl) rfl ?_ | refine q_pur_g hw1 rfl (p_fld (off := 2) rfl Yba.underlying54 rfl Yba.sizeOf2 rfl) rfl ?_ | refine q_pur_g hw1 rfl (p_fld (off := 3) rfl Yba.underlying54 rfl Yba.sizeOf2 rfl) rfl ?_ | refine q_pur_g hw1 rfl (p_load rfl Yba.isAgg2 (by assumption)) rfl ?_ | refine q_pur_g hw1 rfl (p_lssT rfl rfl (by omega)) rfl ?_ | refine q_pur_g hw1 rfl (p_lssF rfl rfl (by omega)) rfl ?_ | refine q_pur_g hw1 rfl (p_leqT rfl rfl (by omega)) rfl ?_ | refine q_pur_g hw1 rfl (p_leqF rfl rfl (by omega)) rfl ?_ | refine q_pur_g hw1 rfl (p_gtrT rfl rfl (by omega)) rfl ?_ | refine q_pur_g hw1 rfl (p_gtrF rfl rfl (by omega)) rfl ?_ | refine q_pur_g hw1 rfl (p_geqT rfl rfl (by omega)) rfl ?_ | refine q_pur_g hw1 rfl (p_geqF rfl rfl (by omega)) rfl ?_ | refine q_pur_g hw1 rfl (p_eqlT rfl rfl (by omega)) rfl ?_ | refine q_pur_g hw1 rfl (p_eqlF rfl rfl (by omega)) rfl ?_ | refine q_pur_g hw1 rfl (p_neqT rfl rfl (by omega)) rfl ?_ | refine q_pur_g hw1 rfl (p_neqF rfl rfl (by omega)) rfl ?_ | refine q_pur_g hw1 rfl (p_add rfl rfl rfl (by omega) (by omega)) rfl ?_)
      exact m_done ⟨fq, k, L', cq, mq, by rw [← hev]; exact (evict_stop (by omega)).symm, by omega⟩ (by repeat (first | exact Sub.nil | refine Sub.cons rfl ?_))
  rintro q ⟨fq, m, L', cq, mq, hm, hroom⟩
  have := evict_le cap len E n
  exact addTail h base cb sb mb cap n len bb E id off (f3.trans fq) (fq.keep _ _ _ hk3 (by decide) (by decide)) L' cq mq (by3.frm fq) (by omega) hroom hm (by omega) hno hcap (by have := f3.size; have := fq.size; omega)
end
end Go.Proofs.Ybulkdire
