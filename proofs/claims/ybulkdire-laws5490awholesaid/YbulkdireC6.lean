/-
  C6: (*Cache).get.
-/
import Derived.Test.YbulkdireC5
namespace Go.Proofs.Ybulkdire
set_option linter.unusedSimpArgs false
set_option linter.unusedVariables false
set_option linter.unnecessarySimpa false
open Go Go.RowKit V
set_option maxRecDepth 100000

/-- The cache as it stands. -/
structure Cch (h : Heap) (base cb sb mb : Nat) (cap lk sz : Int) (L : List ((Int × Int) × Value)) (n : Nat) (E : Nat → Ent) : Prop where
  sh : Sh h base cb sb mb cap lk sz L
  nods : Nods h base n E
  ring : Ring h sb n E
section
variable {h h' : Heap} {base cb sb mb : Nat} {cap lk sz : Int} {L : List ((Int × Int) × Value)} {n : Nat} {E : Nat → Ent}
theorem Cch.kp (c : Cch h base cb sb mb cap lk sz L n E) (a : Kp h h') : Cch h' base cb sb mb cap lk sz L n E :=
  ⟨c.sh.kp a, ⟨fun i hi => (c.nods.nd i hi).kp a, c.nods.key⟩, c.ring.kp a⟩
theorem Cch.lock {lk' : Int} (c : Cch h base cb sb mb cap lk sz L n E) (w : Wr h h' sb 0 (.int .i32 lk')) : Cch h' base cb sb mb cap lk' sz L n E :=
  ⟨c.sh.lock w, ⟨fun i hi => (c.nods.nd i hi).own c.sh w, c.nods.key⟩, c.ring.own (c.nods.apart c.sh).hd w (by omega)⟩
theorem Cch.frmLock {lk' : Int} (c : Cch h base cb sb mb cap lk sz L n E) (w : Wr h h' sb 0 (.int .i32 lk')) : Frm base h h' := (Frm.refl _ _).wr w c.sh.low.1 c.sh.blk (.inl rfl)
theorem Cch.adrBlk (c : Cch h base cb sb mb cap lk sz L n E) (i : Nat) : ∃ m e, Blk h (adr sb n E i).1 m e ∧ (adr sb n E i).2 + 4 < m ∧ (∀ d, 3 ≤ d → Link h base sb (adr sb n E i).1 ((adr sb n E i).2 + d)) := by
  unfold adr
  split
  · have := c.nods.nd (i - 1) (by omega)
    exact ⟨5, 52, this.blk, by simp, fun d hd => ⟨this.low, .inr ⟨this.blk, by simp; try omega⟩⟩⟩
  · exact ⟨10, 54, c.sh.blk, by simp, fun d hd => ⟨c.sh.low.1, .inl ⟨rfl, by simp; try omega⟩⟩⟩

/-- The block of the node that is taken out stands. -/
theorem Cch.unlinked {h1 h2 : Heap} {j : Nat} (c : Cch h base cb sb mb cap lk sz L n E) (hj : j < n)
    (w1 : Wr h h1 (adr sb n E j).1 ((adr sb n E j).2 + 4) (ptr (adr sb n E (j + 2)))) (w2 : Wr h1 h2 (adr sb n E (j + 2)).1 ((adr sb n E (j + 2)).2 + 3) (ptr (adr sb n E j))) :
    Cch h2 base cb sb mb cap lk sz L (n - 1) (era j E) ∧ (∀ i, i < n → Nd h2 base (E i)) ∧ Frm base h h2 := by
  obtain ⟨_, _, _, _, l1⟩ := c.adrBlk j
  obtain ⟨_, _, _, _, l2⟩ := c.adrBlk (j + 2)
  have k1 := l1 4 (by omega)
  have k2 := (l2 3 (by omega)).wr w1
  have s1 := c.sh.wr w1 k1
  have s2 := s1.wr w2 k2
  have nd2 : ∀ i, i < n → Nd h2 base (E i) := fun i hi => (((c.nods.nd i hi).wr c.sh w1 k1).wr s1 w2 k2)
  refine ⟨⟨s2, ⟨fun i hi => ?_, fun i k hi hk e => ?_⟩, ring_unlink c.ring (c.nods.apart c.sh) hj w1 w2⟩, nd2, (c.sh.frm w1 k1).trans (s1.frm w2 k2)⟩
  · unfold era; split <;> exact nd2 _ (by omega)
  · unfold era at e
    split at e <;> split at e
    · exact c.nods.key _ _ (by omega) (by omega) e
    · have := c.nods.key _ _ (by omega) (by omega) e; omega
    · have := c.nods.key _ _ (by omega) (by omega) e; omega
    · have := c.nods.key _ _ (by omega) (by omega) e; omega

theorem Cch.pushed {h1 h2 h3 h4 : Heap} {x : Ent} (c : Cch h base cb sb mb cap lk sz L n E) (nx : Nd h base x) (hk : ∀ i, i < n → (E i).key ≠ x.key)
    (w1 : Wr h h1 x.nb 3 (ptr (sb, 5))) (w2 : Wr h1 h2 x.nb 4 (ptr (adr sb n E 1))) (w3 : Wr h2 h3 (adr sb n E 1).1 ((adr sb n E 1).2 + 3) (ptr (x.nb, 0))) (w4 : Wr h3 h4 sb 9 (ptr (x.nb, 0))) :
    Cch h4 base cb sb mb cap lk sz L (n + 1) (cns x E) ∧ Frm base h h4 := by
  have hs : x.nb ≠ sb := nx.blk.ne c.sh.blk (by decide)
  have hx : ∀ i, i < n → (E i).nb ≠ x.nb := fun i hi e => by
    have a := c.nods.nd i hi
    have e1 := a.id.symm.trans (e ▸ nx.id)
    have e2 := a.off.symm.trans (e ▸ nx.off)
    simp at e1 e2
    exact hk i hi (Prod.ext e1 e2)
  obtain ⟨_, _, _, _, l1⟩ := c.adrBlk 1
  have k1 : Link h base sb x.nb 3 := ⟨nx.low, .inr ⟨nx.blk, by omega⟩⟩
  have k2 : Link h1 base sb x.nb 4 := ⟨nx.low, .inr ⟨w1.blk _ _ _ nx.blk, by omega⟩⟩
  have k3 : Link h2 base sb (adr sb n E 1).1 ((adr sb n E 1).2 + 3) := ((l1 3 (by omega)).wr w1).wr w2
  have k4 : Link h3 base sb sb 9 := ⟨c.sh.low.1, .inl ⟨rfl, by omega⟩⟩
  have s1 := c.sh.wr w1 k1
  have s2 := s1.wr w2 k2
  have s3 := s2.wr w3 k3
  have s4 := s3.wr w4 k4
  have nd4 : ∀ e, Nd h base e → Nd h4 base e := fun e he => (((he.wr c.sh w1 k1).wr s1 w2 k2).wr s2 w3 k3).wr s3 w4 k4
  refine ⟨⟨s4, ⟨fun i hi => ?_, fun i k hi hk' e => ?_⟩, ring_push c.ring (c.nods.apart c.sh) hx hs w1 w2 w3 w4⟩, (((c.sh.frm w1 k1).trans (s1.frm w2 k2)).trans (s2.frm w3 k3)).trans (s3.frm w4 k4)⟩
  · unfold cns; split
    · exact nd4 x nx
    · exact nd4 _ (c.nods.nd _ (by omega))
  · unfold cns at e
    split at e <;> split at e
    · omega
    · exact absurd e.symm (hk _ (by omega))
    · exact absurd e (hk _ (by omega))
    · have := c.nods.key _ _ (by omega) (by omega) e; omega
end
/-- The block at j, brought to the front. -/
def mtf (j : Nat) (E : Nat → Ent) : Nat → Ent := cns (E j) (era j E)

theorem p_build39 {l : Env} {h : Heap} {ty : TypeId} {x y : Operand} {a b : Int} (h0 : ev l x = some (.int .u64 a)) (h1 : ev l y = some (.int .i64 b)) :
    Pur Yba.prog (.build 39 #[(0, x), (1, y)]) ty l h (.agg [.int .u64 a, .int .i64 b].toArray) := by
  refine ⟨fun ρ w d p af g hρ hw => ?_⟩
  simp only [execOp, Instr.build, List.map_toArray, List.map_cons, List.map_nil, hρ _ _ h0, hρ _ _ h1]
  simp [Yba.zeroValue39, run_underlying Yba.underlying39, Array.mapM_eq_mapM_toList, List.mapM_cons, Yba.sizeOf23, Yba.sizeOf2, Instr.fill, Value.cells]

set_option maxHeartbeats 4000000 in
theorem getNil_ok (h : Heap) (id off : Int) : CallsH Yba.prog 4 #[.pointer none, .int .u64 id, .int .i64 off] h (fun u h' => u = .tuple #[.slice none 0 0, .bool false] ∧ h' = h) := by
  refine calls_of_d (n := 43) [(0, .pointer none), (1, .int .u64 id), (2, .int .i64 off)] Yba.func4 rfl rfl (by simp) (by repeat (first | exact ArgsAre.nil | refine ArgsAre.cons rfl ?_)) ?_
  intro w0 _
  repeat (first | refine c_seq ?_ | refine c_region ?_ | refine c_block ?_ | refine c_skip ?_ | refine c_exit ?_ | refine c_ret ?_ | refine n_then ?_ | refine n_block ?_ | refine x_then ?_ | refine x_block_eq ?_ | refine x_block_ne rfl ?_ | refine r_then ?_ | refine r_block ?_ | refine s_nil ?_ | refine c_true rfl ?_ | refine c_false rfl ?_ | refine s_pur (p_move rfl) rfl ?_ | refine s_pur (p_assign rfl) rfl ?_ | refine s_pur (p_nil rfl) rfl ?_ | refine s_pur (p_pick_t rfl rfl) rfl ?_ | refine s_pur (p_pick_f rfl rfl) rfl ?_ | refine s_pur (p_pnil rfl rfl Yba.underlying24) rfl ?_)
  exact retE (.inl rfl) (res2 Yba.results4 rfl rfl) ⟨rfl, rfl⟩

set_option maxHeartbeats 8000000 in
theorem get_ok (h : Heap) (base cb sb mb : Nat) (cap sz : Int) (L : List ((Int × Int) × Value)) (n : Nat) (E : Nat → Ent) (id off : Int) (c : Cch h base cb sb mb cap 0 sz L n E) (ml : MapOf L n E) (hb : base ≤ h.size) :
    CallsH Yba.prog 4 #[.pointer (some ⟨cb, 0, none⟩), .int .u64 id, .int .i64 off] h (fun u h' => Frm base h h' ∧
      (((∀ i, i < n → (E i).key ≠ (id, off)) ∧ u = .tuple #[.slice none 0 0, .bool false] ∧ Cch h' base cb sb mb cap 0 sz L n E) ∨
       ∃ j, j < n ∧ (E j).key = (id, off) ∧ u = .tuple #[(E j).blk, .bool true] ∧ Cch h' base cb sb mb cap 0 sz L n (mtf j E))) := by
  refine calls_of_d (n := 43) [(0, .pointer (some ⟨cb, 0, none⟩)), (1, .int .u64 id), (2, .int .i64 off)] Yba.func4 rfl rfl (by simp) (by repeat (first | exact ArgsAre.nil | refine ArgsAre.cons rfl ?_)) ?_
  intro w0 _
  refine c_seq ?_
  repeat (first | refine c_region ?_ | refine c_block ?_ | refine c_skip ?_ | refine c_exit ?_ | refine c_ret ?_ | refine n_then ?_ | refine n_block ?_ | refine x_then ?_ | refine x_block_eq ?_ | refine x_block_ne rfl ?_ | refine r_then ?_ | refine r_block ?_ | refine s_nil ?_ | refine c_true rfl ?_ | refine c_false rfl ?_ | refine s_pur (p_move rfl) rfl ?_ | refine s_pur (p_assign rfl) rfl ?_ | refine s_pur (p_nil rfl) rfl ?_ | refine s_pur (p_pick_t rfl rfl) rfl ?_ | refine s_pur (p_pick_f rfl rfl) rfl ?_)
  refine c_mid [(0, .pointer (some ⟨cb, 0, none⟩)), (1, .int .u64 id), (2, .int .i64 off)] (fun q => h = q) ?_ ?_
  · repeat (first | refine c_seq ?_ | refine c_region ?_ | refine c_block ?_ | refine c_skip ?_ | refine c_exit ?_ | refine c_ret ?_ | refine n_then ?_ | refine n_block ?_ | refine x_then ?_ | refine x_block_eq ?_ | refine x_block_ne rfl ?_ | refine r_then ?_ | refine r_block ?_ | refine s_nil ?_ | refine c_true rfl ?_ | refine c_false rfl ?_ | refine s_pur (p_move rfl) rfl ?_ | refine s_pur (p_assign rfl) rfl ?_ | refine s_pur (p_nil rfl) rfl ?_ | refine s_pur (p_pick_t rfl rfl) rfl ?_ | refine s_pur (p_pick_f rfl rfl) rfl ?_ | refine s_pur (p_pnil rfl rfl Yba.underlying24) rfl ?_)
    exact m_done rfl (by repeat (first | exact Sub.nil | refine Sub.cons rfl ?_))
  rintro _ rfl
  refine c_mid [(0, .pointer (some ⟨cb, 0, none⟩)), (8, .pointer (some ⟨h.size, 0, none⟩))] (fun q => Kp h q ∧ q[h.size]? = some (.cells [.int .u64 id, .int .i64 off].toArray 39 (0, 0))) ?_ ?_
  · repeat (first | refine c_seq ?_ | refine c_region ?_ | refine c_block ?_ | refine c_skip ?_ | refine c_exit ?_ | refine c_ret ?_ | refine n_then ?_ | refine n_block ?_ | refine x_then ?_ | refine x_block_eq ?_ | refine x_block_ne rfl ?_ | refine r_then ?_ | refine r_block ?_ | refine s_nil ?_ | refine c_true rfl ?_ | refine c_false rfl ?_ | refine s_pur (p_move rfl) rfl ?_ | refine s_pur (p_assign rfl) rfl ?_ | refine s_pur (p_nil rfl) rfl ?_ | refine s_pur (p_pick_t rfl rfl) rfl ?_ | refine s_pur (p_pick_f rfl rfl) rfl ?_ | refine s_pur (p_build39 rfl rfl) rfl ?_)
    refine s_eff (e_alloc Yba.zeroValue39) rfl ?_
    rintro _ h1 ⟨rfl, n1⟩
    refine s_eff0 (e_storeAll (vs := [.int .u64 id, .int .i64 off]) rfl rfl Yba.sizeOf39 rfl n1.at_ rfl (by simp [Value.oneCell'])) ?_
    intro _ h2 u2
    repeat (first | refine c_seq ?_ | refine c_region ?_ | refine c_block ?_ | refine c_skip ?_ | refine c_exit ?_ | refine c_ret ?_ | refine n_then ?_ | refine n_block ?_ | refine x_then ?_ | refine x_block_eq ?_ | refine x_block_ne rfl ?_ | refine r_then ?_ | refine r_block ?_ | refine s_nil ?_ | refine c_true rfl ?_ | refine c_false rfl ?_ | refine s_pur (p_move rfl) rfl ?_ | refine s_pur (p_assign rfl) rfl ?_ | refine s_pur (p_nil rfl) rfl ?_ | refine s_pur (p_pick_t rfl rfl) rfl ?_ | refine s_pur (p_pick_f rfl rfl) rfl ?_)
    exact m_done ⟨⟨by rw [u2.size]; have := n1.size; omega, fun k hk => by rw [u2.other k (by omega), n1.other k hk]⟩, u2.at_⟩ (by repeat (first | exact Sub.nil | refine Sub.cons rfl ?_))
  rintro h1 ⟨kp1, hk1⟩
  have c1 := c.kp kp1
  have ld : ∀ q : Heap, q[h.size]? = some (.cells [.int .u64 id, .int .i64 off].toArray 39 (0, 0)) → ∀ j, j < 2 → hc q h.size (0 + j) = ([.int .u64 id, .int .i64 off] : List Value)[j]? := fun q hq j hj => by rw [hc_of hq, Nat.zero_add]; simp
  refine c_mid [(8, .pointer (some ⟨h.size, 0, none⟩)), (9, .pointer (some ⟨sb, 0, none⟩))] (fun q => Kp h1 q ∧ q[h.size]? = some (.cells [.int .u64 id, .int .i64 off].toArray 39 (0, 0))) ?_ ?_
  · have ld1 := ld h1 hk1
    repeat (first | refine c_seq ?_ | refine c_region ?_ | refine c_block ?_ | refine c_skip ?_ | refine c_exit ?_ | refine c_ret ?_ | refine n_then ?_ | refine n_block ?_ | refine x_then ?_ | refine x_block_eq ?_ | refine x_block_ne rfl ?_ | refine r_then ?_ | refine r_block ?_ | refine s_nil ?_ | refine c_true rfl ?_ | refine c_false rfl ?_ | refine s_pur (p_move rfl) rfl ?_ | refine s_pur (p_assign rfl) rfl ?_ | refine s_pur (p_nil rfl) rfl ?_ | refine s_pur (p_pick_t rfl rfl) rfl ?_ | refine s_pur (p_pick_f rfl rfl) rfl ?_ | refine s_pur (p_loadA (vs := [.int .u64 id, .int .i64 off]) rfl Yba.isAgg39 Yba.sizeOf39 rfl ld1) rfl ?_)
    refine s_call Yba.call9 rfl rfl (shard_ok h1 cb sb (id, off) c1.sh.c0) ?_
    rintro _ q ⟨rfl, nq⟩
    repeat (first | refine c_seq ?_ | refine c_region ?_ | refine c_block ?_ | refine c_skip ?_ | refine c_exit ?_ | refine c_ret ?_ | refine n_then ?_ | refine n_block ?_ | refine x_then ?_ | refine x_block_eq ?_ | refine x_block_ne rfl ?_ | refine r_then ?_ | refine r_block ?_ | refine s_nil ?_ | refine c_true rfl ?_ | refine c_false rfl ?_ | refine s_pur (p_move rfl) rfl ?_ | refine s_pur (p_assign rfl) rfl ?_ | refine s_pur (p_nil rfl) rfl ?_ | refine s_pur (p_pick_t rfl rfl) rfl ?_ | refine s_pur (p_pick_f rfl rfl) rfl ?_)
    exact m_done ⟨Kp.of nq, by rw [nq.other _ (lt_of_get hk1)]; exact hk1⟩ (by repeat (first | exact Sub.nil | refine Sub.cons rfl ?_))
  rintro h2 ⟨kp2, hk2⟩
  have c2 := c1.kp kp2
  obtain ⟨cs, hcs, scs⟩ := c2.sh.blk
  have lk2 := c2.sh.lck
  rw [hc_of hcs] at lk2
  refine c_mid [(8, .pointer (some ⟨h.size, 0, none⟩)), (9, .pointer (some ⟨sb, 0, none⟩))] (fun q => Wr h2 q sb 0 (.int .i32 1)) ?_ ?_
  · repeat (first | refine c_seq ?_ | refine c_region ?_ | refine c_block ?_ | refine c_skip ?_ | refine c_exit ?_ | refine c_ret ?_ | refine n_then ?_ | refine n_block ?_ | refine x_then ?_ | refine x_block_eq ?_ | refine x_block_ne rfl ?_ | refine r_then ?_ | refine r_block ?_ | refine s_nil ?_ | refine c_true rfl ?_ | refine c_false rfl ?_ | refine s_pur (p_move rfl) rfl ?_ | refine s_pur (p_assign rfl) rfl ?_ | refine s_pur (p_nil rfl) rfl ?_ | refine s_pur (p_pick_t rfl rfl) rfl ?_ | refine s_pur (p_pick_f rfl rfl) rfl ?_ | refine s_pur (p_fld (off := 0) rfl Yba.underlying54 rfl Yba.sizeOf48 rfl) rfl ?_)
    refine s_call Yba.call10 rfl rfl (lock_ok (o := 0) hcs lk2) ?_
    rintro _ q ⟨rfl, uq⟩
    repeat (first | refine c_seq ?_ | refine c_region ?_ | refine c_block ?_ | refine c_skip ?_ | refine c_exit ?_ | refine c_ret ?_ | refine n_then ?_ | refine n_block ?_ | refine x_then ?_ | refine x_block_eq ?_ | refine x_block_ne rfl ?_ | refine r_then ?_ | refine r_block ?_ | refine s_nil ?_ | refine c_true rfl ?_ | refine c_false rfl ?_ | refine s_pur (p_move rfl) rfl ?_ | refine s_pur (p_assign rfl) rfl ?_ | refine s_pur (p_nil rfl) rfl ?_ | refine s_pur (p_pick_t rfl rfl) rfl ?_ | refine s_pur (p_pick_f rfl rfl) rfl ?_)
    exact m_done (Wr.of hcs (by omega) uq) (by repeat (first | exact Sub.nil | refine Sub.cons rfl ?_))
  intro h3 w3
  have c3 := c2.lock w3
  have hk3 : h3[h.size]? = some (.cells [.int .u64 id, .int .i64 off].toArray 39 (0, 0)) := by
    rw [w3.other h.size ?_]
    · exact hk2
    · rintro e
      rw [e, hcs] at hk2
      simp at hk2
  have ld3 := ld h3 hk3
  have f3 : Frm base h h3 := ((kp1.trans kp2).frm hb).trans (c2.frmLock w3)
  refine c_seq ?_
  repeat (first | refine c_region ?_ | refine c_block ?_ | refine c_skip ?_ | refine c_exit ?_ | refine c_ret ?_ | refine n_then ?_ | refine n_block ?_ | refine x_then ?_ | refine x_block_eq ?_ | refine x_block_ne rfl ?_ | refine r_then ?_ | refine r_block ?_ | refine s_nil ?_ | refine c_true rfl ?_ | refine c_false rfl ?_ | refine s_pur (p_move rfl) rfl ?_ | refine s_pur (p_assign rfl) rfl ?_ | refine s_pur (p_nil rfl) rfl ?_ | refine s_pur (p_pick_t rfl rfl) rfl ?_ | refine s_pur (p_pick_f rfl rfl) rfl ?_ | refine s_pur (p_fld (off := 0) rfl Yba.underlying54 rfl Yba.sizeOf48 rfl) rfl ?_)
  refine s_defer (vs := [.pointer (some ⟨sb, 0 + 0, none⟩)]) rfl ?_
  refine s_nil ?_
  refine n_then ?_
  have mp4 : hc h3 sb (0 + 4) = some (.map (some mb)) := c3.sh.mpc
  refine c_mid [(9, .pointer (some ⟨sb, 0, none⟩)), (10, (getM L (id, off)).getD (.pointer none))] (fun q => h3 = q) ?_ ?_
  · refine c_quiet followsM (by kernel_rfl) ?_
    intro w1 hw1
    repeat (first | refine q_nil hw1 ?_ | refine c_seq ?_ | refine c_region ?_ | refine c_block ?_ | refine c_skip ?_ | refine c_exit ?_ | refine c_ret ?_ | refine n_then ?_ | refine n_block ?_ | refine x_then ?_ | refine x_block_eq ?_ | refine x_block_ne rfl ?_ | refine r_then ?_ | refine r_block ?_ | refine s_nil ?_ | refine c_true rfl ?_ | refine c_false rfl ?_ | refine q_pur hw1 (p_move rfl) rfl ?_ | refine q_pur hw1 (p_assign rfl) rfl ?_ | refine q_pur hw1 (p_nil rfl) rfl ?_ | refine q_pur hw1 (p_pick_t rfl rfl) rfl ?_ | refine q_pur hw1 (p_pick_f rfl rfl) rfl ?_ | refine q_pur hw1 (p_fld (off := 4) rfl Yba.underlying54 rfl Yba.sizeOf49 rfl) rfl ?_ | refine q_pur hw1 (p_load rfl Yba.isAgg49 (by assumption)) rfl ?_ | refine q_pur hw1 (p_loadA (vs := [.int .u64 id, .int .i64 off]) rfl Yba.isAgg39 Yba.sizeOf39 rfl ld3) rfl ?_ | refine q_pur hw1 (p_lookup keyEnc (key := (id, off)) rfl rfl Yba.underlying49 Yba.zeroValue50 c3.sh.mp) rfl ?_ | refine q_skip rfl rfl rfl ?_ | refine q_skip' rfl rfl rfl ?_ | refine q_pur_g hw1 rfl (p_move rfl) rfl ?_ | refine q_pur_g hw1 rfl (p_assign rfl) rfl ?_ | refine q_pur_g hw1 rfl (p_nil rfl) rfl ?_ | refine q_pur_g hw1 rfl (p_pick_t rfl rfl) rfl ?_ | refine q_pur_g hw1 rfl (p_pick_f rfl rfl) rfl ?_ | refine q_pur_g hw1 rfl (p_fld (off := 4) rfl Yba.underlying54 rfl Yba.sizeOf49 rfl) rfl ?_ | refine q_pur_g hw1 rfl (p_load rfl Yba.isAgg49 (by assumption)) rfl ?_ | refine q_pur_g hw1 rfl (p_loadA (vs := [.int .u64 id, .int .i64 off]) rfl Yba.isAgg39 Yba.sizeOf39 rfl ld3) rfl ?_ | refine q_pur_g hw1 rfl (p_lookup keyEnc (key := (id, off)) rfl rfl Yba.underlying49 Yba.zeroValue50 c3.sh.mp) rfl ?_)
    exact m_done rfl (by repeat (first | exact Sub.nil | refine Sub.cons rfl ?_))
  rintro _ rfl
  obtain ⟨cs3, hcs3, scs3⟩ := c3.sh.blk
  have lk3 := c3.sh.lck
  rw [hc_of hcs3] at lk3
  by_cases hin : ∀ i, i < n → (E i).key ≠ (id, off)
  · rw [ml.2.2 _ hin]
    repeat (first | refine c_seq ?_ | refine c_region ?_ | refine c_block ?_ | refine c_skip ?_ | refine c_exit ?_ | refine c_ret ?_ | refine n_then ?_ | refine n_block ?_ | refine x_then ?_ | refine x_block_eq ?_ | refine x_block_ne rfl ?_ | refine r_then ?_ | refine r_block ?_ | refine s_nil ?_ | refine c_true rfl ?_ | refine c_false rfl ?_ | refine s_pur (p_move rfl) rfl ?_ | refine s_pur (p_assign rfl) rfl ?_ | refine s_pur (p_nil rfl) rfl ?_ | refine s_pur (p_pick_t rfl rfl) rfl ?_ | refine s_pur (p_pick_f rfl rfl) rfl ?_ | refine s_pur (p_pnil rfl rfl Yba.underlying50) rfl ?_)
    refine retU (o := 0) (.inl rfl) (res2 Yba.results4 rfl rfl) hcs3 lk3 ?_
    intro h' uu
    have wu := Wr.of hcs3 (by omega) uu
    exact ⟨f3.trans (c3.frmLock wu), .inl ⟨hin, rfl, c3.lock wu⟩⟩
  · obtain ⟨j, hj, hkey⟩ : ∃ j, j < n ∧ (E j).key = (id, off) := by
      refine Classical.byContradiction fun hno => hin fun i hi e => hno ⟨i, hi, e⟩
    have hv : getM L (id, off) = some (ptr ((E j).nb, 0)) := by rw [← hkey]; exact ml.2.1 j hj
    rw [hv]
    have ndj := c3.nods.nd j hj
    refine c_mid [(9, .pointer (some ⟨sb, 0, none⟩)), (10, .pointer (some ⟨(E j).nb, 0, none⟩))] (fun q => h3 = q) ?_ ?_
    · repeat (first | refine c_seq ?_ | refine c_region ?_ | refine c_block ?_ | refine c_skip ?_ | refine c_exit ?_ | refine c_ret ?_ | refine n_then ?_ | refine n_block ?_ | refine x_then ?_ | refine x_block_eq ?_ | refine x_block_ne rfl ?_ | refine r_then ?_ | refine r_block ?_ | refine s_nil ?_ | refine c_true rfl ?_ | refine c_false rfl ?_ | refine s_pur (p_move rfl) rfl ?_ | refine s_pur (p_assign rfl) rfl ?_ | refine s_pur (p_nil rfl) rfl ?_ | refine s_pur (p_pick_t rfl rfl) rfl ?_ | refine s_pur (p_pick_f rfl rfl) rfl ?_ | refine s_pur (p_pnil (a := some ⟨(E j).nb, 0, none⟩) rfl rfl Yba.underlying50) rfl ?_)
      exact m_done rfl (by repeat (first | exact Sub.nil | refine Sub.cons rfl ?_))
    rintro _ rfl
    obtain ⟨m1, e1, b1, s1, _⟩ := c3.adrBlk j
    obtain ⟨m2, e2, b2, s2, _⟩ := c3.adrBlk (j + 2)
    have p1 := c3.ring.pv j (by omega)
    have p2 := c3.ring.nx (j + 1) (by omega)
    rw [adr_in sb n E j hj] at p1 p2
    refine c_mid [(9, .pointer (some ⟨sb, 0, none⟩)), (10, .pointer (some ⟨(E j).nb, 0, none⟩))] (fun q => ∃ h1, Wr h3 h1 (adr sb n E j).1 ((adr sb n E j).2 + 4) (ptr (adr sb n E (j + 2))) ∧ Wr h1 q (adr sb n E (j + 2)).1 ((adr sb n E (j + 2)).2 + 3) (ptr (adr sb n E j))) ?_ ?_
    · repeat (first | refine c_seq ?_ | refine c_region ?_ | refine c_block ?_ | refine c_skip ?_ | refine c_exit ?_ | refine c_ret ?_ | refine n_then ?_ | refine n_block ?_ | refine x_then ?_ | refine x_block_eq ?_ | refine x_block_ne rfl ?_ | refine r_then ?_ | refine r_block ?_ | refine s_nil ?_ | refine c_true rfl ?_ | refine c_false rfl ?_ | refine s_pur (p_move rfl) rfl ?_ | refine s_pur (p_assign rfl) rfl ?_ | refine s_pur (p_nil rfl) rfl ?_ | refine s_pur (p_pick_t rfl rfl) rfl ?_ | refine s_pur (p_pick_f rfl rfl) rfl ?_)
      refine s_call Yba.call12 rfl rfl (unlink_ok h3 (E j).nb (adr sb n E j) (adr sb n E (j + 2)) m1 m2 e1 e2 p1 p2 b1 s1 b2 (by omega)) ?_
      rintro _ q ⟨rfl, hq⟩
      repeat (first | refine c_seq ?_ | refine c_region ?_ | refine c_block ?_ | refine c_skip ?_ | refine c_exit ?_ | refine c_ret ?_ | refine n_then ?_ | refine n_block ?_ | refine x_then ?_ | refine x_block_eq ?_ | refine x_block_ne rfl ?_ | refine r_then ?_ | refine r_block ?_ | refine s_nil ?_ | refine c_true rfl ?_ | refine c_false rfl ?_ | refine s_pur (p_move rfl) rfl ?_ | refine s_pur (p_assign rfl) rfl ?_ | refine s_pur (p_nil rfl) rfl ?_ | refine s_pur (p_pick_t rfl rfl) rfl ?_ | refine s_pur (p_pick_f rfl rfl) rfl ?_)
      exact m_done hq (by repeat (first | exact Sub.nil | refine Sub.cons rfl ?_))
    rintro h5 ⟨h4, w4, w5⟩
    obtain ⟨c5, nd5, f5⟩ := c3.unlinked hj w4 w5
    obtain ⟨m3, e3, b3, s3, _⟩ := c5.adrBlk 1
    have p3 := c5.ring.nx 0 (by omega)
    rw [adr_zero] at p3
    refine c_mid [(10, .pointer (some ⟨(E j).nb, 0, none⟩))] (fun q => Cch q base cb sb mb cap 1 sz L n (mtf j E) ∧ Frm base h5 q) ?_ ?_
    · repeat (first | refine c_seq ?_ | refine c_region ?_ | refine c_block ?_ | refine c_skip ?_ | refine c_exit ?_ | refine c_ret ?_ | refine n_then ?_ | refine n_block ?_ | refine x_then ?_ | refine x_block_eq ?_ | refine x_block_ne rfl ?_ | refine r_then ?_ | refine r_block ?_ | refine s_nil ?_ | refine c_true rfl ?_ | refine c_false rfl ?_ | refine s_pur (p_move rfl) rfl ?_ | refine s_pur (p_assign rfl) rfl ?_ | refine s_pur (p_nil rfl) rfl ?_ | refine s_pur (p_pick_t rfl rfl) rfl ?_ | refine s_pur (p_pick_f rfl rfl) rfl ?_)
      refine s_call Yba.call13 rfl rfl (push_ok h5 sb (E j).nb (adr sb (n - 1) (era j E) 1) m3 e3 p3 c5.sh.blk (nd5 j hj).blk b3 (by omega)) ?_
      rintro _ q ⟨rfl, a1, a2, a3, v1, v2, v3, v4⟩
      have := c5.pushed (x := E j) (nd5 j hj) (fun i hi e => by
        unfold era at e
        split at e
        · have := c.nods.key _ _ (by omega) hj e; omega
        · have := c.nods.key _ _ (by omega) hj e; omega) v1 v2 v3 v4
      rw [show n - 1 + 1 = n by omega] at this
      repeat (first | refine c_seq ?_ | refine c_region ?_ | refine c_block ?_ | refine c_skip ?_ | refine c_exit ?_ | refine c_ret ?_ | refine n_then ?_ | refine n_block ?_ | refine x_then ?_ | refine x_block_eq ?_ | refine x_block_ne rfl ?_ | refine r_then ?_ | refine r_block ?_ | refine s_nil ?_ | refine c_true rfl ?_ | refine c_false rfl ?_ | refine s_pur (p_move rfl) rfl ?_ | refine s_pur (p_assign rfl) rfl ?_ | refine s_pur (p_nil rfl) rfl ?_ | refine s_pur (p_pick_t rfl rfl) rfl ?_ | refine s_pur (p_pick_f rfl rfl) rfl ?_)
      exact m_done this (by repeat (first | exact Sub.nil | refine Sub.cons rfl ?_))
    rintro h6 ⟨c6, f6⟩
    have nd6 : Nd h6 base (E j) := by
      have := c6.nods.nd 0 (by omega)
      unfold mtf cns at this
      rw [if_pos rfl] at this
      exact this
    have r6 : hc h6 (E j).nb (0 + 2) = some (E j).blk := nd6.row
    repeat (first | refine c_seq ?_ | refine c_region ?_ | refine c_block ?_ | refine c_skip ?_ | refine c_exit ?_ | refine c_ret ?_ | refine n_then ?_ | refine n_block ?_ | refine x_then ?_ | refine x_block_eq ?_ | refine x_block_ne rfl ?_ | refine r_then ?_ | refine r_block ?_ | refine s_nil ?_ | refine c_true rfl ?_ | refine c_false rfl ?_ | refine s_pur (p_move rfl) rfl ?_ | refine s_pur (p_assign rfl) rfl ?_ | refine s_pur (p_nil rfl) rfl ?_ | refine s_pur (p_pick_t rfl rfl) rfl ?_ | refine s_pur (p_pick_f rfl rfl) rfl ?_ | refine s_pur (p_fld (off := 2) rfl Yba.underlying52 rfl Yba.sizeOf25 rfl) rfl ?_ | refine s_pur (p_load rfl Yba.isAgg25 (by assumption)) rfl ?_)
    obtain ⟨cs6, hcs6, scs6⟩ := c6.sh.blk
    have lk6 := c6.sh.lck
    rw [hc_of hcs6] at lk6
    refine retU (o := 0) (.inl rfl) (res2 Yba.results4 rfl rfl) hcs6 lk6 ?_
    intro h' uu
    have wu := Wr.of hcs6 (by omega) uu
    exact ⟨((f3.trans f5).trans f6).trans (c6.frmLock wu), .inr ⟨j, hj, hkey, rfl, c6.lock wu⟩⟩
end Go.Proofs.Ybulkdire
