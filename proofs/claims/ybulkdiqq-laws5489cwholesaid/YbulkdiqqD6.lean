/-
  D6: keys that are numbers; run.rank, newBeaconNode, run.note.
-/
import Derived.Test.YbulkdiqqD5
namespace Go.Proofs.Ybulkdiqq
set_option linter.unusedSimpArgs false
set_option linter.unusedVariables false
set_option linter.unnecessarySimpa false
open Go Go.RowKit V
set_option maxRecDepth 100000

def keyU (k : Int) : Value := .int .u64 k
abbrev ML := List (Int × Value)
theorem keyEnc50 : KeyEnc Yba.prog 50 keyU where
  check w em x := by
    have c1 : ∀ (n : Nat), (Instr.checkKey em (n + 1) 50 (keyU x)).run Yba.prog w = .ok () w := fun n => by
      unfold Instr.checkKey keyU
      simp [run_underlying Yba.underlying50]
    exact c1 9999
  find w x L es h := by
    have now : ∀ (es : List MapEntry) (L : ML) (i : Nat), es.map (fun e => (e.key, e.val)) = L.map (fun p => (keyU p.1, p.2)) → Instr.findNow (.int .u64) (keyU x) es i = some (posM L x i) := by
      intro es
      induction es with
      | nil => intro L i h; cases L with
        | nil => simp [Instr.findNow, posM]
        | cons p L => simp at h
      | cons e es ih =>
        intro L i h
        cases L with
        | nil => simp at h
        | cons p L =>
          obtain ⟨k, v⟩ := p
          simp only [List.map_cons, List.cons.injEq, Prod.mk.injEq] at h
          obtain ⟨⟨hk, hv⟩, ht⟩ := h
          have hs : Instr.sameNow (.int .u64) (keyU x) (keyU k) = some (x == k) := by simp [Instr.sameNow, keyU]
          unfold Instr.findNow posM
          rw [hk, hs]
          by_cases e1 : k = x
          · subst e1; simp [hv]
          · have e2 : (x == k) = false := by simpa using fun e : x = k => e1 e.symm
            rw [e2, if_neg e1]
            exact ih L (i + 1) ht
    simp [Instr.findKey, run_underlying Yba.underlying50, now es L 0 h]
  stays w x := by
    have c1 : ∀ n : Nat, Instr.sameBits n (keyU x) (keyU x) = true := fun n => by
      simp [keyU, Instr.sameBits]
    unfold Instr.keyThatStays
    rw [if_pos (c1 10000)]
    rfl

/-- The priority of id. -/
def prio (L : ML) (id : Int) : Value := (getM L id).getD (.int .u64 0)

theorem p_build62 {l : Env} {h : Heap} {ty : TypeId} {x y : Operand} {a b : Int} (h0 : ev l x = some (.int .u64 a)) (h1 : ev l y = some (.int .u64 b)) :
    Pur Yba.prog (.build 62 #[(0, x), (1, y)]) ty l h (.agg [.int .u64 a, .int .u64 b].toArray) := by
  refine ⟨fun ρ w d p af g hρ hw => ?_⟩
  simp only [execOp, Instr.build, List.map_toArray, List.map_cons, List.map_nil, hρ _ _ h0, hρ _ _ h1]
  simp [Yba.zeroValue62, run_underlying Yba.underlying62, Array.mapM_eq_mapM_toList, List.mapM_cons, Yba.sizeOf50, Instr.fill, Value.cells]

set_option maxHeartbeats 4000000 in
theorem rank_ok (h : Heap) (rb pb : Nat) (L : ML) (id p : Int) (c0 : hc h rb 0 = some (.map (some pb))) (mp : MapAt keyU h pb L) (hp : prio L id = .int .u64 p) :
    CallsH Yba.prog 22 #[.pointer (some ⟨rb, 0, none⟩), .int .u64 id] h (fun u h' => u = .agg [.int .u64 p, .int .u64 id].toArray ∧ Kp h h') := by
  refine calls_of (N := 13) [(0, .pointer (some ⟨rb, 0, none⟩)), (1, .int .u64 id)] Yba.func22 rfl rfl (by simp) (by repeat (first | exact ArgsAre.nil | refine ArgsAre.cons rfl ?_)) ?_
  intro w0 _
  refine c_mid [(0, .pointer (some ⟨rb, 0, none⟩)), (1, .int .u64 id), (4, .pointer (some ⟨h.size, 0, none⟩))] (fun q => New h q (.cells [.int .u64 0, .int .u64 0].toArray 62)) ?_ ?_
  · repeat (first | refine c_seq ?_ | refine c_region ?_ | refine c_block ?_ | refine c_skip ?_ | refine c_exit ?_ | refine c_ret ?_ | refine n_then ?_ | refine n_block ?_ | refine x_then ?_ | refine x_block_eq ?_ | refine x_block_ne rfl ?_ | refine r_then ?_ | refine r_block ?_ | refine s_nil ?_ | refine c_true rfl ?_ | refine c_false rfl ?_ | refine s_pur (p_move rfl) rfl ?_ | refine s_pur (p_assign rfl) rfl ?_ | refine s_pur (p_nil rfl) rfl ?_ | refine s_pur (p_pick_t rfl rfl) rfl ?_ | refine s_pur (p_pick_f rfl rfl) rfl ?_)
    refine s_eff (e_alloc Yba.zeroValue62) rfl ?_
    rintro _ q ⟨rfl, nq⟩
    repeat (first | refine c_seq ?_ | refine c_region ?_ | refine c_block ?_ | refine c_skip ?_ | refine c_exit ?_ | refine c_ret ?_ | refine n_then ?_ | refine n_block ?_ | refine x_then ?_ | refine x_block_eq ?_ | refine x_block_ne rfl ?_ | refine r_then ?_ | refine r_block ?_ | refine s_nil ?_ | refine c_true rfl ?_ | refine c_false rfl ?_ | refine s_pur (p_move rfl) rfl ?_ | refine s_pur (p_assign rfl) rfl ?_ | refine s_pur (p_nil rfl) rfl ?_ | refine s_pur (p_pick_t rfl rfl) rfl ?_ | refine s_pur (p_pick_f rfl rfl) rfl ?_)
    exact m_done nq (by repeat (first | exact Sub.nil | refine Sub.cons rfl ?_))
  intro q nq
  have k := Kp.of nq
  have c1 : hc q rb (0 + 0) = some (.map (some pb)) := k.cell c0
  have m1 : MapAt keyU q pb L := mp.keep (k.same pb mp.lt)
  repeat (first | refine c_seq ?_ | refine c_region ?_ | refine c_block ?_ | refine c_skip ?_ | refine c_exit ?_ | refine c_ret ?_ | refine n_then ?_ | refine n_block ?_ | refine x_then ?_ | refine x_block_eq ?_ | refine x_block_ne rfl ?_ | refine r_then ?_ | refine r_block ?_ | refine s_nil ?_ | refine c_true rfl ?_ | refine c_false rfl ?_ | refine s_pur (p_move rfl) rfl ?_ | refine s_pur (p_assign rfl) rfl ?_ | refine s_pur (p_nil rfl) rfl ?_ | refine s_pur (p_pick_t rfl rfl) rfl ?_ | refine s_pur (p_pick_f rfl rfl) rfl ?_ | refine s_pur (p_fld (off := 0) rfl Yba.underlying104 rfl Yba.sizeOf56 rfl) rfl ?_ | refine s_pur (p_load rfl Yba.isAgg56 (by assumption)) rfl ?_ | refine s_pur (p_lookup' (v := .int .u64 p) keyEnc50 (key := id) rfl rfl Yba.underlying56 Yba.zeroValue50 m1 hp) rfl ?_ | refine s_pur (p_build62 rfl rfl) rfl ?_)
  refine s_eff0 (e_storeAll (vs := [.int .u64 p, .int .u64 id]) rfl rfl Yba.sizeOf62 rfl nq.at_ rfl (by simp [Value.oneCell'])) ?_
  intro _ q2 u2
  repeat (first | refine c_seq ?_ | refine c_region ?_ | refine c_block ?_ | refine c_skip ?_ | refine c_exit ?_ | refine c_ret ?_ | refine n_then ?_ | refine n_block ?_ | refine x_then ?_ | refine x_block_eq ?_ | refine x_block_ne rfl ?_ | refine r_then ?_ | refine r_block ?_ | refine s_nil ?_ | refine c_true rfl ?_ | refine c_false rfl ?_ | refine s_pur (p_move rfl) rfl ?_ | refine s_pur (p_assign rfl) rfl ?_ | refine s_pur (p_nil rfl) rfl ?_ | refine s_pur (p_pick_t rfl rfl) rfl ?_ | refine s_pur (p_pick_f rfl rfl) rfl ?_)
  exact retCell (vs := [.int .u64 p, .int .u64 id]) (.inl rfl) Yba.results22 rfl Yba.isAgg62 Yba.sizeOf62 rfl (fun j hj => by rw [hc_of u2.at_, Nat.zero_add]; simp) ⟨rfl, ⟨by rw [u2.size]; have := nq.size; omega, fun b hb => by rw [u2.other b (by omega), nq.other b hb]⟩⟩

def node (p id per tmo : Int) : List Value := [.int .u64 p, .int .u64 id, .int .u64 p, .int .u64 id, .int .u64 1, .int .u64 1, .int .i64 per, .int .i64 tmo, .slice none 0 0, .slice none 0 0]
def bres (p id per : Int) : List Value := [.int .u64 p, .int .u64 id, .int .u64 1, .slice none 0 0, .bool false, .int .i64 per]

theorem p_build64 {l : Env} {h : Heap} {ty : TypeId} {x y : Operand} {a b c : Int} (h0 : ev l x = some (.agg [.int .u64 a, .int .u64 b].toArray)) (h1 : ev l y = some (.int .u64 c)) :
    Pur Yba.prog (.build 64 #[(0, x), (1, y)]) ty l h (.agg [.int .u64 a, .int .u64 b, .int .u64 c].toArray) := by
  refine ⟨fun ρ w d p af g hρ hw => ?_⟩
  simp only [execOp, Instr.build, List.map_toArray, List.map_cons, List.map_nil, hρ _ _ h0, hρ _ _ h1]
  simp [Yba.zeroValue64, run_underlying Yba.underlying64, Array.mapM_eq_mapM_toList, List.mapM_cons, Yba.sizeOf50, Yba.sizeOf62, Instr.fill, Value.cells]
theorem p_build66 {l : Env} {h : Heap} {ty : TypeId} {x y z u v : Operand} {a b per tmo : Int} (h0 : ev l x = some (.agg [.int .u64 a, .int .u64 b].toArray)) (h1 : ev l y = some (.agg [.int .u64 a, .int .u64 b, .int .u64 1].toArray)) (h2 : ev l z = some (.int .u64 1)) (h3 : ev l u = some (.int .i64 per)) (h4 : ev l v = some (.int .i64 tmo)) :
    Pur Yba.prog (.build 66 #[(0, x), (1, y), (2, z), (3, u), (4, v)]) ty l h (.agg (node a b per tmo).toArray) := by
  refine ⟨fun ρ w d p af g hρ hw => ?_⟩
  simp only [execOp, Instr.build, List.map_toArray, List.map_cons, List.map_nil, hρ _ _ h0, hρ _ _ h1, hρ _ _ h2, hρ _ _ h3, hρ _ _ h4]
  simp [Yba.zeroValue66, run_underlying Yba.underlying66, Array.mapM_eq_mapM_toList, List.mapM_cons, Yba.sizeOf50, Yba.sizeOf62, Yba.sizeOf64, Yba.sizeOf2, Yba.sizeOf52, Instr.fill, Value.cells, node]
theorem p_build118 {l : Env} {h : Heap} {ty : TypeId} {x y : Operand} {a b per : Int} (h0 : ev l x = some (.agg [.int .u64 a, .int .u64 b, .int .u64 1].toArray)) (h1 : ev l y = some (.int .i64 per)) :
    Pur Yba.prog (.build 118 #[(0, x), (3, y)]) ty l h (.agg (bres a b per).toArray) := by
  refine ⟨fun ρ w d p af g hρ hw => ?_⟩
  simp only [execOp, Instr.build, List.map_toArray, List.map_cons, List.map_nil, hρ _ _ h0, hρ _ _ h1]
  simp [Yba.zeroValue118, run_underlying Yba.underlying118, Array.mapM_eq_mapM_toList, List.mapM_cons, Yba.sizeOf50, Yba.sizeOf64, Yba.sizeOf2, Yba.sizeOf52, Yba.sizeOf4, Instr.fill, Value.cells, bres]

theorem retTC {P : Program} {l : Env} {h : Heap} {m : Nat} {w0 : World} {fn : Func} {R : Value → Heap → Prop} {s t b n : Nat} {tt : TypeId} {u : Value} {vs : List Value} (hres : fn.results = #[.tmp s, .cell t tt]) (hu : V.look l s = some u) (hv : V.look l t = some (.pointer (some ⟨b, 0, none⟩)))
    (ha : ∀ w, (isAgg tt).run P w = .ok true w) (hs : ∀ w, (sizeOf tt).run P w = .ok n w) (hl : vs.length = n) (hc : ∀ j, j < n → hc h b (0 + j) = vs[j]?) (hR : R (.tuple #[u, .agg vs.toArray]) h) :
    V.Fin ⟨m, []⟩ w0 (XW (bodyPost P fn (PostR w0 R)) .ret) l h := by
  refine ⟨fun a w ha' hw => ?_⟩
  have hld := loadFrom (P := P) w b 0 n 0 #[] vs hl (fun j hj => by rw [cell_hc, hw.heap]; simpa using hc j hj)
  have hrun : (results fn a.tmps).run P w = .ok (.tuple #[u, .agg vs.toArray]) w := by
    have h1 := ha'.slot s _ hu
    have h2 := ha'.slot t _ hv
    rw [Array.getD_eq_getD_getElem?] at h1 h2
    simp [results, hres, h1, h2, loadVar, ha, hs, loadCells, hld, asAddr]
  exact ⟨ha'.defers, _, hrun, _, rfl, by rw [hw.heap]; exact hR, hw.os, hw.tape, hw.output⟩

set_option maxHeartbeats 4000000 in
theorem newNode_ok (h : Heap) (p id per miss hor : Int) :
    CallsH Yba.prog 21 #[.agg [.int .u64 p, .int .u64 id].toArray, .agg [.int .i64 per, .int .i64 miss, .int .i64 hor].toArray] h
      (fun u h' => Kp h h' ∧ ∃ nd, u = .tuple #[.pointer (some ⟨nd, 0, none⟩), .agg (bres p id per).toArray] ∧ h.size ≤ nd ∧ h'[nd]? = some (.cells (node p id per (IntKind.i64.wrap (miss * per))).toArray 66 (0, 0))) := by
  refine calls_of (N := 29) [(0, .agg [.int .u64 p, .int .u64 id].toArray), (1, .agg [.int .i64 per, .int .i64 miss, .int .i64 hor].toArray)] Yba.func21 rfl rfl (by simp) (by repeat (first | exact ArgsAre.nil | refine ArgsAre.cons rfl ?_)) ?_
  intro w0 _
  refine c_mid [(2, .pointer (some ⟨h.size, 0, none⟩)), (3, .pointer (some ⟨h.size + 1, 0, none⟩)), (5, .pointer (some ⟨h.size + 2, 0, none⟩))] (fun q => Kp h q ∧ q.size = h.size + 3 ∧ q[h.size]? = some (.cells [.int .u64 p, .int .u64 id].toArray 62 (0, 0)) ∧ q[h.size + 1]? = some (.cells [.int .i64 per, .int .i64 miss, .int .i64 hor].toArray 84 (0, 0)) ∧ ∃ c : Array Value, q[h.size + 2]? = some (.cells c 118 (0, 0)) ∧ c.size = 6) ?_ ?_
  · repeat (first | refine c_seq ?_ | refine c_region ?_ | refine c_block ?_ | refine c_skip ?_ | refine c_exit ?_ | refine c_ret ?_ | refine n_then ?_ | refine n_block ?_ | refine x_then ?_ | refine x_block_eq ?_ | refine x_block_ne rfl ?_ | refine r_then ?_ | refine r_block ?_ | refine s_nil ?_ | refine c_true rfl ?_ | refine c_false rfl ?_ | refine s_pur (p_move rfl) rfl ?_ | refine s_pur (p_assign rfl) rfl ?_ | refine s_pur (p_nil rfl) rfl ?_ | refine s_pur (p_pick_t rfl rfl) rfl ?_ | refine s_pur (p_pick_f rfl rfl) rfl ?_)
    refine s_eff (e_box rfl) rfl ?_
    rintro _ q ⟨rfl, nq⟩
    have e1 : Array.size q = h.size + 1 := nq.size
    refine s_eff (e_box rfl) rfl ?_
    rintro _ q2 ⟨rfl, nq2⟩
    have e2 : Array.size q2 = h.size + 2 := by rw [nq2.size, e1]
    have a2 := nq2.at_
    rw [e1] at a2
    rw [e1]
    repeat (first | refine c_seq ?_ | refine c_region ?_ | refine c_block ?_ | refine c_skip ?_ | refine c_exit ?_ | refine c_ret ?_ | refine n_then ?_ | refine n_block ?_ | refine x_then ?_ | refine x_block_eq ?_ | refine x_block_ne rfl ?_ | refine r_then ?_ | refine r_block ?_ | refine s_nil ?_ | refine c_true rfl ?_ | refine c_false rfl ?_ | refine s_pur (p_move rfl) rfl ?_ | refine s_pur (p_assign rfl) rfl ?_ | refine s_pur (p_nil rfl) rfl ?_ | refine s_pur (p_pick_t rfl rfl) rfl ?_ | refine s_pur (p_pick_f rfl rfl) rfl ?_)
    refine s_eff (e_alloc Yba.zeroValue118) rfl ?_
    rintro _ q3 ⟨rfl, nq3⟩
    have a3 := nq3.at_
    rw [e2] at a3
    rw [e2]
    repeat (first | refine c_seq ?_ | refine c_region ?_ | refine c_block ?_ | refine c_skip ?_ | refine c_exit ?_ | refine c_ret ?_ | refine n_then ?_ | refine n_block ?_ | refine x_then ?_ | refine x_block_eq ?_ | refine x_block_ne rfl ?_ | refine r_then ?_ | refine r_block ?_ | refine s_nil ?_ | refine c_true rfl ?_ | refine c_false rfl ?_ | refine s_pur (p_move rfl) rfl ?_ | refine s_pur (p_assign rfl) rfl ?_ | refine s_pur (p_nil rfl) rfl ?_ | refine s_pur (p_pick_t rfl rfl) rfl ?_ | refine s_pur (p_pick_f rfl rfl) rfl ?_)
    exact m_done ⟨((Kp.of nq).trans (Kp.of nq2)).trans (Kp.of nq3), by rw [nq3.size, e2], by rw [nq3.other _ (by omega), nq2.other _ (by omega)]; exact nq.at_, by rw [nq3.other _ (by omega)]; exact a2, _, a3, rfl⟩ (by repeat (first | exact Sub.nil | refine Sub.cons rfl ?_))
  rintro q ⟨kq, sq, b0, b1, c, b2, sc⟩
  have l62 : ∀ j, j < 2 → hc q h.size (0 + j) = ([.int .u64 p, .int .u64 id] : List Value)[j]? := fun j hj => by rw [hc_of b0, Nat.zero_add]; simp
  have m0 : hc q (h.size + 1) (0 + 0) = some (.int .i64 per) := by rw [hc_of b1]; rfl
  have m1 : hc q (h.size + 1) (0 + 1) = some (.int .i64 miss) := by rw [hc_of b1]; rfl
  refine c_mid [(5, .pointer (some ⟨h.size + 2, 0, none⟩)), (6, .pointer (some ⟨h.size + 3, 0, none⟩))] (fun x => New q x (.cells (node p id per (IntKind.i64.wrap (miss * per))).toArray 66)) ?_ ?_
  · repeat (first | refine c_seq ?_ | refine c_region ?_ | refine c_block ?_ | refine c_skip ?_ | refine c_exit ?_ | refine c_ret ?_ | refine n_then ?_ | refine n_block ?_ | refine x_then ?_ | refine x_block_eq ?_ | refine x_block_ne rfl ?_ | refine r_then ?_ | refine r_block ?_ | refine s_nil ?_ | refine c_true rfl ?_ | refine c_false rfl ?_ | refine s_pur (p_move rfl) rfl ?_ | refine s_pur (p_assign rfl) rfl ?_ | refine s_pur (p_nil rfl) rfl ?_ | refine s_pur (p_pick_t rfl rfl) rfl ?_ | refine s_pur (p_pick_f rfl rfl) rfl ?_ | refine s_pur (p_fld (off := 0) rfl Yba.underlying84 rfl Yba.sizeOf2 rfl) rfl ?_ | refine s_pur (p_fld (off := 1) rfl Yba.underlying84 rfl Yba.sizeOf2 rfl) rfl ?_ | refine s_pur (p_load rfl Yba.isAgg2 (by assumption)) rfl ?_ | refine s_pur (p_loadA (vs := [.int .u64 p, .int .u64 id]) rfl Yba.isAgg62 Yba.sizeOf62 rfl l62) rfl ?_ | refine s_pur (p_build64 rfl rfl) rfl ?_ | refine s_pur (p_mulW rfl rfl) rfl ?_ | refine s_pur (p_build66 rfl rfl rfl rfl rfl) rfl ?_)
    refine s_eff (e_box rfl) rfl ?_
    rintro _ x ⟨rfl, nx⟩
    rw [sq]
    repeat (first | refine c_seq ?_ | refine c_region ?_ | refine c_block ?_ | refine c_skip ?_ | refine c_exit ?_ | refine c_ret ?_ | refine n_then ?_ | refine n_block ?_ | refine x_then ?_ | refine x_block_eq ?_ | refine x_block_ne rfl ?_ | refine r_then ?_ | refine r_block ?_ | refine s_nil ?_ | refine c_true rfl ?_ | refine c_false rfl ?_ | refine s_pur (p_move rfl) rfl ?_ | refine s_pur (p_assign rfl) rfl ?_ | refine s_pur (p_nil rfl) rfl ?_ | refine s_pur (p_pick_t rfl rfl) rfl ?_ | refine s_pur (p_pick_f rfl rfl) rfl ?_)
    exact m_done nx (by repeat (first | exact Sub.nil | refine Sub.cons rfl ?_))
  intro x nx
  have ax : x[h.size + 3]? = some (.cells (node p id per (IntKind.i64.wrap (miss * per))).toArray 66 (0, 0)) := by have := nx.at_; rw [sq] at this; exact this
  have b2x : x[h.size + 2]? = some (.cells c 118 (0, 0)) := by rw [nx.other _ (by omega)]; exact b2
  have l64 : ∀ j, j < 3 → hc x (h.size + 3) (0 + 2 + j) = ([.int .u64 p, .int .u64 id, .int .u64 1] : List Value)[j]? := fun j hj => by
    rw [hc_of ax]
    rcases (by omega : j = 0 ∨ j = 1 ∨ j = 2) with rfl | rfl | rfl <;> rfl
  have l6 : hc x (h.size + 3) (0 + 6) = some (.int .i64 per) := by rw [hc_of ax]; rfl
  refine c_seq ?_
  refine c_held followsM rfl ?_
  refine h_any 0 rfl (by kernel_rfl) rfl (fun _ => p_move rfl) rfl ?_
  refine h_any 1 rfl (by kernel_rfl) rfl (fun _ => p_move rfl) rfl ?_
  refine h_any 2 rfl (by kernel_rfl) rfl (fun _ => p_nil rfl) rfl ?_
  refine h_any 3 rfl (by kernel_rfl) rfl (fun _ => p_fld (off := 2) rfl Yba.underlying66 rfl Yba.sizeOf64 rfl) rfl ?_
  refine h_any 5 rfl (by kernel_rfl) rfl (fun _ => p_move rfl) rfl ?_
  refine h_any 6 rfl (by kernel_rfl) rfl (fun _ => p_nil rfl) rfl ?_
  refine h_any 7 rfl (by kernel_rfl) rfl (fun _ => p_fld (off := 6) rfl Yba.underlying66 rfl Yba.sizeOf2 rfl) rfl ?_
  refine h_any 10 rfl (by kernel_rfl) rfl (fun _ => p_assign rfl) rfl ?_
  refine h_take 4 rfl (by kernel_rfl) rfl (p_loadA (vs := [.int .u64 p, .int .u64 id, .int .u64 1]) rfl Yba.isAgg64 Yba.sizeOf64 rfl l64) rfl ?_
  refine h_take 8 rfl (by kernel_rfl) rfl (p_load rfl Yba.isAgg2 l6) rfl ?_
  refine h_any 9 rfl (by kernel_rfl) rfl (fun _ => p_build118 rfl rfl) rfl ?_
  refine h_eff0 11 rfl (by kernel_rfl) rfl (e_storeAll (vs := bres p id per) rfl rfl Yba.sizeOf118 rfl b2x sc (by simp [bres, Value.oneCell'])) ?_
  intro _ y uy
  refine h_done (by kernel_rfl) ?_
  repeat (first | refine c_seq ?_ | refine c_region ?_ | refine c_block ?_ | refine c_skip ?_ | refine c_exit ?_ | refine c_ret ?_ | refine n_then ?_ | refine n_block ?_ | refine x_then ?_ | refine x_block_eq ?_ | refine x_block_ne rfl ?_ | refine r_then ?_ | refine r_block ?_ | refine s_nil ?_ | refine c_true rfl ?_ | refine c_false rfl ?_ | refine s_pur (p_move rfl) rfl ?_ | refine s_pur (p_assign rfl) rfl ?_ | refine s_pur (p_nil rfl) rfl ?_ | refine s_pur (p_pick_t rfl rfl) rfl ?_ | refine s_pur (p_pick_f rfl rfl) rfl ?_)
  exact retTC (vs := bres p id per) Yba.results21 rfl rfl Yba.isAgg118 Yba.sizeOf118 rfl (fun j hj => by rw [hc_of uy.at_, Nat.zero_add]; simp) ⟨⟨by rw [uy.size]; have := nx.size; omega, fun b hb => by rw [uy.other b (by omega), nx.other b (by omega), kq.same b hb]⟩, h.size + 3, rfl, by omega, by rw [uy.other _ (by omega)]; exact ax⟩
end Go.Proofs.Ybulkdiqq
