/-
  E7: link.LawS5492CWhole, whole.
-/
import Derived.Test.YbulkdisgE6
namespace Go.Proofs.Ybulkdisg
set_option linter.unusedSimpArgs false
set_option linter.unusedVariables false
set_option linter.unnecessarySimpa false
open Go Go.RowKit V
set_option maxRecDepth 100000

theorem info4 : ∃ i, Yba.prog.info? 4 = some i ∧ i.zero = some (.bool false) ∧ i.size = 1 ∧ i.bytes = 1 := info_parts (by kernel_rfl)
theorem app25 {l : Env} {h : Heap} {ty : TypeId} {x y : Operand} {base n b : Nat} {v : Value} {u : Bool} {xs : List Value} (hx : ev l x = some v) (hy : ev l y = some (.slice (some ⟨b, 0, none⟩) 1 1))
    (hown : Owns h base 4 1 v n xs) (hb : hc h b 0 = some (.bool u)) (hn : n ≤ 1099511627776) (hbase : base ≤ h.size) :
    Eff Yba.prog (.call { callee := .builtin .append, args := #[x, y], argTypes := #[25, 25] }) ty l h
      (fun v' h' => Owns h' base 4 1 v' (n + 1) (xs ++ [.bool u]) ∧ Grow h h' v.ownBlock ∧ ¬ v' = .slice none 0 0 ∧ (v'.ownBlock = v.ownBlock ∨ v'.ownBlock = some h.size)) := by
  obtain ⟨i, hi, hz, hs, hby⟩ := info4
  exact e_append1 hx hy Yba.underlying25 hi hz hs hby rfl hown hb rfl (by simp only [maxLen]; omega) (by omega) hbase

theorem p_build41 {l : Env} {h : Heap} {ty : TypeId} {x y : Operand} {z : Int} {b : Bool} (h0 : ev l x = some (.int .i64 z)) (h1 : ev l y = some (.bool b)) :
    Pur Yba.prog (.build 41 #[(1, x), (2, y)]) ty l h (.agg #[.int .u64 0, .int .u64 0, .pointer none, .int .u8 0, .int .i64 z, .bool b]) := by
  refine ⟨fun ρ w d p af g hρ hw => ?_⟩
  simp only [execOp, Instr.build, List.map_toArray, List.map_cons, List.map_nil, hρ _ _ h0, hρ _ _ h1]
  simp [Yba.zeroValue41, run_underlying Yba.underlying41, Array.mapM_eq_mapM_toList, List.mapM_cons, Yba.sizeOf3, Yba.sizeOf4, Yba.sizeOf39, Instr.fill, Value.cells]

def lsI (PL : Nat → Int) (i : Nat) : List Value := (List.range i).map fun j => .int .i64 (PL j)
def lsB (PM : Nat → Bool) (i : Nat) : List Value := (List.range i).map fun j => .bool (PM j)
theorem lsI_succ (PL : Nat → Int) (i : Nat) : lsI PL (i + 1) = lsI PL i ++ [.int .i64 (PL i)] := by simp [lsI, List.range_succ]
theorem lsB_succ (PM : Nat → Bool) (i : Nat) : lsB PM (i + 1) = lsB PM i ++ [.bool (PM i)] := by simp [lsB, List.range_succ]
theorem lsI_get (PL : Nat → Int) (i j : Nat) (h : j < i) : (lsI PL i)[j]? = some (.int .i64 (PL j)) := by simp [lsI, h]
theorem lsB_get (PM : Nat → Bool) (i j : Nat) (h : j < i) : (lsB PM i)[j]? = some (.bool (PM j)) := by simp [lsB, h]

/-- The pool as it came in. -/
def PoolIn (h : Heap) (pa : Option Addr) (n0 : Nat) (PL : Nat → Int) (PM : Nat → Bool) : Prop :=
  ∀ i, i < n0 → ∃ b o, pa = some ⟨b, o, none⟩ ∧ hc h b (o + i * 2 + 0) = some (.int .i64 (PL i)) ∧ hc h b (o + i * 2 + 1) = some (.bool (PM i))

set_option maxHeartbeats 8000000 in
theorem partB {h q : Heap} {np nv lb mb cL cM vc : Nat} {va : Option Addr} {PL : Nat → Int} {PM : Nat → Bool} {IA : Nat → Option Addr} {Mi IC : Nat → Nat} {Z : Nat → Nat → Nat}
    (lo : Low h.size h q) (lk : ∀ j, j < np → hc q lb (0 + j) = some (.int .i64 (PL j))) (mm : ∀ j, j < np → hc q mb (0 + j) = some (.bool (PM j))) (hnp : np ≤ 65536) (h1 : 1 ≤ np)
    (hvi : VisIn h va nv IA Mi IC Z) (hnv : nv ≤ 65536) {w0 : World} {R : Value → Heap → Prop} (hR : ∀ h', Low h.size h h' → R (.bool true) h') :
    V.Fin 327 w0 (CW Yba.prog (V.sub (Yba.f3.body.getD .skip) [1, 1, 1, 1, 1, 1, 1, 1]) (bodyPost Yba.prog Yba.f3 (PostR w0 R)))
      [(1, .slice va nv vc), (5, .int .i64 4), (6, .int .i64 np), (7, .slice (some ⟨lb, 0, none⟩) np cL), (8, .slice (some ⟨mb, 0, none⟩) np cM)] q := by
  obtain ⟨i29, hi29, hz29, hs29, hb29⟩ := info29
  refine c_mid [(1, .slice va nv vc), (5, .int .i64 4), (6, .int .i64 np), (7, .slice (some ⟨lb, 0, none⟩) np cL), (8, .slice (some ⟨mb, 0, none⟩) np cM), (10, .slice (some ⟨q.size, 0, none⟩) np np)] (fun x => Low q.size q x ∧ PtrAt x q.size 29 np 0 (fun _ => 0)) ?_ ?_
  · repeat (first | refine c_seq ?_ | refine c_region ?_ | refine c_block ?_ | refine c_skip ?_ | refine c_exit ?_ | refine c_ret ?_ | refine n_then ?_ | refine n_block ?_ | refine x_then ?_ | refine x_block_eq ?_ | refine x_block_ne rfl ?_ | refine r_then ?_ | refine r_block ?_ | refine s_nil ?_ | refine c_true rfl ?_ | refine c_false rfl ?_ | refine s_pur (p_move rfl) rfl ?_ | refine s_pur (p_assign rfl) rfl ?_ | refine s_pur (p_nil rfl) rfl ?_ | refine s_pur (p_pick_t rfl rfl) rfl ?_ | refine s_pur (p_pick_f rfl rfl) rfl ?_)
    refine s_eff (e_make rfl rfl Yba.underlying28 hi29 hz29 (Nat.le_refl _) (by rw [hb29]; omega) (by omega)) rfl ?_
    rintro _ x ⟨rfl, nx⟩
    repeat (first | refine c_seq ?_ | refine c_region ?_ | refine c_block ?_ | refine c_skip ?_ | refine c_exit ?_ | refine c_ret ?_ | refine n_then ?_ | refine n_block ?_ | refine x_then ?_ | refine x_block_eq ?_ | refine x_block_ne rfl ?_ | refine r_then ?_ | refine r_block ?_ | refine s_nil ?_ | refine c_true rfl ?_ | refine c_false rfl ?_ | refine s_pur (p_move rfl) rfl ?_ | refine s_pur (p_assign rfl) rfl ?_ | refine s_pur (p_nil rfl) rfl ?_ | refine s_pur (p_pick_t rfl rfl) rfl ?_ | refine s_pur (p_pick_f rfl rfl) rfl ?_)
    exact m_done ⟨(Low.refl _ _).new nx (Nat.le_refl _), _, nx.at_, by simp [madeCells, hs29], fun i hi => by omega⟩ (by repeat (first | exact Sub.nil | refine Sub.cons rfl ?_))
  rintro q1 ⟨lo1, p1⟩
  refine c_seq ?_
  repeat (first | refine c_seq ?_ | refine c_region ?_ | refine c_block ?_ | refine c_skip ?_ | refine c_exit ?_ | refine c_ret ?_ | refine n_then ?_ | refine n_block ?_ | refine x_then ?_ | refine x_block_eq ?_ | refine x_block_ne rfl ?_ | refine r_then ?_ | refine r_block ?_ | refine s_nil ?_ | refine c_true rfl ?_ | refine c_false rfl ?_ | refine s_pur (p_move rfl) rfl ?_ | refine s_pur (p_assign rfl) rfl ?_ | refine s_pur (p_nil rfl) rfl ?_ | refine s_pur (p_pick_t rfl rfl) rfl ?_ | refine s_pur (p_pick_f rfl rfl) rfl ?_)
  refine c_loop (fun x : Nat × (Nat → Nat) => [(1, .slice va nv vc), (5, .int .i64 4), (6, .int .i64 np), (7, .slice (some ⟨lb, 0, none⟩) np cL), (8, .slice (some ⟨mb, 0, none⟩) np cM), (10, .slice (some ⟨q.size, 0, none⟩) np np), (11, .int .i64 x.1)])
    (fun x y => x.1 ≤ np ∧ Low q.size q y ∧ PtrAt y q.size 29 np x.1 x.2 ∧ ∀ t, t < x.1 → q.size < x.2 t ∧ hc y (x.2 t) (0 + 4) = some (.int .i64 (PL t)) ∧ hc y (x.2 t) (0 + 5) = some (.bool (PM t))) (fun x => np - x.1) (0, fun _ => 0) ⟨by omega, lo1, p1, fun t ht => by simp at ht⟩ (by repeat (first | exact Sub.nil | refine Sub.cons rfl ?_)) ?_
  rintro ⟨k, xb⟩ y ⟨hk, loy, py, hx⟩
  simp only at hk py hx
  refine cut [(1, .slice va nv vc), (5, .int .i64 4), (6, .int .i64 np), (7, .slice (some ⟨lb, 0, none⟩) np cL), (8, .slice (some ⟨mb, 0, none⟩) np cM), (10, .slice (some ⟨q.size, 0, none⟩) np np), (11, .int .i64 k)] Sub.refl ?_
  by_cases hlt : k < np
  · obtain ⟨c, hcy, scy, gcy⟩ := py
    have e1 := low_hc loy (lk k hlt)
    have e2 := low_hc loy (mm k hlt)
    have sy := lt_of_get hcy
    repeat (first | refine c_seq ?_ | refine c_region ?_ | refine c_block ?_ | refine c_skip ?_ | refine c_exit ?_ | refine c_ret ?_ | refine n_then ?_ | refine n_block ?_ | refine x_then ?_ | refine x_block_eq ?_ | refine x_block_ne rfl ?_ | refine r_then ?_ | refine r_block ?_ | refine s_nil ?_ | refine c_true rfl ?_ | refine c_false rfl ?_ | refine s_pur (p_move rfl) rfl ?_ | refine s_pur (p_assign rfl) rfl ?_ | refine s_pur (p_nil rfl) rfl ?_ | refine s_pur (p_pick_t rfl rfl) rfl ?_ | refine s_pur (p_pick_f rfl rfl) rfl ?_ | refine s_pur (p_lssT rfl rfl (by omega)) rfl ?_ | refine s_pur (p_lssF rfl rfl (by omega)) rfl ?_ | refine s_pur (p_leqT rfl rfl (by omega)) rfl ?_ | refine s_pur (p_leqF rfl rfl (by omega)) rfl ?_ | refine s_pur (p_gtrT rfl rfl (by omega)) rfl ?_ | refine s_pur (p_gtrF rfl rfl (by omega)) rfl ?_ | refine s_pur (p_geqT rfl rfl (by omega)) rfl ?_ | refine s_pur (p_geqF rfl rfl (by omega)) rfl ?_ | refine s_pur (p_eqlT rfl rfl (by omega)) rfl ?_ | refine s_pur (p_eqlF rfl rfl (by omega)) rfl ?_ | refine s_pur (p_neqT rfl rfl (by omega)) rfl ?_ | refine s_pur (p_neqF rfl rfl (by omega)) rfl ?_)
    refine c_held followsM rfl ?_
    refine h_any 0 rfl (by kernel_rfl) rfl (fun _ => p_move rfl) rfl ?_
    refine h_any 1 rfl (by kernel_rfl) rfl (fun _ => p_move rfl) rfl ?_
    refine h_any 2 rfl (by kernel_rfl) rfl (fun _ => p_move rfl) rfl ?_
    refine h_any 3 rfl (by kernel_rfl) rfl (fun _ => p_move rfl) rfl ?_
    refine h_any 4 rfl (by kernel_rfl) rfl (fun _ => p_idx1 (j := k) rfl rfl rfl hlt Yba.underlying24 Yba.sizeOf3) rfl ?_
    refine h_any 6 rfl (by kernel_rfl) rfl (fun _ => p_move rfl) rfl ?_
    refine h_any 7 rfl (by kernel_rfl) rfl (fun _ => p_move rfl) rfl ?_
    refine h_any 8 rfl (by kernel_rfl) rfl (fun _ => p_idx1 (j := k) rfl rfl rfl hlt Yba.underlying25 Yba.sizeOf4) rfl ?_
    refine h_take 5 rfl (by kernel_rfl) rfl (p_load rfl Yba.isAgg3 e1) rfl ?_
    refine h_take 9 rfl (by kernel_rfl) rfl (p_load rfl Yba.isAgg4 e2) rfl ?_
    refine h_any 10 rfl (by kernel_rfl) rfl (fun _ => p_build41 rfl rfl) rfl ?_
    refine h_eff 11 rfl (by kernel_rfl) rfl (e_box rfl) rfl ?_
    rintro _ y1 ⟨rfl, n1⟩
    have s1 := n1.size
    refine h_any 12 rfl (by kernel_rfl) rfl (fun _ => p_idx1 (j := k) rfl rfl rfl hlt Yba.underlying28 Yba.sizeOf29) rfl ?_
    have hcy1 : y1[q.size]? = some (.cells c 29 (0, 0)) := by rw [n1.other _ sy]; exact hcy
    refine h_eff0 13 rfl (by kernel_rfl) rfl (e_store rfl rfl rfl Yba.sizeOf29 hcy1 (by omega)) ?_
    rintro _ y2 u2
    refine h_done (by kernel_rfl) ?_
    repeat (first | refine c_seq ?_ | refine c_region ?_ | refine c_block ?_ | refine c_skip ?_ | refine c_exit ?_ | refine c_ret ?_ | refine n_then ?_ | refine n_block ?_ | refine x_then ?_ | refine x_block_eq ?_ | refine x_block_ne rfl ?_ | refine r_then ?_ | refine r_block ?_ | refine s_nil ?_ | refine c_true rfl ?_ | refine c_false rfl ?_ | refine s_pur (p_move rfl) rfl ?_ | refine s_pur (p_assign rfl) rfl ?_ | refine s_pur (p_nil rfl) rfl ?_ | refine s_pur (p_pick_t rfl rfl) rfl ?_ | refine s_pur (p_pick_f rfl rfl) rfl ?_ | refine s_pur (p_add rfl rfl rfl (by omega) (by omega)) rfl ?_)
    refine c_next (k + 1, fun t => if t = k then y.size else xb t) ⟨hlt, (loy.new n1 (by omega)).upd u2 (Nat.le_refl _), PtrAt.set scy gcy u2 hlt (by simp) (fun i hi => by simp; omega), ?_⟩ (by repeat (first | exact Sub.nil | refine Sub.cons rfl ?_)) (by simp only; omega)
    intro t ht
    by_cases e : t = k
    · simp only [e, if_true]
      have at2 : y2[y.size]? = y1[y.size]? := u2.other _ (by omega)
      have at1 := n1.at_
      refine ⟨sy, ?_, ?_⟩
      · rw [hc_congr at2, hc_of at1]; rfl
      · rw [hc_congr at2, hc_of at1]; rfl
    · simp only [e, if_false]
      obtain ⟨g1, g2, g3⟩ := hx t (by simp only at ht; omega)
      have at2 : y2[xb t]? = y[xb t]? := by rw [u2.other _ (by omega), n1.other _ (lt_of_hc g2)]
      exact ⟨g1, by rw [hc_congr at2]; exact g2, by rw [hc_congr at2]; exact g3⟩
  · have : k = np := by omega
    subst this
    refine c_seq ?_
    refine c_seq ?_
    repeat (first | refine c_region ?_ | refine c_block ?_ | refine c_skip ?_ | refine c_exit ?_ | refine c_ret ?_ | refine n_then ?_ | refine n_block ?_ | refine x_then ?_ | refine x_block_eq ?_ | refine x_block_ne rfl ?_ | refine r_then ?_ | refine r_block ?_ | refine s_nil ?_ | refine c_true rfl ?_ | refine c_false rfl ?_ | refine s_pur (p_move rfl) rfl ?_ | refine s_pur (p_assign rfl) rfl ?_ | refine s_pur (p_nil rfl) rfl ?_ | refine s_pur (p_pick_t rfl rfl) rfl ?_ | refine s_pur (p_pick_f rfl rfl) rfl ?_ | refine s_pur (p_lssT rfl rfl (by omega)) rfl ?_ | refine s_pur (p_lssF rfl rfl (by omega)) rfl ?_ | refine s_pur (p_leqT rfl rfl (by omega)) rfl ?_ | refine s_pur (p_leqF rfl rfl (by omega)) rfl ?_ | refine s_pur (p_gtrT rfl rfl (by omega)) rfl ?_ | refine s_pur (p_gtrF rfl rfl (by omega)) rfl ?_ | refine s_pur (p_geqT rfl rfl (by omega)) rfl ?_ | refine s_pur (p_geqF rfl rfl (by omega)) rfl ?_ | refine s_pur (p_eqlT rfl rfl (by omega)) rfl ?_ | refine s_pur (p_eqlF rfl rfl (by omega)) rfl ?_ | refine s_pur (p_neqT rfl rfl (by omega)) rfl ?_ | refine s_pur (p_neqF rfl rfl (by omega)) rfl ?_)
    refine cut [(1, .slice va nv vc), (5, .int .i64 4), (6, .int .i64 k), (7, .slice (some ⟨lb, 0, none⟩) k cL), (8, .slice (some ⟨mb, 0, none⟩) k cM), (10, .slice (some ⟨q.size, 0, none⟩) k k)] (by repeat (first | exact Sub.nil | refine Sub.cons rfl ?_)) ?_
    exact partC (xb := xb) ⟨lo.then loy, fun j hj => low_hc loy (lk j hj), fun j hj => low_hc loy (mm j hj), fun j hj => ⟨py.hc j hj, (hx j hj).2.1, (hx j hj).2.2⟩, hnp, h1⟩ hvi hnv hR

set_option maxHeartbeats 8000000 in
theorem law_ok (h : Heap) (n0 pc nv vc : Nat) (pa va : Option Addr) (PL : Nat → Int) (PM : Nat → Bool) (IA : Nat → Option Addr) (Mi IC : Nat → Nat) (Z : Nat → Nat → Nat) (hp : PoolIn h pa n0 PL PM) (hvi : VisIn h va nv IA Mi IC Z) :
    CallsH Yba.prog 3 #[.slice pa n0 pc, .slice va nv vc] h (fun u h' => u = .bool true ∧ Low h.size h h') := by
  refine calls_of [(0, .slice pa n0 pc), (1, .slice va nv vc)] Yba.func3 rfl Yba.ntmps3 (by simp) (.cons rfl (.cons rfl .nil)) ?_
  intro w0 hw0
  by_cases q0 : n0 > 65536
  · repeat (first | refine c_seq ?_ | refine c_region ?_ | refine c_block ?_ | refine c_skip ?_ | refine c_exit ?_ | refine c_ret ?_ | refine n_then ?_ | refine n_block ?_ | refine x_then ?_ | refine x_block_eq ?_ | refine x_block_ne rfl ?_ | refine r_then ?_ | refine r_block ?_ | refine s_nil ?_ | refine c_true rfl ?_ | refine c_false rfl ?_ | refine s_pur (p_move rfl) rfl ?_ | refine s_pur (p_assign rfl) rfl ?_ | refine s_pur (p_nil rfl) rfl ?_ | refine s_pur (p_pick_t rfl rfl) rfl ?_ | refine s_pur (p_pick_f rfl rfl) rfl ?_ | refine s_pur (p_len rfl Yba.underlying22) rfl ?_ | refine s_pur (p_idx rfl rfl rfl (by omega) Yba.underlying22 Yba.sizeOf27) rfl ?_ | refine s_pur (p_len rfl Yba.underlying23) rfl ?_ | refine s_pur (p_idx1 rfl rfl rfl (by omega) Yba.underlying23 Yba.sizeOf46) rfl ?_ | refine s_pur (p_lssT rfl rfl (by omega)) rfl ?_ | refine s_pur (p_lssF rfl rfl (by omega)) rfl ?_ | refine s_pur (p_leqT rfl rfl (by omega)) rfl ?_ | refine s_pur (p_leqF rfl rfl (by omega)) rfl ?_ | refine s_pur (p_gtrT rfl rfl (by omega)) rfl ?_ | refine s_pur (p_gtrF rfl rfl (by omega)) rfl ?_ | refine s_pur (p_geqT rfl rfl (by omega)) rfl ?_ | refine s_pur (p_geqF rfl rfl (by omega)) rfl ?_ | refine s_pur (p_eqlT rfl rfl (by omega)) rfl ?_ | refine s_pur (p_eqlF rfl rfl (by omega)) rfl ?_ | refine s_pur (p_neqT rfl rfl (by omega)) rfl ?_ | refine s_pur (p_neqF rfl rfl (by omega)) rfl ?_ | refine s_skip rfl rfl rfl ?_ | refine s_skip' rfl rfl rfl ?_ | refine s_pur_g rfl (p_move rfl) rfl ?_ | refine s_pur_g rfl (p_assign rfl) rfl ?_ | refine s_pur_g rfl (p_nil rfl) rfl ?_ | refine s_pur_g rfl (p_pick_t rfl rfl) rfl ?_ | refine s_pur_g rfl (p_pick_f rfl rfl) rfl ?_ | refine s_pur_g rfl (p_len rfl Yba.underlying22) rfl ?_ | refine s_pur_g rfl (p_idx rfl rfl rfl (by omega) Yba.underlying22 Yba.sizeOf27) rfl ?_ | refine s_pur_g rfl (p_len rfl Yba.underlying23) rfl ?_ | refine s_pur_g rfl (p_idx1 rfl rfl rfl (by omega) Yba.underlying23 Yba.sizeOf46) rfl ?_ | refine s_pur_g rfl (p_lssT rfl rfl (by omega)) rfl ?_ | refine s_pur_g rfl (p_lssF rfl rfl (by omega)) rfl ?_ | refine s_pur_g rfl (p_leqT rfl rfl (by omega)) rfl ?_ | refine s_pur_g rfl (p_leqF rfl rfl (by omega)) rfl ?_ | refine s_pur_g rfl (p_gtrT rfl rfl (by omega)) rfl ?_ | refine s_pur_g rfl (p_gtrF rfl rfl (by omega)) rfl ?_ | refine s_pur_g rfl (p_geqT rfl rfl (by omega)) rfl ?_ | refine s_pur_g rfl (p_geqF rfl rfl (by omega)) rfl ?_ | refine s_pur_g rfl (p_eqlT rfl rfl (by omega)) rfl ?_ | refine s_pur_g rfl (p_eqlF rfl rfl (by omega)) rfl ?_ | refine s_pur_g rfl (p_neqT rfl rfl (by omega)) rfl ?_ | refine s_pur_g rfl (p_neqF rfl rfl (by omega)) rfl ?_)
    exact ret1 Yba.results3 rfl ⟨rfl, Low.refl _ _⟩
  by_cases q1 : nv > 65536
  · repeat (first | refine c_seq ?_ | refine c_region ?_ | refine c_block ?_ | refine c_skip ?_ | refine c_exit ?_ | refine c_ret ?_ | refine n_then ?_ | refine n_block ?_ | refine x_then ?_ | refine x_block_eq ?_ | refine x_block_ne rfl ?_ | refine r_then ?_ | refine r_block ?_ | refine s_nil ?_ | refine c_true rfl ?_ | refine c_false rfl ?_ | refine s_pur (p_move rfl) rfl ?_ | refine s_pur (p_assign rfl) rfl ?_ | refine s_pur (p_nil rfl) rfl ?_ | refine s_pur (p_pick_t rfl rfl) rfl ?_ | refine s_pur (p_pick_f rfl rfl) rfl ?_ | refine s_pur (p_len rfl Yba.underlying22) rfl ?_ | refine s_pur (p_idx rfl rfl rfl (by omega) Yba.underlying22 Yba.sizeOf27) rfl ?_ | refine s_pur (p_len rfl Yba.underlying23) rfl ?_ | refine s_pur (p_idx1 rfl rfl rfl (by omega) Yba.underlying23 Yba.sizeOf46) rfl ?_ | refine s_pur (p_lssT rfl rfl (by omega)) rfl ?_ | refine s_pur (p_lssF rfl rfl (by omega)) rfl ?_ | refine s_pur (p_leqT rfl rfl (by omega)) rfl ?_ | refine s_pur (p_leqF rfl rfl (by omega)) rfl ?_ | refine s_pur (p_gtrT rfl rfl (by omega)) rfl ?_ | refine s_pur (p_gtrF rfl rfl (by omega)) rfl ?_ | refine s_pur (p_geqT rfl rfl (by omega)) rfl ?_ | refine s_pur (p_geqF rfl rfl (by omega)) rfl ?_ | refine s_pur (p_eqlT rfl rfl (by omega)) rfl ?_ | refine s_pur (p_eqlF rfl rfl (by omega)) rfl ?_ | refine s_pur (p_neqT rfl rfl (by omega)) rfl ?_ | refine s_pur (p_neqF rfl rfl (by omega)) rfl ?_ | refine s_skip rfl rfl rfl ?_ | refine s_skip' rfl rfl rfl ?_ | refine s_pur_g rfl (p_move rfl) rfl ?_ | refine s_pur_g rfl (p_assign rfl) rfl ?_ | refine s_pur_g rfl (p_nil rfl) rfl ?_ | refine s_pur_g rfl (p_pick_t rfl rfl) rfl ?_ | refine s_pur_g rfl (p_pick_f rfl rfl) rfl ?_ | refine s_pur_g rfl (p_len rfl Yba.underlying22) rfl ?_ | refine s_pur_g rfl (p_idx rfl rfl rfl (by omega) Yba.underlying22 Yba.sizeOf27) rfl ?_ | refine s_pur_g rfl (p_len rfl Yba.underlying23) rfl ?_ | refine s_pur_g rfl (p_idx1 rfl rfl rfl (by omega) Yba.underlying23 Yba.sizeOf46) rfl ?_ | refine s_pur_g rfl (p_lssT rfl rfl (by omega)) rfl ?_ | refine s_pur_g rfl (p_lssF rfl rfl (by omega)) rfl ?_ | refine s_pur_g rfl (p_leqT rfl rfl (by omega)) rfl ?_ | refine s_pur_g rfl (p_leqF rfl rfl (by omega)) rfl ?_ | refine s_pur_g rfl (p_gtrT rfl rfl (by omega)) rfl ?_ | refine s_pur_g rfl (p_gtrF rfl rfl (by omega)) rfl ?_ | refine s_pur_g rfl (p_geqT rfl rfl (by omega)) rfl ?_ | refine s_pur_g rfl (p_geqF rfl rfl (by omega)) rfl ?_ | refine s_pur_g rfl (p_eqlT rfl rfl (by omega)) rfl ?_ | refine s_pur_g rfl (p_eqlF rfl rfl (by omega)) rfl ?_ | refine s_pur_g rfl (p_neqT rfl rfl (by omega)) rfl ?_ | refine s_pur_g rfl (p_neqF rfl rfl (by omega)) rfl ?_)
    exact ret1 Yba.results3 rfl ⟨rfl, Low.refl _ _⟩
  obtain ⟨i3, hi3, hz3, hs3, hb3⟩ := info3
  obtain ⟨i4, hi4, hz4, hs4, hb4⟩ := info4
  refine c_mid [(0, .slice pa n0 pc), (1, .slice va nv vc)] (fun x => h = x) ?_ ?_
  · repeat (first | refine c_seq ?_ | refine c_region ?_ | refine c_block ?_ | refine c_skip ?_ | refine c_exit ?_ | refine c_ret ?_ | refine n_then ?_ | refine n_block ?_ | refine x_then ?_ | refine x_block_eq ?_ | refine x_block_ne rfl ?_ | refine r_then ?_ | refine r_block ?_ | refine s_nil ?_ | refine c_true rfl ?_ | refine c_false rfl ?_ | refine s_pur (p_move rfl) rfl ?_ | refine s_pur (p_assign rfl) rfl ?_ | refine s_pur (p_nil rfl) rfl ?_ | refine s_pur (p_pick_t rfl rfl) rfl ?_ | refine s_pur (p_pick_f rfl rfl) rfl ?_)
    exact m_done rfl (by repeat (first | exact Sub.nil | refine Sub.cons rfl ?_))
  rintro _ rfl
  refine c_mid [(0, .slice pa n0 pc), (1, .slice va nv vc)] (fun x => h = x) ?_ ?_
  · repeat (first | refine c_seq ?_ | refine c_region ?_ | refine c_block ?_ | refine c_skip ?_ | refine c_exit ?_ | refine c_ret ?_ | refine n_then ?_ | refine n_block ?_ | refine x_then ?_ | refine x_block_eq ?_ | refine x_block_ne rfl ?_ | refine r_then ?_ | refine r_block ?_ | refine s_nil ?_ | refine c_true rfl ?_ | refine c_false rfl ?_ | refine s_pur (p_move rfl) rfl ?_ | refine s_pur (p_assign rfl) rfl ?_ | refine s_pur (p_nil rfl) rfl ?_ | refine s_pur (p_pick_t rfl rfl) rfl ?_ | refine s_pur (p_pick_f rfl rfl) rfl ?_ | refine s_pur (p_len rfl Yba.underlying22) rfl ?_ | refine s_pur (p_idx rfl rfl rfl (by omega) Yba.underlying22 Yba.sizeOf27) rfl ?_ | refine s_pur (p_len rfl Yba.underlying23) rfl ?_ | refine s_pur (p_idx1 rfl rfl rfl (by omega) Yba.underlying23 Yba.sizeOf46) rfl ?_ | refine s_pur (p_lssT rfl rfl (by omega)) rfl ?_ | refine s_pur (p_lssF rfl rfl (by omega)) rfl ?_ | refine s_pur (p_leqT rfl rfl (by omega)) rfl ?_ | refine s_pur (p_leqF rfl rfl (by omega)) rfl ?_ | refine s_pur (p_gtrT rfl rfl (by omega)) rfl ?_ | refine s_pur (p_gtrF rfl rfl (by omega)) rfl ?_ | refine s_pur (p_geqT rfl rfl (by omega)) rfl ?_ | refine s_pur (p_geqF rfl rfl (by omega)) rfl ?_ | refine s_pur (p_eqlT rfl rfl (by omega)) rfl ?_ | refine s_pur (p_eqlF rfl rfl (by omega)) rfl ?_ | refine s_pur (p_neqT rfl rfl (by omega)) rfl ?_ | refine s_pur (p_neqF rfl rfl (by omega)) rfl ?_ | refine s_skip rfl rfl rfl ?_ | refine s_skip' rfl rfl rfl ?_ | refine s_pur_g rfl (p_move rfl) rfl ?_ | refine s_pur_g rfl (p_assign rfl) rfl ?_ | refine s_pur_g rfl (p_nil rfl) rfl ?_ | refine s_pur_g rfl (p_pick_t rfl rfl) rfl ?_ | refine s_pur_g rfl (p_pick_f rfl rfl) rfl ?_ | refine s_pur_g rfl (p_len rfl Yba.underlying22) rfl ?_ | refine s_pur_g rfl (p_idx rfl rfl rfl (by omega) Yba.underlying22 Yba.sizeOf27) rfl ?_ | refine s_pur_g rfl (p_len rfl Yba.underlying23) rfl ?_ | refine s_pur_g rfl (p_idx1 rfl rfl rfl (by omega) Yba.underlying23 Yba.sizeOf46) rfl ?_ | refine s_pur_g rfl (p_lssT rfl rfl (by omega)) rfl ?_ | refine s_pur_g rfl (p_lssF rfl rfl (by omega)) rfl ?_ | refine s_pur_g rfl (p_leqT rfl rfl (by omega)) rfl ?_ | refine s_pur_g rfl (p_leqF rfl rfl (by omega)) rfl ?_ | refine s_pur_g rfl (p_gtrT rfl rfl (by omega)) rfl ?_ | refine s_pur_g rfl (p_gtrF rfl rfl (by omega)) rfl ?_ | refine s_pur_g rfl (p_geqT rfl rfl (by omega)) rfl ?_ | refine s_pur_g rfl (p_geqF rfl rfl (by omega)) rfl ?_ | refine s_pur_g rfl (p_eqlT rfl rfl (by omega)) rfl ?_ | refine s_pur_g rfl (p_eqlF rfl rfl (by omega)) rfl ?_ | refine s_pur_g rfl (p_neqT rfl rfl (by omega)) rfl ?_ | refine s_pur_g rfl (p_neqF rfl rfl (by omega)) rfl ?_)
    exact m_done rfl (by repeat (first | exact Sub.nil | refine Sub.cons rfl ?_))
  rintro _ rfl
  refine c_mid [(0, .slice pa n0 pc), (1, .slice va nv vc), (5, .int .i64 4)] (fun x => h = x) ?_ ?_
  · repeat (first | refine c_seq ?_ | refine c_region ?_ | refine c_block ?_ | refine c_skip ?_ | refine c_exit ?_ | refine c_ret ?_ | refine n_then ?_ | refine n_block ?_ | refine x_then ?_ | refine x_block_eq ?_ | refine x_block_ne rfl ?_ | refine r_then ?_ | refine r_block ?_ | refine s_nil ?_ | refine c_true rfl ?_ | refine c_false rfl ?_ | refine s_pur (p_move rfl) rfl ?_ | refine s_pur (p_assign rfl) rfl ?_ | refine s_pur (p_nil rfl) rfl ?_ | refine s_pur (p_pick_t rfl rfl) rfl ?_ | refine s_pur (p_pick_f rfl rfl) rfl ?_)
    exact m_done rfl (by repeat (first | exact Sub.nil | refine Sub.cons rfl ?_))
  rintro _ rfl
  refine c_mid [(0, .slice pa n0 pc), (1, .slice va nv vc), (5, .int .i64 4), (6, .int .i64 n0)] (fun x => h = x) ?_ ?_
  · repeat (first | refine c_seq ?_ | refine c_region ?_ | refine c_block ?_ | refine c_skip ?_ | refine c_exit ?_ | refine c_ret ?_ | refine n_then ?_ | refine n_block ?_ | refine x_then ?_ | refine x_block_eq ?_ | refine x_block_ne rfl ?_ | refine r_then ?_ | refine r_block ?_ | refine s_nil ?_ | refine c_true rfl ?_ | refine c_false rfl ?_ | refine s_pur (p_move rfl) rfl ?_ | refine s_pur (p_assign rfl) rfl ?_ | refine s_pur (p_nil rfl) rfl ?_ | refine s_pur (p_pick_t rfl rfl) rfl ?_ | refine s_pur (p_pick_f rfl rfl) rfl ?_ | refine s_pur (p_len rfl Yba.underlying22) rfl ?_ | refine s_pur (p_idx rfl rfl rfl (by omega) Yba.underlying22 Yba.sizeOf27) rfl ?_)
    exact m_done rfl (by repeat (first | exact Sub.nil | refine Sub.cons rfl ?_))
  rintro _ rfl
  refine c_mid [(0, .slice pa n0 pc), (1, .slice va nv vc), (5, .int .i64 4), (6, .int .i64 n0), (7, .slice (some ⟨h.size, 0, none⟩) 0 (n0 + 1))] (fun x => Low h.size h x ∧ x.size = h.size + 1 ∧ Owns x h.size 3 1 (.slice (some ⟨h.size, 0, none⟩) 0 (n0 + 1)) 0 []) ?_ ?_
  · repeat (first | refine c_seq ?_ | refine c_region ?_ | refine c_block ?_ | refine c_skip ?_ | refine c_exit ?_ | refine c_ret ?_ | refine n_then ?_ | refine n_block ?_ | refine x_then ?_ | refine x_block_eq ?_ | refine x_block_ne rfl ?_ | refine r_then ?_ | refine r_block ?_ | refine s_nil ?_ | refine c_true rfl ?_ | refine c_false rfl ?_ | refine s_pur (p_move rfl) rfl ?_ | refine s_pur (p_assign rfl) rfl ?_ | refine s_pur (p_nil rfl) rfl ?_ | refine s_pur (p_pick_t rfl rfl) rfl ?_ | refine s_pur (p_pick_f rfl rfl) rfl ?_ | refine s_pur (p_add (c := ((n0 + 1 : Nat) : Int)) rfl rfl (by omega) (by omega) (by omega)) rfl ?_)
    refine s_eff (e_make (n := 0) (c := n0 + 1) rfl rfl Yba.underlying24 hi3 hz3 (by omega) (by rw [hb3]; omega) (by omega)) rfl ?_
    rintro _ x ⟨rfl, nx⟩
    repeat (first | refine c_seq ?_ | refine c_region ?_ | refine c_block ?_ | refine c_skip ?_ | refine c_exit ?_ | refine c_ret ?_ | refine n_then ?_ | refine n_block ?_ | refine x_then ?_ | refine x_block_eq ?_ | refine x_block_ne rfl ?_ | refine r_then ?_ | refine r_block ?_ | refine s_nil ?_ | refine c_true rfl ?_ | refine c_false rfl ?_ | refine s_pur (p_move rfl) rfl ?_ | refine s_pur (p_assign rfl) rfl ?_ | refine s_pur (p_nil rfl) rfl ?_ | refine s_pur (p_pick_t rfl rfl) rfl ?_ | refine s_pur (p_pick_f rfl rfl) rfl ?_)
    exact m_done ⟨(Low.refl _ _).new nx (Nat.le_refl _), nx.size, Owns.make0 nx (by simp [madeCells, hs3]) (Nat.le_refl _) (by simp only [maxLen]; omega)⟩ (by repeat (first | exact Sub.nil | refine Sub.cons rfl ?_))
  rintro x1 ⟨lo1, sz1, ow1⟩
  refine c_mid [(0, .slice pa n0 pc), (1, .slice va nv vc), (5, .int .i64 4), (6, .int .i64 n0), (7, .slice (some ⟨h.size, 0, none⟩) 0 (n0 + 1)), (8, .slice (some ⟨h.size + 1, 0, none⟩) 0 (n0 + 1))]
    (fun x => Low h.size h x ∧ Owns x h.size 3 1 (.slice (some ⟨h.size, 0, none⟩) 0 (n0 + 1)) 0 [] ∧ Owns x h.size 4 1 (.slice (some ⟨h.size + 1, 0, none⟩) 0 (n0 + 1)) 0 []) ?_ ?_
  · repeat (first | refine c_seq ?_ | refine c_region ?_ | refine c_block ?_ | refine c_skip ?_ | refine c_exit ?_ | refine c_ret ?_ | refine n_then ?_ | refine n_block ?_ | refine x_then ?_ | refine x_block_eq ?_ | refine x_block_ne rfl ?_ | refine r_then ?_ | refine r_block ?_ | refine s_nil ?_ | refine c_true rfl ?_ | refine c_false rfl ?_ | refine s_pur (p_move rfl) rfl ?_ | refine s_pur (p_assign rfl) rfl ?_ | refine s_pur (p_nil rfl) rfl ?_ | refine s_pur (p_pick_t rfl rfl) rfl ?_ | refine s_pur (p_pick_f rfl rfl) rfl ?_ | refine s_pur (p_add (c := ((n0 + 1 : Nat) : Int)) rfl rfl (by omega) (by omega) (by omega)) rfl ?_)
    refine s_eff (e_make (n := 0) (c := n0 + 1) rfl rfl Yba.underlying25 hi4 hz4 (by omega) (by rw [hb4]; omega) (by omega)) rfl ?_
    rintro _ x ⟨rfl, nx⟩
    repeat (first | refine c_seq ?_ | refine c_region ?_ | refine c_block ?_ | refine c_skip ?_ | refine c_exit ?_ | refine c_ret ?_ | refine n_then ?_ | refine n_block ?_ | refine x_then ?_ | refine x_block_eq ?_ | refine x_block_ne rfl ?_ | refine r_then ?_ | refine r_block ?_ | refine s_nil ?_ | refine c_true rfl ?_ | refine c_false rfl ?_ | refine s_pur (p_move rfl) rfl ?_ | refine s_pur (p_assign rfl) rfl ?_ | refine s_pur (p_nil rfl) rfl ?_ | refine s_pur (p_pick_t rfl rfl) rfl ?_ | refine s_pur (p_pick_f rfl rfl) rfl ?_)
    rw [sz1]
    exact m_done ⟨lo1.new nx (by omega), ow1.new nx, sz1 ▸ Owns.make0 nx (by simp [madeCells, hs4]) (by omega) (by simp only [maxLen]; omega)⟩ (by repeat (first | exact Sub.nil | refine Sub.cons rfl ?_))
  rintro x2 ⟨lo2, ow2, om2⟩
  -- what stands behind the loop
  have goon : ∀ (u v : Value) (x : Heap), Low h.size h x → Owns x h.size 3 1 u n0 (lsI PL n0) → Owns x h.size 4 1 v n0 (lsB PM n0) → ¬ u = .slice none 0 0 → ¬ v = .slice none 0 0 → (∀ g, u.ownBlock = some g → v.ownBlock ≠ some g) →
      V.Fin 327 w0 (CW Yba.prog (V.sub (Yba.f3.body.getD .skip) [1, 1, 1, 1, 1, 1, 1]) (bodyPost Yba.prog Yba.f3 (PostR w0 fun u h' => u = .bool true ∧ Low h.size h h')))
        [(1, .slice va nv vc), (5, .int .i64 4), (6, .int .i64 n0), (7, u), (8, v)] x := by
    intro u v x lo ou ov nu nn sep
    have sx := lo.size
    by_cases h0 : n0 = 0
    · subst h0
      refine c_seq ?_
      refine c_seq ?_
      repeat (first | refine c_region ?_ | refine c_block ?_ | refine c_skip ?_ | refine c_exit ?_ | refine c_ret ?_ | refine n_then ?_ | refine n_block ?_ | refine x_then ?_ | refine x_block_eq ?_ | refine x_block_ne rfl ?_ | refine r_then ?_ | refine r_block ?_ | refine s_nil ?_ | refine c_true rfl ?_ | refine c_false rfl ?_ | refine s_pur (p_move rfl) rfl ?_ | refine s_pur (p_assign rfl) rfl ?_ | refine s_pur (p_nil rfl) rfl ?_ | refine s_pur (p_pick_t rfl rfl) rfl ?_ | refine s_pur (p_pick_f rfl rfl) rfl ?_ | refine s_pur (p_lssT rfl rfl (by omega)) rfl ?_ | refine s_pur (p_lssF rfl rfl (by omega)) rfl ?_ | refine s_pur (p_leqT rfl rfl (by omega)) rfl ?_ | refine s_pur (p_leqF rfl rfl (by omega)) rfl ?_ | refine s_pur (p_gtrT rfl rfl (by omega)) rfl ?_ | refine s_pur (p_gtrF rfl rfl (by omega)) rfl ?_ | refine s_pur (p_geqT rfl rfl (by omega)) rfl ?_ | refine s_pur (p_geqF rfl rfl (by omega)) rfl ?_ | refine s_pur (p_eqlT rfl rfl (by omega)) rfl ?_ | refine s_pur (p_eqlF rfl rfl (by omega)) rfl ?_ | refine s_pur (p_neqT rfl rfl (by omega)) rfl ?_ | refine s_pur (p_neqF rfl rfl (by omega)) rfl ?_)
      refine c_seq ?_
      repeat (first | refine c_region ?_ | refine c_block ?_ | refine c_skip ?_ | refine c_exit ?_ | refine c_ret ?_ | refine n_then ?_ | refine n_block ?_ | refine x_then ?_ | refine x_block_eq ?_ | refine x_block_ne rfl ?_ | refine r_then ?_ | refine r_block ?_ | refine s_nil ?_ | refine c_true rfl ?_ | refine c_false rfl ?_ | refine s_pur (p_move rfl) rfl ?_ | refine s_pur (p_assign rfl) rfl ?_ | refine s_pur (p_nil rfl) rfl ?_ | refine s_pur (p_pick_t rfl rfl) rfl ?_ | refine s_pur (p_pick_f rfl rfl) rfl ?_)
      refine s_eff (e_slice1 rfl Yba.underlying24 Yba.sizeOf3 Yba.zeroValue3 rfl) rfl ?_
      rintro _ y1 ⟨rfl, n1⟩
      have s1 := n1.size
      refine s_eff (app24 rfl rfl (ou.new n1) (by rw [hc_of n1.at_]; rfl) (by omega) (by omega)) rfl ?_
      rintro u' y2 ⟨ou2, g2, nu2, ob2⟩
      have s2 := g2.size
      have ov2 : Owns y2 h.size 4 1 v 0 (lsB PM 0) := (ov.new n1).keep fun g _ hg hv => g2.other g hg (fun e => sep g e.symm hv)
      repeat (first | refine c_region ?_ | refine c_block ?_ | refine c_skip ?_ | refine c_exit ?_ | refine c_ret ?_ | refine n_then ?_ | refine n_block ?_ | refine x_then ?_ | refine x_block_eq ?_ | refine x_block_ne rfl ?_ | refine r_then ?_ | refine r_block ?_ | refine s_nil ?_ | refine c_true rfl ?_ | refine c_false rfl ?_ | refine s_pur (p_move rfl) rfl ?_ | refine s_pur (p_assign rfl) rfl ?_ | refine s_pur (p_nil rfl) rfl ?_ | refine s_pur (p_pick_t rfl rfl) rfl ?_ | refine s_pur (p_pick_f rfl rfl) rfl ?_)
      refine c_seq ?_
      repeat (first | refine c_region ?_ | refine c_block ?_ | refine c_skip ?_ | refine c_exit ?_ | refine c_ret ?_ | refine n_then ?_ | refine n_block ?_ | refine x_then ?_ | refine x_block_eq ?_ | refine x_block_ne rfl ?_ | refine r_then ?_ | refine r_block ?_ | refine s_nil ?_ | refine c_true rfl ?_ | refine c_false rfl ?_ | refine s_pur (p_move rfl) rfl ?_ | refine s_pur (p_assign rfl) rfl ?_ | refine s_pur (p_nil rfl) rfl ?_ | refine s_pur (p_pick_t rfl rfl) rfl ?_ | refine s_pur (p_pick_f rfl rfl) rfl ?_)
      refine s_eff (e_slice1 rfl Yba.underlying25 Yba.sizeOf4 Yba.zeroValue4 rfl) rfl ?_
      rintro _ y3 ⟨rfl, n3⟩
      have s3 := n3.size
      refine s_eff (app25 rfl rfl (ov2.new n3) (by rw [hc_of n3.at_]; rfl) (by omega) (by omega)) rfl ?_
      rintro v' y4 ⟨ov4, g4, nv4, ob4⟩
      have sep2 : ∀ g, u'.ownBlock = some g → v.ownBlock ≠ some g := by
        intro g hg e
        rcases ob2 with r | r
        · exact sep g (r ▸ hg) e
        · rw [r] at hg
          simp at hg
          have := (ov.lt g e)
          omega
      have ou4 := (ou2.new n3).keep (h' := y4) fun g _ hg hu => g4.other g hg (fun e => sep2 g hu e.symm)
      obtain ⟨gl, cl, rfl, _, _⟩ := owns_nn ou4 nu2
      obtain ⟨gm, cm, rfl, _, _⟩ := owns_nn ov4 nv4
      repeat (first | refine c_region ?_ | refine c_block ?_ | refine c_skip ?_ | refine c_exit ?_ | refine c_ret ?_ | refine n_then ?_ | refine n_block ?_ | refine x_then ?_ | refine x_block_eq ?_ | refine x_block_ne rfl ?_ | refine r_then ?_ | refine r_block ?_ | refine s_nil ?_ | refine c_true rfl ?_ | refine c_false rfl ?_ | refine s_pur (p_move rfl) rfl ?_ | refine s_pur (p_assign rfl) rfl ?_ | refine s_pur (p_nil rfl) rfl ?_ | refine s_pur (p_pick_t rfl rfl) rfl ?_ | refine s_pur (p_pick_f rfl rfl) rfl ?_)
      refine cut [(1, .slice va nv vc), (5, .int .i64 4), (6, .int .i64 ((1 : Nat) : Int)), (7, .slice (some ⟨gl, 0, none⟩) 1 cl), (8, .slice (some ⟨gm, 0, none⟩) 1 cm)] (by repeat (first | exact Sub.nil | refine Sub.cons rfl ?_)) ?_
      refine partB (PL := fun _ => 1) (PM := fun _ => false) (((lo.new n1 (by omega)).grow g2 (by omega) (fun g hg => ou.base g hg)).new n3 (by omega) |>.grow g4 (by omega) (fun g hg => ov.base g hg)) ?_ ?_ (by omega) (by omega) hvi (by omega) (fun h' lo' => ⟨rfl, lo'⟩)
      · intro j hj
        have : j = 0 := by omega
        subst this
        exact ou4.cell rfl rfl
      · intro j hj
        have : j = 0 := by omega
        subst this
        exact ov4.cell rfl rfl
    · obtain ⟨gl, cl, rfl, _, _⟩ := owns_nn ou nu
      obtain ⟨gm, cm, rfl, _, _⟩ := owns_nn ov nn
      refine c_seq ?_
      refine c_seq ?_
      repeat (first | refine c_region ?_ | refine c_block ?_ | refine c_skip ?_ | refine c_exit ?_ | refine c_ret ?_ | refine n_then ?_ | refine n_block ?_ | refine x_then ?_ | refine x_block_eq ?_ | refine x_block_ne rfl ?_ | refine r_then ?_ | refine r_block ?_ | refine s_nil ?_ | refine c_true rfl ?_ | refine c_false rfl ?_ | refine s_pur (p_move rfl) rfl ?_ | refine s_pur (p_assign rfl) rfl ?_ | refine s_pur (p_nil rfl) rfl ?_ | refine s_pur (p_pick_t rfl rfl) rfl ?_ | refine s_pur (p_pick_f rfl rfl) rfl ?_ | refine s_pur (p_lssT rfl rfl (by omega)) rfl ?_ | refine s_pur (p_lssF rfl rfl (by omega)) rfl ?_ | refine s_pur (p_leqT rfl rfl (by omega)) rfl ?_ | refine s_pur (p_leqF rfl rfl (by omega)) rfl ?_ | refine s_pur (p_gtrT rfl rfl (by omega)) rfl ?_ | refine s_pur (p_gtrF rfl rfl (by omega)) rfl ?_ | refine s_pur (p_geqT rfl rfl (by omega)) rfl ?_ | refine s_pur (p_geqF rfl rfl (by omega)) rfl ?_ | refine s_pur (p_eqlT rfl rfl (by omega)) rfl ?_ | refine s_pur (p_eqlF rfl rfl (by omega)) rfl ?_ | refine s_pur (p_neqT rfl rfl (by omega)) rfl ?_ | refine s_pur (p_neqF rfl rfl (by omega)) rfl ?_)
      refine cut [(1, .slice va nv vc), (5, .int .i64 4), (6, .int .i64 n0), (7, .slice (some ⟨gl, 0, none⟩) n0 cl), (8, .slice (some ⟨gm, 0, none⟩) n0 cm)] (by repeat (first | exact Sub.nil | refine Sub.cons rfl ?_)) ?_
      refine partB (PL := PL) (PM := PM) lo ?_ ?_ (by omega) (by omega) hvi (by omega) (fun h' lo' => ⟨rfl, lo'⟩)
      · intro j hj
        rw [Nat.zero_add]; exact ou.cell rfl (lsI_get PL n0 j hj)
      · intro j hj
        rw [Nat.zero_add]; exact ov.cell rfl (lsB_get PM n0 j hj)
  refine c_seq ?_
  repeat (first | refine c_seq ?_ | refine c_region ?_ | refine c_block ?_ | refine c_skip ?_ | refine c_exit ?_ | refine c_ret ?_ | refine n_then ?_ | refine n_block ?_ | refine x_then ?_ | refine x_block_eq ?_ | refine x_block_ne rfl ?_ | refine r_then ?_ | refine r_block ?_ | refine s_nil ?_ | refine c_true rfl ?_ | refine c_false rfl ?_ | refine s_pur (p_move rfl) rfl ?_ | refine s_pur (p_assign rfl) rfl ?_ | refine s_pur (p_nil rfl) rfl ?_ | refine s_pur (p_pick_t rfl rfl) rfl ?_ | refine s_pur (p_pick_f rfl rfl) rfl ?_)
  refine c_loop (fun x : Nat × Value × Value => [(0, .slice pa n0 pc), (1, .slice va nv vc), (5, .int .i64 4), (6, .int .i64 n0), (7, x.2.1), (8, x.2.2), (9, .int .i64 x.1)])
    (fun x y => x.1 ≤ n0 ∧ Low h.size h y ∧ Owns y h.size 3 1 x.2.1 x.1 (lsI PL x.1) ∧ Owns y h.size 4 1 x.2.2 x.1 (lsB PM x.1) ∧ ¬ x.2.1 = .slice none 0 0 ∧ ¬ x.2.2 = .slice none 0 0 ∧ ∀ g, x.2.1.ownBlock = some g → x.2.2.ownBlock ≠ some g) (fun x => n0 - x.1)
    (0, .slice (some ⟨h.size, 0, none⟩) 0 (n0 + 1), .slice (some ⟨h.size + 1, 0, none⟩) 0 (n0 + 1)) ⟨by omega, lo2, ow2, om2, by simp, by simp, fun g hg => by simp [Value.ownBlock] at hg ⊢; omega⟩ (by repeat (first | exact Sub.nil | refine Sub.cons rfl ?_)) ?_
  rintro ⟨k, u, v⟩ y ⟨hk, lo, ou, ov, nu, nn, sep⟩
  simp only at hk ou ov nu nn sep
  refine cut [(0, .slice pa n0 pc), (1, .slice va nv vc), (5, .int .i64 4), (6, .int .i64 n0), (7, u), (8, v), (9, .int .i64 k)] Sub.refl ?_
  have sx := lo.size
  by_cases hlt : k < n0
  · obtain ⟨b, o, hpa, e1, e2⟩ := hp k hlt
    have f1 := low_hc lo e1
    rw [hpa]
    repeat (first | refine c_seq ?_ | refine c_region ?_ | refine c_block ?_ | refine c_skip ?_ | refine c_exit ?_ | refine c_ret ?_ | refine n_then ?_ | refine n_block ?_ | refine x_then ?_ | refine x_block_eq ?_ | refine x_block_ne rfl ?_ | refine r_then ?_ | refine r_block ?_ | refine s_nil ?_ | refine c_true rfl ?_ | refine c_false rfl ?_ | refine s_pur (p_move rfl) rfl ?_ | refine s_pur (p_assign rfl) rfl ?_ | refine s_pur (p_nil rfl) rfl ?_ | refine s_pur (p_pick_t rfl rfl) rfl ?_ | refine s_pur (p_pick_f rfl rfl) rfl ?_ | refine s_pur (p_len rfl Yba.underlying22) rfl ?_ | refine s_pur (p_idx rfl rfl rfl (by omega) Yba.underlying22 Yba.sizeOf27) rfl ?_ | refine s_pur (p_fld (off := 0) rfl Yba.underlying27 rfl Yba.sizeOf3 rfl) rfl ?_ | refine s_pur (p_load rfl Yba.isAgg3 (by assumption)) rfl ?_ | refine s_pur (p_lssT rfl rfl (by omega)) rfl ?_ | refine s_pur (p_lssF rfl rfl (by omega)) rfl ?_ | refine s_pur (p_leqT rfl rfl (by omega)) rfl ?_ | refine s_pur (p_leqF rfl rfl (by omega)) rfl ?_ | refine s_pur (p_gtrT rfl rfl (by omega)) rfl ?_ | refine s_pur (p_gtrF rfl rfl (by omega)) rfl ?_ | refine s_pur (p_geqT rfl rfl (by omega)) rfl ?_ | refine s_pur (p_geqF rfl rfl (by omega)) rfl ?_ | refine s_pur (p_eqlT rfl rfl (by omega)) rfl ?_ | refine s_pur (p_eqlF rfl rfl (by omega)) rfl ?_ | refine s_pur (p_neqT rfl rfl (by omega)) rfl ?_ | refine s_pur (p_neqF rfl rfl (by omega)) rfl ?_)
    refine s_eff (e_slice1 rfl Yba.underlying24 Yba.sizeOf3 Yba.zeroValue3 rfl) rfl ?_
    rintro _ y1 ⟨rfl, n1⟩
    have s1 := n1.size
    refine s_eff (app24 rfl rfl (ou.new n1) (by rw [hc_of n1.at_]; rfl) (by omega) (by omega)) rfl ?_
    rintro u' y2 ⟨ou2, g2, nu2, ob2⟩
    have s2 := g2.size
    have ov2 : Owns y2 h.size 4 1 v k (lsB PM k) := (ov.new n1).keep fun g _ hg hv => g2.other g hg (fun e => sep g e.symm hv)
    have lo3 : Low h.size h y2 := (lo.new n1 (by omega)).grow g2 (by omega) (fun g hg => ou.base g hg)
    have f2 := low_hc lo3 e2
    repeat (first | refine c_seq ?_ | refine c_region ?_ | refine c_block ?_ | refine c_skip ?_ | refine c_exit ?_ | refine c_ret ?_ | refine n_then ?_ | refine n_block ?_ | refine x_then ?_ | refine x_block_eq ?_ | refine x_block_ne rfl ?_ | refine r_then ?_ | refine r_block ?_ | refine s_nil ?_ | refine c_true rfl ?_ | refine c_false rfl ?_ | refine s_pur (p_move rfl) rfl ?_ | refine s_pur (p_assign rfl) rfl ?_ | refine s_pur (p_nil rfl) rfl ?_ | refine s_pur (p_pick_t rfl rfl) rfl ?_ | refine s_pur (p_pick_f rfl rfl) rfl ?_ | refine s_pur (p_len rfl Yba.underlying22) rfl ?_ | refine s_pur (p_idx rfl rfl rfl (by omega) Yba.underlying22 Yba.sizeOf27) rfl ?_ | refine s_pur (p_fld (off := 1) rfl Yba.underlying27 rfl Yba.sizeOf4 rfl) rfl ?_ | refine s_pur (p_load rfl Yba.isAgg4 (by assumption)) rfl ?_)
    refine s_eff (e_slice1 rfl Yba.underlying25 Yba.sizeOf4 Yba.zeroValue4 rfl) rfl ?_
    rintro _ y3 ⟨rfl, n3⟩
    have s3 := n3.size
    refine s_eff (app25 rfl rfl (ov2.new n3) (by rw [hc_of n3.at_]; rfl) (by omega) (by omega)) rfl ?_
    rintro v' y4 ⟨ov4, g4, nv4, ob4⟩
    have sep2 : ∀ g, u'.ownBlock = some g → v.ownBlock ≠ some g := by
      intro g hg e
      rcases ob2 with r | r
      · exact sep g (r ▸ hg) e
      · rw [r] at hg
        simp at hg
        have := (ov.lt g e)
        omega
    have ou4 := (ou2.new n3).keep (h' := y4) fun g _ hg hu => g4.other g hg (fun e => sep2 g hu e.symm)
    repeat (first | refine c_seq ?_ | refine c_region ?_ | refine c_block ?_ | refine c_skip ?_ | refine c_exit ?_ | refine c_ret ?_ | refine n_then ?_ | refine n_block ?_ | refine x_then ?_ | refine x_block_eq ?_ | refine x_block_ne rfl ?_ | refine r_then ?_ | refine r_block ?_ | refine s_nil ?_ | refine c_true rfl ?_ | refine c_false rfl ?_ | refine s_pur (p_move rfl) rfl ?_ | refine s_pur (p_assign rfl) rfl ?_ | refine s_pur (p_nil rfl) rfl ?_ | refine s_pur (p_pick_t rfl rfl) rfl ?_ | refine s_pur (p_pick_f rfl rfl) rfl ?_ | refine s_pur (p_add rfl rfl rfl (by omega) (by omega)) rfl ?_)
    refine c_next (k + 1, u', v') ⟨hlt, (lo3.new n3 (by omega)).grow g4 (by omega) (fun g hg => ov.base g hg), ?_, ?_, nu2, nv4, ?_⟩ (by repeat (first | exact Sub.nil | refine Sub.cons rfl ?_)) (by simp only; omega)
    · simp only [lsI_succ]; exact ou4
    · simp only [lsB_succ]; exact ov4
    · intro g hg e
      simp only at hg e
      rcases ob4 with r | r
      · exact sep2 g hg (r ▸ e)
      · rw [r] at e
        simp at e
        have := ou2.lt g hg
        omega
  · have : k = n0 := by omega
    subst this
    refine c_seq ?_
    refine c_seq ?_
    repeat (first | refine c_region ?_ | refine c_block ?_ | refine c_skip ?_ | refine c_exit ?_ | refine c_ret ?_ | refine n_then ?_ | refine n_block ?_ | refine x_then ?_ | refine x_block_eq ?_ | refine x_block_ne rfl ?_ | refine r_then ?_ | refine r_block ?_ | refine s_nil ?_ | refine c_true rfl ?_ | refine c_false rfl ?_ | refine s_pur (p_move rfl) rfl ?_ | refine s_pur (p_assign rfl) rfl ?_ | refine s_pur (p_nil rfl) rfl ?_ | refine s_pur (p_pick_t rfl rfl) rfl ?_ | refine s_pur (p_pick_f rfl rfl) rfl ?_ | refine s_pur (p_lssT rfl rfl (by omega)) rfl ?_ | refine s_pur (p_lssF rfl rfl (by omega)) rfl ?_ | refine s_pur (p_leqT rfl rfl (by omega)) rfl ?_ | refine s_pur (p_leqF rfl rfl (by omega)) rfl ?_ | refine s_pur (p_gtrT rfl rfl (by omega)) rfl ?_ | refine s_pur (p_gtrF rfl rfl (by omega)) rfl ?_ | refine s_pur (p_geqT rfl rfl (by omega)) rfl ?_ | refine s_pur (p_geqF rfl rfl (by omega)) rfl ?_ | refine s_pur (p_eqlT rfl rfl (by omega)) rfl ?_ | refine s_pur (p_eqlF rfl rfl (by omega)) rfl ?_ | refine s_pur (p_neqT rfl rfl (by omega)) rfl ?_ | refine s_pur (p_neqF rfl rfl (by omega)) rfl ?_)
    refine cut [(1, .slice va nv vc), (5, .int .i64 4), (6, .int .i64 k), (7, u), (8, v)] (by repeat (first | exact Sub.nil | refine Sub.cons rfl ?_)) ?_
    exact goon u v y lo ou ov nu nn sep
end Go.Proofs.Ybulkdisg
