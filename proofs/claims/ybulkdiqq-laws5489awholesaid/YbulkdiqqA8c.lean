/-
  A8c: the law's middle: the crossings laid, order called, the expected lists chosen.
-/
import Derived.Test.YbulkdiqqA8d
namespace Go.Proofs.Ybulkdiqq
set_option linter.unusedSimpArgs false
set_option linter.unusedVariables false
open Go Go.RowKit V Flt Srt
set_option maxRecDepth 100000

theorem places45 (w : World) : (Sem.run Yba.prog ((#[(0, 2), (1, 28), (2, 40), (3, 34), (4, 34), (5, 23), (6, 23), (7, 42), (11, 43), (12, 28)] : Array (Nat × Nat)).mapM fun f => do pure (f.1, ← sizeOf f.2)) w) = .ok #[(0, 1), (1, 1), (2, 1), (3, 1), (4, 1), (5, 1), (6, 1), (7, 4), (11, 1), (12, 1)] w := by
  simp [Array.mapM_eq_mapM_toList, List.mapM_cons, Yba.sizeOf2, Yba.sizeOf28, Yba.sizeOf40, Yba.sizeOf34, Yba.sizeOf23, Yba.sizeOf42, Yba.sizeOf43]

theorem p_build45 {l : Env} {h : Heap} {ty : TypeId} {x3 x4 x5 x6 : Operand} {v3 v4 v5 v6 : Option Addr} {n3 n4 n5 n6 k3 k4 k5 k6 : Nat} (h3 : ev l x3 = some (.slice v3 n3 k3)) (h4 : ev l x4 = some (.slice v4 n4 k4)) (h5 : ev l x5 = some (.slice v5 n5 k5)) (h6 : ev l x6 = some (.slice v6 n6 k6)) :
    Pur Yba.prog (.build 45 #[(0, .const (.int .i64 100)), (1, .const (.float .f64 4617315517961601024)), (3, x3), (4, x4), (5, x5), (6, x6)]) ty l h
      (.agg (cArr (.int .i64 100) (.float .f64 4617315517961601024) (.slice none 0 0) (.slice v3 n3 k3) (.slice v4 n4 k4) (.slice v5 n5 k5) (.slice v6 n6 k6) (.slice none 0 0) (.slice none 0 0) (.slice none 0 0) (.slice none 0 0) (.map none) (.float .f64 0))) := by
  refine ⟨fun ρ w d p af g hρ hw => ?_⟩
  have e0 : ρ (.const (.int .i64 100)) = .int .i64 100 := hρ _ _ rfl
  have e1 : ρ (.const (.float .f64 4617315517961601024)) = .float .f64 4617315517961601024 := hρ _ _ rfl
  simp only [execOp, Instr.build, List.map_toArray, List.map_cons, List.map_nil, e0, e1, hρ _ _ h3, hρ _ _ h4, hρ _ _ h5, hρ _ _ h6]
  simp [Yba.zeroValue45, run_underlying Yba.underlying45, Array.mapM_eq_mapM_toList, List.mapM_cons, Yba.sizeOf2, Yba.sizeOf28, Yba.sizeOf40, Yba.sizeOf34, Yba.sizeOf23, Yba.sizeOf42, Yba.sizeOf43, Instr.fill, Value.cells, cArr]

theorem cells_list {h : Heap} {b n : Nat} (hcell : ∀ j, j < n → ∃ v, hc h b j = some v ∧ v.oneCell' = true) : ∃ xs : List Value, xs.length = n ∧ (∀ j, j < n → hc h b j = xs[j]?) ∧ ∀ u ∈ xs, u.oneCell' = true := by
  refine ⟨(List.range n).map fun j => (hc h b j).getD undef, by simp, ?_, ?_⟩
  · intro j hj
    obtain ⟨v, hv, _⟩ := hcell j hj
    simp [hj, hv]
  · intro u hu
    obtain ⟨j, hj, rfl⟩ := List.mem_map.1 hu
    obtain ⟨v, hv, h1⟩ := hcell j (by simpa using hj)
    rw [hv]; exact h1

/-- What the clone of a row of floats holds. -/
theorem clone_slF {h h' : Heap} {b base n : Nat} {u : Value} {xs : List Value} {K : Nat → Int} (hF : SlF h (.slice (some ⟨b, 0, none⟩) n n) n K) (hxs : ∀ j, j < n → hc h b j = xs[j]?) (ho : Owns h' base 28 1 u n xs) : SlF h' u n K := by
  obtain ⟨_, _, e, hcase⟩ := hF
  cases e
  obtain ⟨a, c, rfl, ocase⟩ := ho.slice
  refine ⟨a, c, rfl, ?_⟩
  rcases ocase with r | ⟨g, rfl, _, _⟩
  · exact .inl r
  rcases hcase with r | ⟨b', o', e, hcell⟩
  · exact .inl r
  cases e
  refine .inr ⟨g, 0, rfl, fun j hj => ?_⟩
  obtain ⟨x, h1, h2⟩ := hcell j hj
  rw [Nat.zero_add, hxs j hj] at h1
  exact ⟨x, by rw [Nat.zero_add]; exact ho.cell rfl h1, h2⟩

theorem owns_nn {h : Heap} {base n : Nat} {e : TypeId} {u : Value} {xs : List Value} (ho : Owns h base e 1 u n xs) (hn : ¬ u = .slice none 0 0) : ∃ g c, u = .slice (some ⟨g, 0, none⟩) n c ∧ base ≤ g ∧ g < h.size := by
  rcases ho.shape with ⟨hv, hn0⟩ | ⟨g, cap, cur, hv, hb, hg, hnc, hm, hs, ht⟩
  · exact absurd hv hn
  · exact ⟨g, cap, hv, hb, lt_of_get hg⟩

structure CF (h hh : Heap) (n bw : Nat) (pr : Nat → Bool) (KX KY : Nat → Int) (pv ind : Value) (gX gY ga gb ca cb : Nat) (m0 m1 : List Nat) : Prop where
  low : Low h.size h hh
  wk : ∀ i, i < n → hc hh bw (0 + i * 12 + 3) = some (.bool (pr i))
  prs : SlB hh pv n pr
  ind : SlI .i64 hh ind (nats (indOf pr n))
  fx : SlF hh (.slice (some ⟨gX, 0, none⟩) n n) n KX
  fy : SlF hh (.slice (some ⟨gY, 0, none⟩) n n) n KY
  ca : ∀ j, j < m0.length → hc hh ga j = (ints (nats m0))[j]?
  cb : ∀ j, j < m1.length → hc hh gb j = (ints (nats m1))[j]?
  ix : ∀ x ∈ m0, x < n
  iy : ∀ x ∈ m1, x < n
  lx : m0.length ≤ 1000
  ly : m1.length ≤ 1000
  kx : ∀ x y, x < n → y < n → KX x = KX y → x = y
  ky : ∀ x y, x < n → y < n → KY x = KY y → x = y
  bwl : bw < hh.size
  gXl : gX < hh.size
  gYl : gY < hh.size
  nn : n ≤ 1000

theorem ints_nats_one (m : List Nat) : ∀ u ∈ ints (nats m), u.oneCell' = true := by
  intro u hu
  simp only [ints, List.mem_map] at hu
  obtain ⟨_, _, rfl⟩ := hu
  rfl
theorem ints_nats_length (m : List Nat) : (ints (nats m)).length = m.length := by simp [ints, nats]

set_option maxHeartbeats 4000000 in
theorem partC {h hh : Heap} {n bw : Nat} {pr : Nat → Bool} {KX KY : Nat → Int} {pv ind : Value} {gX gY ga gb ca cb : Nat} {m0 m1 : List Nat} (p : Int) (D : CF h hh n bw pr KX KY pv ind gX gY ga gb ca cb m0 m1)
    {w0 : World} {R : Value → Heap → Prop} (hR : ∀ h', Low h.size h h' → R (.bool true) h') :
    V.Fin 326 w0 (CW Yba.prog (V.sub (Yba.f3.body.getD .skip) [1, 1, 1, 1, 1, 1, 1, 1, 1, 1, 1, 1, 1, 1, 1]) (bodyPost Yba.prog Yba.f3 (PostR w0 R)))
      [(0, pv), (17, .int .i64 n), (18, .slice (some ⟨bw, 0, none⟩) n n), (20, ind), (22, .slice (some ⟨gX, 0, none⟩) n n), (23, .slice (some ⟨gY, 0, none⟩) n n), (25, .slice (some ⟨ga, 0, none⟩) m0.length ca), (26, .slice (some ⟨gb, 0, none⟩) m1.length cb), (28, .int .i64 p)] hh := by
  have hn := D.nn
  have hlx := D.lx
  have hly := D.ly
  have onex : ∀ {q : Heap} {K : Nat → Int} {g : Nat}, SlF q (.slice (some ⟨g, 0, none⟩) n n) n K → ∀ j, j < n → ∃ v, hc q g j = some v ∧ v.oneCell' = true := by
    intro q K g hF j hj
    obtain ⟨_, _, e, hcase⟩ := hF
    cases e
    obtain ⟨b', o', e, hcell⟩ := hcase.resolve_left (by omega)
    cases e
    obtain ⟨x, h1, _⟩ := hcell j hj
    rw [Nat.zero_add] at h1
    exact ⟨_, h1, rfl⟩
  repeat (first | refine c_region ?_ | refine c_block ?_ | refine c_skip ?_ | refine c_exit ?_ | refine c_ret ?_ | refine n_then ?_ | refine n_block ?_ | refine x_then ?_ | refine x_block_eq ?_ | refine x_block_ne rfl ?_ | refine r_then ?_ | refine r_block ?_ | refine s_nil ?_ | refine c_true rfl ?_ | refine c_false rfl ?_ | refine s_pur (p_move rfl) rfl ?_ | refine s_pur (p_assign rfl) rfl ?_ | refine s_pur (p_nil rfl) rfl ?_ | refine s_pur (p_pick_t rfl rfl) rfl ?_ | refine s_pur (p_pick_f rfl rfl) rfl ?_)
  refine c_seq ?_
  repeat (first | refine c_region ?_ | refine c_block ?_ | refine c_skip ?_ | refine c_exit ?_ | refine c_ret ?_ | refine n_then ?_ | refine n_block ?_ | refine x_then ?_ | refine x_block_eq ?_ | refine x_block_ne rfl ?_ | refine r_then ?_ | refine r_block ?_ | refine s_nil ?_ | refine c_true rfl ?_ | refine c_false rfl ?_ | refine s_pur (p_move rfl) rfl ?_ | refine s_pur (p_assign rfl) rfl ?_ | refine s_pur (p_nil rfl) rfl ?_ | refine s_pur (p_pick_t rfl rfl) rfl ?_ | refine s_pur (p_pick_f rfl rfl) rfl ?_)
  refine s_call Yba.call9 rfl rfl (cloneI_ok hh ga m0.length ca (ints (nats m0)) (ints_nats_length m0) D.ca (ints_nats_one m0) hlx) ?_
  rintro u5 hA ⟨oA, loA, nnA⟩
  obtain ⟨gx, cx, rfl, hgx1, hgx2⟩ := owns_nn oA nnA
  repeat (first | refine c_region ?_ | refine c_block ?_ | refine c_skip ?_ | refine c_exit ?_ | refine c_ret ?_ | refine n_then ?_ | refine n_block ?_ | refine x_then ?_ | refine x_block_eq ?_ | refine x_block_ne rfl ?_ | refine r_then ?_ | refine r_block ?_ | refine s_nil ?_ | refine c_true rfl ?_ | refine c_false rfl ?_ | refine s_pur (p_move rfl) rfl ?_ | refine s_pur (p_assign rfl) rfl ?_ | refine s_pur (p_nil rfl) rfl ?_ | refine s_pur (p_pick_t rfl rfl) rfl ?_ | refine s_pur (p_pick_f rfl rfl) rfl ?_)
  refine s_call Yba.call9 rfl rfl (cloneI_ok hA gb m1.length cb (ints (nats m1)) (ints_nats_length m1) (fun j hj => by
    have h1 := D.cb j hj
    rw [ints_get m1 j hj] at h1 ⊢
    exact low_hc loA h1) (ints_nats_one m1) hly) ?_
  rintro u6 hB ⟨oB, loB, nnB⟩
  obtain ⟨gy, cy, rfl, hgy1, hgy2⟩ := owns_nn oB nnB
  refine s_pur (p_build45 rfl rfl rfl rfl) rfl ?_
  refine s_eff (e_box rfl) rfl ?_
  rintro _ hC ⟨rfl, hnC⟩
  have sA := loA.size
  have sB := loB.size
  have sC := hnC.size
  have loC : Low hB.size hB hC := (Low.refl _ _).new hnC (Nat.le_refl _)
  have fxC := D.fx.low (loA.then (loB.then loC))
  obtain ⟨xs, lxs, exs, oxs⟩ := cells_list (onex fxC)
  repeat (first | refine c_region ?_ | refine c_block ?_ | refine c_skip ?_ | refine c_exit ?_ | refine c_ret ?_ | refine n_then ?_ | refine n_block ?_ | refine x_then ?_ | refine x_block_eq ?_ | refine x_block_ne rfl ?_ | refine r_then ?_ | refine r_block ?_ | refine s_nil ?_ | refine c_true rfl ?_ | refine c_false rfl ?_ | refine s_pur (p_move rfl) rfl ?_ | refine s_pur (p_assign rfl) rfl ?_ | refine s_pur (p_nil rfl) rfl ?_ | refine s_pur (p_pick_t rfl rfl) rfl ?_ | refine s_pur (p_pick_f rfl rfl) rfl ?_)
  refine c_seq ?_
  repeat (first | refine c_region ?_ | refine c_block ?_ | refine c_skip ?_ | refine c_exit ?_ | refine c_ret ?_ | refine n_then ?_ | refine n_block ?_ | refine x_then ?_ | refine x_block_eq ?_ | refine x_block_ne rfl ?_ | refine r_then ?_ | refine r_block ?_ | refine s_nil ?_ | refine c_true rfl ?_ | refine c_false rfl ?_ | refine s_pur (p_move rfl) rfl ?_ | refine s_pur (p_assign rfl) rfl ?_ | refine s_pur (p_nil rfl) rfl ?_ | refine s_pur (p_pick_t rfl rfl) rfl ?_ | refine s_pur (p_pick_f rfl rfl) rfl ?_)
  refine s_call Yba.call10 rfl rfl (cloneF_ok hC gX n n xs lxs exs oxs hn) ?_
  rintro u30 hD ⟨oD, loD, nnD⟩
  have f30D := clone_slF fxC exs oD
  have fyD := D.fy.low (loA.then (loB.then (loC.then loD)))
  obtain ⟨ys, lys, eys, oys⟩ := cells_list (onex fyD)
  repeat (first | refine c_region ?_ | refine c_block ?_ | refine c_skip ?_ | refine c_exit ?_ | refine c_ret ?_ | refine n_then ?_ | refine n_block ?_ | refine x_then ?_ | refine x_block_eq ?_ | refine x_block_ne rfl ?_ | refine r_then ?_ | refine r_block ?_ | refine s_nil ?_ | refine c_true rfl ?_ | refine c_false rfl ?_ | refine s_pur (p_move rfl) rfl ?_ | refine s_pur (p_assign rfl) rfl ?_ | refine s_pur (p_nil rfl) rfl ?_ | refine s_pur (p_pick_t rfl rfl) rfl ?_ | refine s_pur (p_pick_f rfl rfl) rfl ?_)
  refine c_seq ?_
  repeat (first | refine c_region ?_ | refine c_block ?_ | refine c_skip ?_ | refine c_exit ?_ | refine c_ret ?_ | refine n_then ?_ | refine n_block ?_ | refine x_then ?_ | refine x_block_eq ?_ | refine x_block_ne rfl ?_ | refine r_then ?_ | refine r_block ?_ | refine s_nil ?_ | refine c_true rfl ?_ | refine c_false rfl ?_ | refine s_pur (p_move rfl) rfl ?_ | refine s_pur (p_assign rfl) rfl ?_ | refine s_pur (p_nil rfl) rfl ?_ | refine s_pur (p_pick_t rfl rfl) rfl ?_ | refine s_pur (p_pick_f rfl rfl) rfl ?_)
  refine s_call Yba.call10 rfl rfl (cloneF_ok hD gY n n ys lys eys oys hn) ?_
  rintro u31 hE ⟨oE, loE, nnE⟩
  have f31E := clone_slF fyD eys oE
  have f30E := f30D.low loE
  have sD := loD.size
  have sE := loE.size
  have l3 : Low hh.size hh hE := loA.then (loB.then (loC.then (loD.then loE)))
  obtain ⟨g30, c30, rfl, h30a, h30b⟩ := owns_nn oD nnD
  obtain ⟨g31, c31, rfl, h31a, h31b⟩ := owns_nn oE nnE
  have cE : hE[hB.size]? = some (lawC n gX gY (.slice (some ⟨gx, 0, none⟩) m0.length cx) (.slice (some ⟨gy, 0, none⟩) m1.length cy)) := by
    rw [(loD.then loE).same _ (by omega)]; exact hnC.at_
  have oxE : Owns hE hh.size 3 1 (.slice (some ⟨gx, 0, none⟩) m0.length cx) m0.length (ints (nats m0)) := oA.keep fun k _ hk _ => (loB.then (loC.then (loD.then loE))).same k hk
  have oyE : Owns hE hh.size 3 1 (.slice (some ⟨gy, 0, none⟩) m1.length cy) m1.length (ints (nats m1)) := (oB.keep fun k _ hk _ => (loC.then (loD.then loE)).same k hk).mono sA
  have bwl := D.bwl
  have gXl := D.gXl
  have gYl := D.gYl
  have hord := order_ok hE hh.size hB.size bw n gx gy cx cy pr p m0 m1 KX KY _ _ _ _ _ _ _ _ _ _ _ cE (fun i hi => low_hc l3 (D.wk i hi)) oxE oyE (by omega) (by omega) (by omega) (by omega) (by omega) (by omega) (by omega)
    (D.fx.low l3) (D.fy.low l3) (fun k hk => by simp [Value.ownBlock] at hk; omega) (fun k hk => by simp [Value.ownBlock] at hk; omega) D.ix D.iy hlx hly hn
  repeat (first | refine c_region ?_ | refine c_block ?_ | refine c_skip ?_ | refine c_exit ?_ | refine c_ret ?_ | refine n_then ?_ | refine n_block ?_ | refine x_then ?_ | refine x_block_eq ?_ | refine x_block_ne rfl ?_ | refine r_then ?_ | refine r_block ?_ | refine s_nil ?_ | refine c_true rfl ?_ | refine c_false rfl ?_ | refine s_pur (p_move rfl) rfl ?_ | refine s_pur (p_assign rfl) rfl ?_ | refine s_pur (p_nil rfl) rfl ?_ | refine s_pur (p_pick_t rfl rfl) rfl ?_ | refine s_pur (p_pick_f rfl rfl) rfl ?_)
  refine c_seq ?_
  repeat (first | refine c_region ?_ | refine c_block ?_ | refine c_skip ?_ | refine c_exit ?_ | refine c_ret ?_ | refine n_then ?_ | refine n_block ?_ | refine x_then ?_ | refine x_block_eq ?_ | refine x_block_ne rfl ?_ | refine r_then ?_ | refine r_block ?_ | refine s_nil ?_ | refine c_true rfl ?_ | refine c_false rfl ?_ | refine s_pur (p_move rfl) rfl ?_ | refine s_pur (p_assign rfl) rfl ?_ | refine s_pur (p_nil rfl) rfl ?_ | refine s_pur (p_pick_t rfl rfl) rfl ?_ | refine s_pur (p_pick_f rfl rfl) rfl ?_)
  refine s_call Yba.call11 rfl rfl hord ?_
  rintro _ h5 ⟨zx, zy, u, v, px, ax, py, ay, T⟩
  have s5 := T.size
  have l5 : Low hh.size hh h5 := ⟨by omega, fun k hk => by rw [T.other k (by omega) (by omega) (by omega) (by omega)]; exact l3.same k hk⟩
  have f30 : SlF h5 (.slice (some ⟨g30, 0, none⟩) n c30) n KX := f30E.keep fun k hk _ => by simp [Value.ownBlock] at hk; exact T.other k (by omega) (by omega) (by omega) (by omega)
  have f31 : SlF h5 (.slice (some ⟨g31, 0, none⟩) n c31) n KY := f31E.keep fun k hk _ => by simp [Value.ownBlock] at hk; exact T.other k (by omega) (by omega) (by omega) (by omega)
  have cblk : h5[hB.size]? = some (lawC n gX gY u v) := T.cblk
  have ou := T.ownx.slI
  have ov := T.owny.slI
  have pr5 := D.prs.low l5
  have a5 : SlI .i64 h5 (.slice (some ⟨ga, 0, none⟩) m0.length ca) (nats m0) := ⟨_, ca, by rw [nats_length], .inr ⟨ga, 0, rfl, fun j hj => by
    rw [nats_length] at hj
    have h1 := D.ca j hj
    rw [ints_get m0 j hj] at h1
    rw [Nat.zero_add, nats_getD]; exact low_hc l5 h1⟩⟩
  have b5 : SlI .i64 h5 (.slice (some ⟨gb, 0, none⟩) m1.length cb) (nats m1) := ⟨_, cb, by rw [nats_length], .inr ⟨gb, 0, rfl, fun j hj => by
    rw [nats_length] at hj
    have h1 := D.cb j hj
    rw [ints_get m1 j hj] at h1
    rw [Nat.zero_add, nats_getD]; exact low_hc l5 h1⟩⟩
  have i5 := D.ind.low l5
  have lowF : Low h.size h h5 := D.low.then l5
  have wk5 : ∀ i, i < n → hc h5 bw (0 + i * 12 + 3) = some (.bool (pr i)) := fun i hi => low_hc l5 (D.wk i hi)
  have fx5 := D.fx.low l5
  have fy5 := D.fy.low l5
  have ilt := indOf_lt pr n
  have ile := indOf_length_le pr n
  have D1 := D.ix
  have D2 := D.iy
  have D3 := D.kx
  have D4 := D.ky
  have cst : ∀ j, j < m0.length → hc h5 ga (0 + j) = some (.int .i64 ((m0.getD j 0 : Nat) : Int)) := fun j hj => by
    have h1 := D.ca j hj
    rw [ints_get m0 j hj] at h1
    rw [Nat.zero_add]; exact low_hc l5 h1
  clear hord T D l3 l5 oxE oyE cE f30E f31E oE oD oA oB f30D fyD fxC onex loA loB loC loD loE hnC
  repeat (first | refine c_region ?_ | refine c_block ?_ | refine c_skip ?_ | refine c_exit ?_ | refine c_ret ?_ | refine n_then ?_ | refine n_block ?_ | refine x_then ?_ | refine x_block_eq ?_ | refine x_block_ne rfl ?_ | refine r_then ?_ | refine r_block ?_ | refine s_nil ?_ | refine c_true rfl ?_ | refine c_false rfl ?_ | refine s_pur (p_move rfl) rfl ?_ | refine s_pur (p_assign rfl) rfl ?_ | refine s_pur (p_nil rfl) rfl ?_ | refine s_pur (p_pick_t rfl rfl) rfl ?_ | refine s_pur (p_pick_f rfl rfl) rfl ?_)
  refine c_mid [(0, pv), (17, .int .i64 n), (18, .slice (some ⟨bw, 0, none⟩) n n), (20, ind), (25, .slice (some ⟨ga, 0, none⟩) m0.length ca), (26, .slice (some ⟨gb, 0, none⟩) m1.length cb), (29, .pointer (some ⟨hB.size, 0, none⟩)), (30, .slice (some ⟨g30, 0, none⟩) n c30), (31, .slice (some ⟨g31, 0, none⟩) n c31), (32, .bool (sameTo pr m0 p 0))] (fun q => h5 = q) ?_ ?_
  · repeat (first | refine c_seq ?_ | refine c_region ?_ | refine c_block ?_ | refine c_skip ?_ | refine c_exit ?_ | refine c_ret ?_ | refine n_then ?_ | refine n_block ?_ | refine x_then ?_ | refine x_block_eq ?_ | refine x_block_ne rfl ?_ | refine r_then ?_ | refine r_block ?_ | refine s_nil ?_ | refine c_true rfl ?_ | refine c_false rfl ?_ | refine s_pur (p_move rfl) rfl ?_ | refine s_pur (p_assign rfl) rfl ?_ | refine s_pur (p_nil rfl) rfl ?_ | refine s_pur (p_pick_t rfl rfl) rfl ?_ | refine s_pur (p_pick_f rfl rfl) rfl ?_ | refine s_pur (p_len rfl Yba.underlying23) rfl ?_ | refine s_pur (p_idx1 rfl rfl rfl (by omega) Yba.underlying23 Yba.sizeOf3) rfl ?_ | refine s_pur (p_lss rfl rfl) rfl ?_ | refine s_pur (p_leq rfl rfl) rfl ?_ | refine s_pur (p_gtr rfl rfl) rfl ?_ | refine s_pur (p_geq rfl rfl) rfl ?_ | refine s_pur (p_eql rfl rfl) rfl ?_ | refine s_pur (p_neq rfl rfl) rfl ?_)
    exact m_done rfl (.cons rfl (.cons rfl (.cons rfl (.cons rfl (.cons rfl (.cons rfl (.cons rfl (.cons rfl (.cons rfl (.cons' rfl (by simp [sameTo]) .nil))))))))))
  rintro _ rfl
  refine c_mid [(0, pv), (17, .int .i64 n), (18, .slice (some ⟨bw, 0, none⟩) n n), (20, ind), (25, .slice (some ⟨ga, 0, none⟩) m0.length ca), (26, .slice (some ⟨gb, 0, none⟩) m1.length cb), (29, .pointer (some ⟨hB.size, 0, none⟩)), (30, .slice (some ⟨g30, 0, none⟩) n c30), (31, .slice (some ⟨g31, 0, none⟩) n c31), (32, .bool (sameTo pr m0 p m0.length))] (fun q => h5 = q) ?_ ?_
  · repeat (first | refine c_seq ?_ | refine c_region ?_ | refine c_block ?_ | refine c_skip ?_ | refine c_exit ?_ | refine c_ret ?_ | refine n_then ?_ | refine n_block ?_ | refine x_then ?_ | refine x_block_eq ?_ | refine x_block_ne rfl ?_ | refine r_then ?_ | refine r_block ?_ | refine s_nil ?_ | refine c_true rfl ?_ | refine c_false rfl ?_ | refine s_pur (p_move rfl) rfl ?_ | refine s_pur (p_assign rfl) rfl ?_ | refine s_pur (p_nil rfl) rfl ?_ | refine s_pur (p_pick_t rfl rfl) rfl ?_ | refine s_pur (p_pick_f rfl rfl) rfl ?_ | refine s_pur (p_len rfl Yba.underlying23) rfl ?_ | refine s_pur (p_idx1 rfl rfl rfl (by omega) Yba.underlying23 Yba.sizeOf3) rfl ?_)
    obtain ⟨a0, d0, rfl, case0⟩ := pr5
    refine c_loop (fun x : Nat => [(0, .slice a0 n d0), (17, .int .i64 n), (18, .slice (some ⟨bw, 0, none⟩) n n), (20, ind), (25, .slice (some ⟨ga, 0, none⟩) m0.length ca), (26, .slice (some ⟨gb, 0, none⟩) m1.length cb), (29, .pointer (some ⟨hB.size, 0, none⟩)), (30, .slice (some ⟨g30, 0, none⟩) n c30), (31, .slice (some ⟨g31, 0, none⟩) n c31), (32, .bool (sameTo pr m0 p x)), (154, .slice (some ⟨ga, 0, none⟩) m0.length ca), (155, .int .i64 m0.length), (156, .int .i64 x)])
      (fun x q => x ≤ m0.length ∧ h5 = q) (fun x => m0.length - x) 0 ⟨by omega, rfl⟩ (by repeat (first | exact Sub.nil | refine Sub.cons rfl ?_)) ?_
    rintro k _ ⟨hk, rfl⟩
    by_cases hlt : k < m0.length
    · have l1 := cst k hlt
      have hi : m0.getD k 0 < n := by rw [getD_lt m0 k hlt]; exact D1 _ (List.getElem_mem _)
      have hs := sameTo_succ pr m0 p k hlt
      generalize m0.getD k 0 = i at l1 hi hs
      obtain ⟨b0, o0, rfl, cell0⟩ := case0.resolve_left (by omega)
      have l2 := cell0 i hi
      generalize sameTo pr m0 p k = b at hs
      cases b
      · repeat (first | refine c_seq ?_ | refine c_region ?_ | refine c_block ?_ | refine c_skip ?_ | refine c_exit ?_ | refine c_ret ?_ | refine n_then ?_ | refine n_block ?_ | refine x_then ?_ | refine x_block_eq ?_ | refine x_block_ne rfl ?_ | refine r_then ?_ | refine r_block ?_ | refine s_nil ?_ | refine c_true rfl ?_ | refine c_false rfl ?_ | refine s_pur (p_move rfl) rfl ?_ | refine s_pur (p_assign rfl) rfl ?_ | refine s_pur (p_nil rfl) rfl ?_ | refine s_pur (p_pick_t rfl rfl) rfl ?_ | refine s_pur (p_pick_f rfl rfl) rfl ?_ | refine s_pur (p_len rfl Yba.underlying23) rfl ?_ | refine s_pur (p_idx1 rfl rfl rfl (by omega) Yba.underlying23 Yba.sizeOf3) rfl ?_ | refine s_pur (p_len rfl Yba.underlying22) rfl ?_ | refine s_pur (p_idx1 rfl rfl rfl (by omega) Yba.underlying22 Yba.sizeOf4) rfl ?_ | refine s_pur (p_load rfl Yba.isAgg3 (by assumption)) rfl ?_ | refine s_pur (p_load rfl Yba.isAgg4 (by assumption)) rfl ?_ | refine s_pur (p_lssT rfl rfl (by omega)) rfl ?_ | refine s_pur (p_lssF rfl rfl (by omega)) rfl ?_ | refine s_pur (p_leqT rfl rfl (by omega)) rfl ?_ | refine s_pur (p_leqF rfl rfl (by omega)) rfl ?_ | refine s_pur (p_gtrT rfl rfl (by omega)) rfl ?_ | refine s_pur (p_gtrF rfl rfl (by omega)) rfl ?_ | refine s_pur (p_geqT rfl rfl (by omega)) rfl ?_ | refine s_pur (p_geqF rfl rfl (by omega)) rfl ?_ | refine s_pur (p_eqlT rfl rfl (by omega)) rfl ?_ | refine s_pur (p_eqlF rfl rfl (by omega)) rfl ?_ | refine s_pur (p_neqT rfl rfl (by omega)) rfl ?_ | refine s_pur (p_neqF rfl rfl (by omega)) rfl ?_ | refine s_pur (p_add rfl rfl rfl (by omega) (by omega)) rfl ?_ | refine s_skip rfl rfl rfl ?_ | refine s_skip' rfl rfl rfl ?_ | refine s_pur_g rfl (p_move rfl) rfl ?_ | refine s_pur_g rfl (p_assign rfl) rfl ?_ | refine s_pur_g rfl (p_nil rfl) rfl ?_ | refine s_pur_g rfl (p_pick_t rfl rfl) rfl ?_ | refine s_pur_g rfl (p_pick_f rfl rfl) rfl ?_ | refine s_pur_g rfl (p_len rfl Yba.underlying23) rfl ?_ | refine s_pur_g rfl (p_idx1 rfl rfl rfl (by omega) Yba.underlying23 Yba.sizeOf3) rfl ?_ | refine s_pur_g rfl (p_len rfl Yba.underlying22) rfl ?_ | refine s_pur_g rfl (p_idx1 rfl rfl rfl (by omega) Yba.underlying22 Yba.sizeOf4) rfl ?_ | refine s_pur_g rfl (p_load rfl Yba.isAgg3 (by assumption)) rfl ?_ | refine s_pur_g rfl (p_load rfl Yba.isAgg4 (by assumption)) rfl ?_ | refine s_pur_g rfl (p_lssT rfl rfl (by omega)) rfl ?_ | refine s_pur_g rfl (p_lssF rfl rfl (by omega)) rfl ?_ | refine s_pur_g rfl (p_leqT rfl rfl (by omega)) rfl ?_ | refine s_pur_g rfl (p_leqF rfl rfl (by omega)) rfl ?_ | refine s_pur_g rfl (p_gtrT rfl rfl (by omega)) rfl ?_ | refine s_pur_g rfl (p_gtrF rfl rfl (by omega)) rfl ?_ | refine s_pur_g rfl (p_geqT rfl rfl (by omega)) rfl ?_ | refine s_pur_g rfl (p_geqF rfl rfl (by omega)) rfl ?_ | refine s_pur_g rfl (p_eqlT rfl rfl (by omega)) rfl ?_ | refine s_pur_g rfl (p_eqlF rfl rfl (by omega)) rfl ?_ | refine s_pur_g rfl (p_neqT rfl rfl (by omega)) rfl ?_ | refine s_pur_g rfl (p_neqF rfl rfl (by omega)) rfl ?_ | refine s_pur_g rfl (p_add rfl rfl rfl (by omega) (by omega)) rfl ?_)
        exact c_next (k + 1) ⟨hlt, rfl⟩ (.cons rfl (.cons rfl (.cons rfl (.cons rfl (.cons rfl (.cons rfl (.cons rfl (.cons rfl (.cons rfl (.cons' rfl (by rw [hs]; rfl) (.cons rfl (.cons rfl (.cons rfl .nil))))))))))))) (by omega)
      · repeat (first | refine c_seq ?_ | refine c_region ?_ | refine c_block ?_ | refine c_skip ?_ | refine c_exit ?_ | refine c_ret ?_ | refine n_then ?_ | refine n_block ?_ | refine x_then ?_ | refine x_block_eq ?_ | refine x_block_ne rfl ?_ | refine r_then ?_ | refine r_block ?_ | refine s_nil ?_ | refine c_true rfl ?_ | refine c_false rfl ?_ | refine s_pur (p_move rfl) rfl ?_ | refine s_pur (p_assign rfl) rfl ?_ | refine s_pur (p_nil rfl) rfl ?_ | refine s_pur (p_pick_t rfl rfl) rfl ?_ | refine s_pur (p_pick_f rfl rfl) rfl ?_ | refine s_pur (p_len rfl Yba.underlying23) rfl ?_ | refine s_pur (p_idx1 rfl rfl rfl (by omega) Yba.underlying23 Yba.sizeOf3) rfl ?_ | refine s_pur (p_len rfl Yba.underlying22) rfl ?_ | refine s_pur (p_idx1 rfl rfl rfl (by omega) Yba.underlying22 Yba.sizeOf4) rfl ?_ | refine s_pur (p_load rfl Yba.isAgg3 (by assumption)) rfl ?_ | refine s_pur (p_load rfl Yba.isAgg4 (by assumption)) rfl ?_ | refine s_pur (p_lssT rfl rfl (by omega)) rfl ?_ | refine s_pur (p_lssF rfl rfl (by omega)) rfl ?_ | refine s_pur (p_leqT rfl rfl (by omega)) rfl ?_ | refine s_pur (p_leqF rfl rfl (by omega)) rfl ?_ | refine s_pur (p_gtrT rfl rfl (by omega)) rfl ?_ | refine s_pur (p_gtrF rfl rfl (by omega)) rfl ?_ | refine s_pur (p_geqT rfl rfl (by omega)) rfl ?_ | refine s_pur (p_geqF rfl rfl (by omega)) rfl ?_ | refine s_pur (p_eqlT rfl rfl (by omega)) rfl ?_ | refine s_pur (p_eqlF rfl rfl (by omega)) rfl ?_ | refine s_pur (p_neqT rfl rfl (by omega)) rfl ?_ | refine s_pur (p_neqF rfl rfl (by omega)) rfl ?_ | refine s_pur (p_add rfl rfl rfl (by omega) (by omega)) rfl ?_ | refine s_skip rfl rfl rfl ?_ | refine s_skip' rfl rfl rfl ?_ | refine s_pur_g rfl (p_move rfl) rfl ?_ | refine s_pur_g rfl (p_assign rfl) rfl ?_ | refine s_pur_g rfl (p_nil rfl) rfl ?_ | refine s_pur_g rfl (p_pick_t rfl rfl) rfl ?_ | refine s_pur_g rfl (p_pick_f rfl rfl) rfl ?_ | refine s_pur_g rfl (p_len rfl Yba.underlying23) rfl ?_ | refine s_pur_g rfl (p_idx1 rfl rfl rfl (by omega) Yba.underlying23 Yba.sizeOf3) rfl ?_ | refine s_pur_g rfl (p_len rfl Yba.underlying22) rfl ?_ | refine s_pur_g rfl (p_idx1 rfl rfl rfl (by omega) Yba.underlying22 Yba.sizeOf4) rfl ?_ | refine s_pur_g rfl (p_load rfl Yba.isAgg3 (by assumption)) rfl ?_ | refine s_pur_g rfl (p_load rfl Yba.isAgg4 (by assumption)) rfl ?_ | refine s_pur_g rfl (p_lssT rfl rfl (by omega)) rfl ?_ | refine s_pur_g rfl (p_lssF rfl rfl (by omega)) rfl ?_ | refine s_pur_g rfl (p_leqT rfl rfl (by omega)) rfl ?_ | refine s_pur_g rfl (p_leqF rfl rfl (by omega)) rfl ?_ | refine s_pur_g rfl (p_gtrT rfl rfl (by omega)) rfl ?_ | refine s_pur_g rfl (p_gtrF rfl rfl (by omega)) rfl ?_ | refine s_pur_g rfl (p_geqT rfl rfl (by omega)) rfl ?_ | refine s_pur_g rfl (p_geqF rfl rfl (by omega)) rfl ?_ | refine s_pur_g rfl (p_eqlT rfl rfl (by omega)) rfl ?_ | refine s_pur_g rfl (p_eqlF rfl rfl (by omega)) rfl ?_ | refine s_pur_g rfl (p_neqT rfl rfl (by omega)) rfl ?_ | refine s_pur_g rfl (p_neqF rfl rfl (by omega)) rfl ?_ | refine s_pur_g rfl (p_add rfl rfl rfl (by omega) (by omega)) rfl ?_)
        exact c_next (k + 1) ⟨hlt, rfl⟩ (.cons rfl (.cons rfl (.cons rfl (.cons rfl (.cons rfl (.cons rfl (.cons rfl (.cons rfl (.cons rfl (.cons' rfl (by rw [hs]; rfl) (.cons rfl (.cons rfl (.cons rfl .nil))))))))))))) (by omega)
    · have : k = m0.length := by omega
      subst this
      repeat (first | refine c_seq ?_ | refine c_region ?_ | refine c_block ?_ | refine c_skip ?_ | refine c_exit ?_ | refine c_ret ?_ | refine n_then ?_ | refine n_block ?_ | refine x_then ?_ | refine x_block_eq ?_ | refine x_block_ne rfl ?_ | refine r_then ?_ | refine r_block ?_ | refine s_nil ?_ | refine c_true rfl ?_ | refine c_false rfl ?_ | refine s_pur (p_move rfl) rfl ?_ | refine s_pur (p_assign rfl) rfl ?_ | refine s_pur (p_nil rfl) rfl ?_ | refine s_pur (p_pick_t rfl rfl) rfl ?_ | refine s_pur (p_pick_f rfl rfl) rfl ?_ | refine s_pur (p_lssT rfl rfl (by omega)) rfl ?_ | refine s_pur (p_lssF rfl rfl (by omega)) rfl ?_ | refine s_pur (p_leqT rfl rfl (by omega)) rfl ?_ | refine s_pur (p_leqF rfl rfl (by omega)) rfl ?_ | refine s_pur (p_gtrT rfl rfl (by omega)) rfl ?_ | refine s_pur (p_gtrF rfl rfl (by omega)) rfl ?_ | refine s_pur (p_geqT rfl rfl (by omega)) rfl ?_ | refine s_pur (p_geqF rfl rfl (by omega)) rfl ?_ | refine s_pur (p_eqlT rfl rfl (by omega)) rfl ?_ | refine s_pur (p_eqlF rfl rfl (by omega)) rfl ?_ | refine s_pur (p_neqT rfl rfl (by omega)) rfl ?_ | refine s_pur (p_neqF rfl rfl (by omega)) rfl ?_)
      exact m_done rfl (by repeat (first | exact Sub.nil | refine Sub.cons rfl ?_))
  rintro _ rfl
  generalize hsame : sameTo pr m0 p m0.length = same at px py
  cases same
  · simp only [Bool.false_eq_true, if_false] at px py
    refine c_mid [(0, pv), (17, .int .i64 n), (18, .slice (some ⟨bw, 0, none⟩) n n), (20, ind), (29, .pointer (some ⟨hB.size, 0, none⟩)), (30, .slice (some ⟨g30, 0, none⟩) n c30), (31, .slice (some ⟨g31, 0, none⟩) n c31), (32, .bool false)] (fun q => h5 = q) ?_ ?_
    · repeat (first | refine c_seq ?_ | refine c_region ?_ | refine c_block ?_ | refine c_skip ?_ | refine c_exit ?_ | refine c_ret ?_ | refine n_then ?_ | refine n_block ?_ | refine x_then ?_ | refine x_block_eq ?_ | refine x_block_ne rfl ?_ | refine r_then ?_ | refine r_block ?_ | refine s_nil ?_ | refine c_true rfl ?_ | refine c_false rfl ?_ | refine s_pur (p_move rfl) rfl ?_ | refine s_pur (p_assign rfl) rfl ?_ | refine s_pur (p_nil rfl) rfl ?_ | refine s_pur (p_pick_t rfl rfl) rfl ?_ | refine s_pur (p_pick_f rfl rfl) rfl ?_)
      exact m_done rfl (by repeat (first | exact Sub.nil | refine Sub.cons rfl ?_))
    rintro _ rfl
    refine c_mid [(0, pv), (17, .int .i64 n), (18, .slice (some ⟨bw, 0, none⟩) n n), (29, .pointer (some ⟨hB.size, 0, none⟩)), (30, .slice (some ⟨g30, 0, none⟩) n c30), (31, .slice (some ⟨g31, 0, none⟩) n c31), (35, ind), (36, ind)] (fun q => h5 = q) ?_ ?_
    · repeat (first | refine c_seq ?_ | refine c_region ?_ | refine c_block ?_ | refine c_skip ?_ | refine c_exit ?_ | refine c_ret ?_ | refine n_then ?_ | refine n_block ?_ | refine x_then ?_ | refine x_block_eq ?_ | refine x_block_ne rfl ?_ | refine r_then ?_ | refine r_block ?_ | refine s_nil ?_ | refine c_true rfl ?_ | refine c_false rfl ?_ | refine s_pur (p_move rfl) rfl ?_ | refine s_pur (p_assign rfl) rfl ?_ | refine s_pur (p_nil rfl) rfl ?_ | refine s_pur (p_pick_t rfl rfl) rfl ?_ | refine s_pur (p_pick_f rfl rfl) rfl ?_ | refine s_pur (p_not rfl) rfl ?_)
      exact m_done rfl (by repeat (first | exact Sub.nil | refine Sub.cons rfl ?_))
    rintro _ rfl
    exact partD ⟨lowF, cblk, ou, ov, i5, i5, px, ax, py, ay, ilt, ilt, by omega, by omega, D3, D4, fx5, fy5, f30, f31, wk5, pr5, hn⟩ hR
  · simp only [if_true] at px py
    refine c_mid [(0, pv), (17, .int .i64 n), (18, .slice (some ⟨bw, 0, none⟩) n n), (29, .pointer (some ⟨hB.size, 0, none⟩)), (30, .slice (some ⟨g30, 0, none⟩) n c30), (31, .slice (some ⟨g31, 0, none⟩) n c31), (32, .bool true), (35, .slice (some ⟨ga, 0, none⟩) m0.length ca), (36, .slice (some ⟨gb, 0, none⟩) m1.length cb)] (fun q => h5 = q) ?_ ?_
    · repeat (first | refine c_seq ?_ | refine c_region ?_ | refine c_block ?_ | refine c_skip ?_ | refine c_exit ?_ | refine c_ret ?_ | refine n_then ?_ | refine n_block ?_ | refine x_then ?_ | refine x_block_eq ?_ | refine x_block_ne rfl ?_ | refine r_then ?_ | refine r_block ?_ | refine s_nil ?_ | refine c_true rfl ?_ | refine c_false rfl ?_ | refine s_pur (p_move rfl) rfl ?_ | refine s_pur (p_assign rfl) rfl ?_ | refine s_pur (p_nil rfl) rfl ?_ | refine s_pur (p_pick_t rfl rfl) rfl ?_ | refine s_pur (p_pick_f rfl rfl) rfl ?_)
      exact m_done rfl (by repeat (first | exact Sub.nil | refine Sub.cons rfl ?_))
    rintro _ rfl
    refine c_mid [(0, pv), (17, .int .i64 n), (18, .slice (some ⟨bw, 0, none⟩) n n), (29, .pointer (some ⟨hB.size, 0, none⟩)), (30, .slice (some ⟨g30, 0, none⟩) n c30), (31, .slice (some ⟨g31, 0, none⟩) n c31), (35, .slice (some ⟨ga, 0, none⟩) m0.length ca), (36, .slice (some ⟨gb, 0, none⟩) m1.length cb)] (fun q => h5 = q) ?_ ?_
    · repeat (first | refine c_seq ?_ | refine c_region ?_ | refine c_block ?_ | refine c_skip ?_ | refine c_exit ?_ | refine c_ret ?_ | refine n_then ?_ | refine n_block ?_ | refine x_then ?_ | refine x_block_eq ?_ | refine x_block_ne rfl ?_ | refine r_then ?_ | refine r_block ?_ | refine s_nil ?_ | refine c_true rfl ?_ | refine c_false rfl ?_ | refine s_pur (p_move rfl) rfl ?_ | refine s_pur (p_assign rfl) rfl ?_ | refine s_pur (p_nil rfl) rfl ?_ | refine s_pur (p_pick_t rfl rfl) rfl ?_ | refine s_pur (p_pick_f rfl rfl) rfl ?_ | refine s_pur (p_not rfl) rfl ?_)
      exact m_done rfl (by repeat (first | exact Sub.nil | refine Sub.cons rfl ?_))
    rintro _ rfl
    exact partD ⟨lowF, cblk, ou, ov, a5, b5, px, ax, py, ay, D1, D2, hlx, hly, D3, D4, fx5, fy5, f30, f31, wk5, pr5, hn⟩ hR
end Go.Proofs.Ybulkdiqq
