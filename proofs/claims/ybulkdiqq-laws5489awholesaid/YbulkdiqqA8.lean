/-
  A8: scenario.LawS5489AWhole, whole.
-/
import Derived.Test.YbulkdiqqA8b
namespace Go.Proofs.Ybulkdiqq
set_option linter.unusedSimpArgs false
set_option linter.unusedVariables false
open Go Go.RowKit V Flt Srt
set_option maxRecDepth 100000

theorem info33 : ∃ i, Yba.prog.info? 33 = some i ∧ i.zero = some (.agg #[.pointer none, .int .i64 0, .int .i64 0, .bool false, .float .f64 0, .float .f64 0, .float .f64 0, .float .f64 0, .float .f64 0, .float .f64 0, .float .f64 0, .pointer none]) ∧ i.size = 12 ∧ i.bytes = 96 := info_parts (by kernel_rfl)

theorem keyI_inj (ks : List Int) (x y : Nat) (hx : x < 1000) (hy : y < 1000) (e : keyI ks x = keyI ks y) : x = y := by
  unfold keyI at e
  omega

/-- The cells of the walks: what has been laid. -/
def WkTo (q : Heap) (bw n k : Nat) (pr : Nat → Bool) : Prop := ∃ c, q[bw]? = some (.cells c 33 (0, 0)) ∧ c.size = n * 12 ∧ ∀ j, j < k → c[j * 12 + 3]? = some (.bool (pr j))
/-- A row of keys: what has been laid. -/
def FlTo (q : Heap) (g n k : Nat) (K : Nat → Int) : Prop := ∃ c, q[g]? = some (.cells c 28 (0, 0)) ∧ c.size = n ∧ ∀ j, j < k → ∃ x, c[j]? = some (.float .f64 x) ∧ IsI x (K j)
theorem FlTo.slF {q : Heap} {g n : Nat} {K : Nat → Int} (hf : FlTo q g n n K) : SlF q (.slice (some ⟨g, 0, none⟩) n n) n K := by
  obtain ⟨c, h1, h2, h3⟩ := hf
  refine ⟨_, n, rfl, .inr ⟨g, 0, rfl, fun j hj => ?_⟩⟩
  obtain ⟨x, e, i⟩ := h3 j hj
  exact ⟨x, by rw [hc_of h1, Nat.zero_add]; exact e, i⟩
theorem FlTo.keep {q q' : Heap} {g n k : Nat} {K : Nat → Int} (hf : FlTo q g n k K) (e : q'[g]? = q[g]?) : FlTo q' g n k K := by
  obtain ⟨c, h1, r⟩ := hf
  exact ⟨c, by rw [e]; exact h1, r⟩

set_option maxHeartbeats 4000000 in
theorem law_ok (h : Heap) (pv v4 v5 v6 v7 : Value) (n k1 rot : Nat) (p : Int) (pr : Nat → Bool) (x4 x5 k6 k7 : List Int) (h0 : SlB h pv n pr) (h4 : SlI .i64 h v4 x4) (h5 : SlI .i64 h v5 x5) (h6 : SlI .i16 h v6 k6) (h7 : SlI .i16 h v7 k7)
    (b6 : ∀ x ∈ k6, -32768 ≤ x ∧ x ≤ 32767) (b7 : ∀ x ∈ k7, -32768 ≤ x ∧ x ≤ 32767) (l6 : k6.length ≤ 9223372036854775807) (l7 : k7.length ≤ 9223372036854775807) (hk : k1 < 256) (hrot : rot < 256) :
    CallsH Yba.prog 3 #[pv, .int .u8 k1, .int .i64 p, .int .u8 rot, v4, v5, v6, v7] h (fun u h' => u = .bool true ∧ Low h.size h h') := by
  obtain ⟨a0, c0, rfl, case0⟩ := id h0
  obtain ⟨a4, c4, rfl, case4⟩ := id h4
  obtain ⟨a5, c5, rfl, case5⟩ := id h5
  refine calls_of [(0, .slice a0 n c0), (1, .int .u8 k1), (2, .int .i64 p), (3, .int .u8 rot), (4, .slice a4 x4.length c4), (5, .slice a5 x5.length c5), (6, v6), (7, v7)] Yba.func3 rfl Yba.ntmps3 (by simp) (.cons rfl (.cons rfl (.cons rfl (.cons rfl (.cons rfl (.cons rfl (.cons rfl (.cons rfl .nil)))))))) ?_
  intro w0 hw0
  clear case4 case5
  by_cases q0 : n > 1000
  · repeat (first | refine c_seq ?_ | refine c_region ?_ | refine c_block ?_ | refine c_skip ?_ | refine c_exit ?_ | refine c_ret ?_ | refine n_then ?_ | refine n_block ?_ | refine x_then ?_ | refine x_block_eq ?_ | refine x_block_ne rfl ?_ | refine r_then ?_ | refine r_block ?_ | refine s_nil ?_ | refine c_true rfl ?_ | refine c_false rfl ?_ | refine s_pur (p_move rfl) rfl ?_ | refine s_pur (p_assign rfl) rfl ?_ | refine s_pur (p_nil rfl) rfl ?_ | refine s_pur (p_pick_t rfl rfl) rfl ?_ | refine s_pur (p_pick_f rfl rfl) rfl ?_ | refine s_pur (p_len rfl Yba.underlying22) rfl ?_ | refine s_pur (p_idx1 rfl rfl rfl (by omega) Yba.underlying22 Yba.sizeOf4) rfl ?_ | refine s_pur (p_len rfl Yba.underlying23) rfl ?_ | refine s_pur (p_idx1 rfl rfl rfl (by omega) Yba.underlying23 Yba.sizeOf3) rfl ?_ | refine s_pur (p_lssT rfl rfl (by omega)) rfl ?_ | refine s_pur (p_lssF rfl rfl (by omega)) rfl ?_ | refine s_pur (p_leqT rfl rfl (by omega)) rfl ?_ | refine s_pur (p_leqF rfl rfl (by omega)) rfl ?_ | refine s_pur (p_gtrT rfl rfl (by omega)) rfl ?_ | refine s_pur (p_gtrF rfl rfl (by omega)) rfl ?_ | refine s_pur (p_geqT rfl rfl (by omega)) rfl ?_ | refine s_pur (p_geqF rfl rfl (by omega)) rfl ?_ | refine s_pur (p_eqlT rfl rfl (by omega)) rfl ?_ | refine s_pur (p_eqlF rfl rfl (by omega)) rfl ?_ | refine s_pur (p_neqT rfl rfl (by omega)) rfl ?_ | refine s_pur (p_neqF rfl rfl (by omega)) rfl ?_ | refine s_skip rfl rfl rfl ?_ | refine s_skip' rfl rfl rfl ?_ | refine s_pur_g rfl (p_move rfl) rfl ?_ | refine s_pur_g rfl (p_assign rfl) rfl ?_ | refine s_pur_g rfl (p_nil rfl) rfl ?_ | refine s_pur_g rfl (p_pick_t rfl rfl) rfl ?_ | refine s_pur_g rfl (p_pick_f rfl rfl) rfl ?_ | refine s_pur_g rfl (p_len rfl Yba.underlying22) rfl ?_ | refine s_pur_g rfl (p_idx1 rfl rfl rfl (by omega) Yba.underlying22 Yba.sizeOf4) rfl ?_ | refine s_pur_g rfl (p_len rfl Yba.underlying23) rfl ?_ | refine s_pur_g rfl (p_idx1 rfl rfl rfl (by omega) Yba.underlying23 Yba.sizeOf3) rfl ?_ | refine s_pur_g rfl (p_lssT rfl rfl (by omega)) rfl ?_ | refine s_pur_g rfl (p_lssF rfl rfl (by omega)) rfl ?_ | refine s_pur_g rfl (p_leqT rfl rfl (by omega)) rfl ?_ | refine s_pur_g rfl (p_leqF rfl rfl (by omega)) rfl ?_ | refine s_pur_g rfl (p_gtrT rfl rfl (by omega)) rfl ?_ | refine s_pur_g rfl (p_gtrF rfl rfl (by omega)) rfl ?_ | refine s_pur_g rfl (p_geqT rfl rfl (by omega)) rfl ?_ | refine s_pur_g rfl (p_geqF rfl rfl (by omega)) rfl ?_ | refine s_pur_g rfl (p_eqlT rfl rfl (by omega)) rfl ?_ | refine s_pur_g rfl (p_eqlF rfl rfl (by omega)) rfl ?_ | refine s_pur_g rfl (p_neqT rfl rfl (by omega)) rfl ?_ | refine s_pur_g rfl (p_neqF rfl rfl (by omega)) rfl ?_)
    exact ret1 Yba.results3 rfl ⟨rfl, Low.refl _ _⟩
  by_cases q4 : x4.length > 1000
  · repeat (first | refine c_seq ?_ | refine c_region ?_ | refine c_block ?_ | refine c_skip ?_ | refine c_exit ?_ | refine c_ret ?_ | refine n_then ?_ | refine n_block ?_ | refine x_then ?_ | refine x_block_eq ?_ | refine x_block_ne rfl ?_ | refine r_then ?_ | refine r_block ?_ | refine s_nil ?_ | refine c_true rfl ?_ | refine c_false rfl ?_ | refine s_pur (p_move rfl) rfl ?_ | refine s_pur (p_assign rfl) rfl ?_ | refine s_pur (p_nil rfl) rfl ?_ | refine s_pur (p_pick_t rfl rfl) rfl ?_ | refine s_pur (p_pick_f rfl rfl) rfl ?_ | refine s_pur (p_len rfl Yba.underlying22) rfl ?_ | refine s_pur (p_idx1 rfl rfl rfl (by omega) Yba.underlying22 Yba.sizeOf4) rfl ?_ | refine s_pur (p_len rfl Yba.underlying23) rfl ?_ | refine s_pur (p_idx1 rfl rfl rfl (by omega) Yba.underlying23 Yba.sizeOf3) rfl ?_ | refine s_pur (p_lssT rfl rfl (by omega)) rfl ?_ | refine s_pur (p_lssF rfl rfl (by omega)) rfl ?_ | refine s_pur (p_leqT rfl rfl (by omega)) rfl ?_ | refine s_pur (p_leqF rfl rfl (by omega)) rfl ?_ | refine s_pur (p_gtrT rfl rfl (by omega)) rfl ?_ | refine s_pur (p_gtrF rfl rfl (by omega)) rfl ?_ | refine s_pur (p_geqT rfl rfl (by omega)) rfl ?_ | refine s_pur (p_geqF rfl rfl (by omega)) rfl ?_ | refine s_pur (p_eqlT rfl rfl (by omega)) rfl ?_ | refine s_pur (p_eqlF rfl rfl (by omega)) rfl ?_ | refine s_pur (p_neqT rfl rfl (by omega)) rfl ?_ | refine s_pur (p_neqF rfl rfl (by omega)) rfl ?_ | refine s_skip rfl rfl rfl ?_ | refine s_skip' rfl rfl rfl ?_ | refine s_pur_g rfl (p_move rfl) rfl ?_ | refine s_pur_g rfl (p_assign rfl) rfl ?_ | refine s_pur_g rfl (p_nil rfl) rfl ?_ | refine s_pur_g rfl (p_pick_t rfl rfl) rfl ?_ | refine s_pur_g rfl (p_pick_f rfl rfl) rfl ?_ | refine s_pur_g rfl (p_len rfl Yba.underlying22) rfl ?_ | refine s_pur_g rfl (p_idx1 rfl rfl rfl (by omega) Yba.underlying22 Yba.sizeOf4) rfl ?_ | refine s_pur_g rfl (p_len rfl Yba.underlying23) rfl ?_ | refine s_pur_g rfl (p_idx1 rfl rfl rfl (by omega) Yba.underlying23 Yba.sizeOf3) rfl ?_ | refine s_pur_g rfl (p_lssT rfl rfl (by omega)) rfl ?_ | refine s_pur_g rfl (p_lssF rfl rfl (by omega)) rfl ?_ | refine s_pur_g rfl (p_leqT rfl rfl (by omega)) rfl ?_ | refine s_pur_g rfl (p_leqF rfl rfl (by omega)) rfl ?_ | refine s_pur_g rfl (p_gtrT rfl rfl (by omega)) rfl ?_ | refine s_pur_g rfl (p_gtrF rfl rfl (by omega)) rfl ?_ | refine s_pur_g rfl (p_geqT rfl rfl (by omega)) rfl ?_ | refine s_pur_g rfl (p_geqF rfl rfl (by omega)) rfl ?_ | refine s_pur_g rfl (p_eqlT rfl rfl (by omega)) rfl ?_ | refine s_pur_g rfl (p_eqlF rfl rfl (by omega)) rfl ?_ | refine s_pur_g rfl (p_neqT rfl rfl (by omega)) rfl ?_ | refine s_pur_g rfl (p_neqF rfl rfl (by omega)) rfl ?_)
    exact ret1 Yba.results3 rfl ⟨rfl, Low.refl _ _⟩
  by_cases q5 : x5.length > 1000
  · repeat (first | refine c_seq ?_ | refine c_region ?_ | refine c_block ?_ | refine c_skip ?_ | refine c_exit ?_ | refine c_ret ?_ | refine n_then ?_ | refine n_block ?_ | refine x_then ?_ | refine x_block_eq ?_ | refine x_block_ne rfl ?_ | refine r_then ?_ | refine r_block ?_ | refine s_nil ?_ | refine c_true rfl ?_ | refine c_false rfl ?_ | refine s_pur (p_move rfl) rfl ?_ | refine s_pur (p_assign rfl) rfl ?_ | refine s_pur (p_nil rfl) rfl ?_ | refine s_pur (p_pick_t rfl rfl) rfl ?_ | refine s_pur (p_pick_f rfl rfl) rfl ?_ | refine s_pur (p_len rfl Yba.underlying22) rfl ?_ | refine s_pur (p_idx1 rfl rfl rfl (by omega) Yba.underlying22 Yba.sizeOf4) rfl ?_ | refine s_pur (p_len rfl Yba.underlying23) rfl ?_ | refine s_pur (p_idx1 rfl rfl rfl (by omega) Yba.underlying23 Yba.sizeOf3) rfl ?_ | refine s_pur (p_lssT rfl rfl (by omega)) rfl ?_ | refine s_pur (p_lssF rfl rfl (by omega)) rfl ?_ | refine s_pur (p_leqT rfl rfl (by omega)) rfl ?_ | refine s_pur (p_leqF rfl rfl (by omega)) rfl ?_ | refine s_pur (p_gtrT rfl rfl (by omega)) rfl ?_ | refine s_pur (p_gtrF rfl rfl (by omega)) rfl ?_ | refine s_pur (p_geqT rfl rfl (by omega)) rfl ?_ | refine s_pur (p_geqF rfl rfl (by omega)) rfl ?_ | refine s_pur (p_eqlT rfl rfl (by omega)) rfl ?_ | refine s_pur (p_eqlF rfl rfl (by omega)) rfl ?_ | refine s_pur (p_neqT rfl rfl (by omega)) rfl ?_ | refine s_pur (p_neqF rfl rfl (by omega)) rfl ?_ | refine s_skip rfl rfl rfl ?_ | refine s_skip' rfl rfl rfl ?_ | refine s_pur_g rfl (p_move rfl) rfl ?_ | refine s_pur_g rfl (p_assign rfl) rfl ?_ | refine s_pur_g rfl (p_nil rfl) rfl ?_ | refine s_pur_g rfl (p_pick_t rfl rfl) rfl ?_ | refine s_pur_g rfl (p_pick_f rfl rfl) rfl ?_ | refine s_pur_g rfl (p_len rfl Yba.underlying22) rfl ?_ | refine s_pur_g rfl (p_idx1 rfl rfl rfl (by omega) Yba.underlying22 Yba.sizeOf4) rfl ?_ | refine s_pur_g rfl (p_len rfl Yba.underlying23) rfl ?_ | refine s_pur_g rfl (p_idx1 rfl rfl rfl (by omega) Yba.underlying23 Yba.sizeOf3) rfl ?_ | refine s_pur_g rfl (p_lssT rfl rfl (by omega)) rfl ?_ | refine s_pur_g rfl (p_lssF rfl rfl (by omega)) rfl ?_ | refine s_pur_g rfl (p_leqT rfl rfl (by omega)) rfl ?_ | refine s_pur_g rfl (p_leqF rfl rfl (by omega)) rfl ?_ | refine s_pur_g rfl (p_gtrT rfl rfl (by omega)) rfl ?_ | refine s_pur_g rfl (p_gtrF rfl rfl (by omega)) rfl ?_ | refine s_pur_g rfl (p_geqT rfl rfl (by omega)) rfl ?_ | refine s_pur_g rfl (p_geqF rfl rfl (by omega)) rfl ?_ | refine s_pur_g rfl (p_eqlT rfl rfl (by omega)) rfl ?_ | refine s_pur_g rfl (p_eqlF rfl rfl (by omega)) rfl ?_ | refine s_pur_g rfl (p_neqT rfl rfl (by omega)) rfl ?_ | refine s_pur_g rfl (p_neqF rfl rfl (by omega)) rfl ?_)
    exact ret1 Yba.results3 rfl ⟨rfl, Low.refl _ _⟩
  refine c_mid [(0, .slice a0 n c0), (1, .int .u8 k1), (2, .int .i64 p), (3, .int .u8 rot), (4, .slice a4 x4.length c4), (5, .slice a5 x5.length c5), (6, v6), (7, v7)] (fun q => h = q) ?_ ?_
  · repeat (first | refine c_seq ?_ | refine c_region ?_ | refine c_block ?_ | refine c_skip ?_ | refine c_exit ?_ | refine c_ret ?_ | refine n_then ?_ | refine n_block ?_ | refine x_then ?_ | refine x_block_eq ?_ | refine x_block_ne rfl ?_ | refine r_then ?_ | refine r_block ?_ | refine s_nil ?_ | refine c_true rfl ?_ | refine c_false rfl ?_ | refine s_pur (p_move rfl) rfl ?_ | refine s_pur (p_assign rfl) rfl ?_ | refine s_pur (p_nil rfl) rfl ?_ | refine s_pur (p_pick_t rfl rfl) rfl ?_ | refine s_pur (p_pick_f rfl rfl) rfl ?_)
    exact m_done rfl (by repeat (first | exact Sub.nil | refine Sub.cons rfl ?_))
  rintro _ rfl
  refine c_mid [(0, .slice a0 n c0), (1, .int .u8 k1), (2, .int .i64 p), (3, .int .u8 rot), (4, .slice a4 x4.length c4), (5, .slice a5 x5.length c5), (6, v6), (7, v7)] (fun q => h = q) ?_ ?_
  · repeat (first | refine c_seq ?_ | refine c_region ?_ | refine c_block ?_ | refine c_skip ?_ | refine c_exit ?_ | refine c_ret ?_ | refine n_then ?_ | refine n_block ?_ | refine x_then ?_ | refine x_block_eq ?_ | refine x_block_ne rfl ?_ | refine r_then ?_ | refine r_block ?_ | refine s_nil ?_ | refine c_true rfl ?_ | refine c_false rfl ?_ | refine s_pur (p_move rfl) rfl ?_ | refine s_pur (p_assign rfl) rfl ?_ | refine s_pur (p_nil rfl) rfl ?_ | refine s_pur (p_pick_t rfl rfl) rfl ?_ | refine s_pur (p_pick_f rfl rfl) rfl ?_ | refine s_pur (p_len rfl Yba.underlying22) rfl ?_ | refine s_pur (p_idx1 rfl rfl rfl (by omega) Yba.underlying22 Yba.sizeOf4) rfl ?_ | refine s_pur (p_len rfl Yba.underlying23) rfl ?_ | refine s_pur (p_idx1 rfl rfl rfl (by omega) Yba.underlying23 Yba.sizeOf3) rfl ?_ | refine s_pur (p_lssT rfl rfl (by omega)) rfl ?_ | refine s_pur (p_lssF rfl rfl (by omega)) rfl ?_ | refine s_pur (p_leqT rfl rfl (by omega)) rfl ?_ | refine s_pur (p_leqF rfl rfl (by omega)) rfl ?_ | refine s_pur (p_gtrT rfl rfl (by omega)) rfl ?_ | refine s_pur (p_gtrF rfl rfl (by omega)) rfl ?_ | refine s_pur (p_geqT rfl rfl (by omega)) rfl ?_ | refine s_pur (p_geqF rfl rfl (by omega)) rfl ?_ | refine s_pur (p_eqlT rfl rfl (by omega)) rfl ?_ | refine s_pur (p_eqlF rfl rfl (by omega)) rfl ?_ | refine s_pur (p_neqT rfl rfl (by omega)) rfl ?_ | refine s_pur (p_neqF rfl rfl (by omega)) rfl ?_ | refine s_skip rfl rfl rfl ?_ | refine s_skip' rfl rfl rfl ?_ | refine s_pur_g rfl (p_move rfl) rfl ?_ | refine s_pur_g rfl (p_assign rfl) rfl ?_ | refine s_pur_g rfl (p_nil rfl) rfl ?_ | refine s_pur_g rfl (p_pick_t rfl rfl) rfl ?_ | refine s_pur_g rfl (p_pick_f rfl rfl) rfl ?_ | refine s_pur_g rfl (p_len rfl Yba.underlying22) rfl ?_ | refine s_pur_g rfl (p_idx1 rfl rfl rfl (by omega) Yba.underlying22 Yba.sizeOf4) rfl ?_ | refine s_pur_g rfl (p_len rfl Yba.underlying23) rfl ?_ | refine s_pur_g rfl (p_idx1 rfl rfl rfl (by omega) Yba.underlying23 Yba.sizeOf3) rfl ?_ | refine s_pur_g rfl (p_lssT rfl rfl (by omega)) rfl ?_ | refine s_pur_g rfl (p_lssF rfl rfl (by omega)) rfl ?_ | refine s_pur_g rfl (p_leqT rfl rfl (by omega)) rfl ?_ | refine s_pur_g rfl (p_leqF rfl rfl (by omega)) rfl ?_ | refine s_pur_g rfl (p_gtrT rfl rfl (by omega)) rfl ?_ | refine s_pur_g rfl (p_gtrF rfl rfl (by omega)) rfl ?_ | refine s_pur_g rfl (p_geqT rfl rfl (by omega)) rfl ?_ | refine s_pur_g rfl (p_geqF rfl rfl (by omega)) rfl ?_ | refine s_pur_g rfl (p_eqlT rfl rfl (by omega)) rfl ?_ | refine s_pur_g rfl (p_eqlF rfl rfl (by omega)) rfl ?_ | refine s_pur_g rfl (p_neqT rfl rfl (by omega)) rfl ?_ | refine s_pur_g rfl (p_neqF rfl rfl (by omega)) rfl ?_)
    exact m_done rfl (by repeat (first | exact Sub.nil | refine Sub.cons rfl ?_))
  rintro _ rfl
  refine c_mid [(0, .slice a0 n c0), (1, .int .u8 k1), (2, .int .i64 p), (3, .int .u8 rot), (4, .slice a4 x4.length c4), (5, .slice a5 x5.length c5), (6, v6), (7, v7), (17, .int .i64 n)] (fun q => h = q) ?_ ?_
  · repeat (first | refine c_seq ?_ | refine c_region ?_ | refine c_block ?_ | refine c_skip ?_ | refine c_exit ?_ | refine c_ret ?_ | refine n_then ?_ | refine n_block ?_ | refine x_then ?_ | refine x_block_eq ?_ | refine x_block_ne rfl ?_ | refine r_then ?_ | refine r_block ?_ | refine s_nil ?_ | refine c_true rfl ?_ | refine c_false rfl ?_ | refine s_pur (p_move rfl) rfl ?_ | refine s_pur (p_assign rfl) rfl ?_ | refine s_pur (p_nil rfl) rfl ?_ | refine s_pur (p_pick_t rfl rfl) rfl ?_ | refine s_pur (p_pick_f rfl rfl) rfl ?_ | refine s_pur (p_len rfl Yba.underlying22) rfl ?_ | refine s_pur (p_idx1 rfl rfl rfl (by omega) Yba.underlying22 Yba.sizeOf4) rfl ?_)
    exact m_done rfl (by repeat (first | exact Sub.nil | refine Sub.cons rfl ?_))
  rintro _ rfl
  obtain ⟨i33, hi33, hz33, hs33, hb33⟩ := info33
  refine c_mid [(0, .slice a0 n c0), (1, .int .u8 k1), (2, .int .i64 p), (3, .int .u8 rot), (4, .slice a4 x4.length c4), (5, .slice a5 x5.length c5), (6, v6), (7, v7), (17, .int .i64 n), (18, .slice (some ⟨h.size, 0, none⟩) n n)] (fun q => Low h.size h q ∧ q.size = h.size + 1 ∧ WkTo q h.size n 0 pr) ?_ ?_
  · repeat (first | refine c_seq ?_ | refine c_region ?_ | refine c_block ?_ | refine c_skip ?_ | refine c_exit ?_ | refine c_ret ?_ | refine n_then ?_ | refine n_block ?_ | refine x_then ?_ | refine x_block_eq ?_ | refine x_block_ne rfl ?_ | refine r_then ?_ | refine r_block ?_ | refine s_nil ?_ | refine c_true rfl ?_ | refine c_false rfl ?_ | refine s_pur (p_move rfl) rfl ?_ | refine s_pur (p_assign rfl) rfl ?_ | refine s_pur (p_nil rfl) rfl ?_ | refine s_pur (p_pick_t rfl rfl) rfl ?_ | refine s_pur (p_pick_f rfl rfl) rfl ?_)
    refine s_eff (e_make rfl rfl Yba.underlying26 hi33 hz33 (Nat.le_refl _) (by rw [hb33]; omega) (by omega)) rfl ?_
    rintro _ h1 ⟨rfl, hn1⟩
    repeat (first | refine c_seq ?_ | refine c_region ?_ | refine c_block ?_ | refine c_skip ?_ | refine c_exit ?_ | refine c_ret ?_ | refine n_then ?_ | refine n_block ?_ | refine x_then ?_ | refine x_block_eq ?_ | refine x_block_ne rfl ?_ | refine r_then ?_ | refine r_block ?_ | refine s_nil ?_ | refine c_true rfl ?_ | refine c_false rfl ?_ | refine s_pur (p_move rfl) rfl ?_ | refine s_pur (p_assign rfl) rfl ?_ | refine s_pur (p_nil rfl) rfl ?_ | refine s_pur (p_pick_t rfl rfl) rfl ?_ | refine s_pur (p_pick_f rfl rfl) rfl ?_)
    refine m_done ⟨(Low.refl _ _).new hn1 (Nat.le_refl _), hn1.size, _, hn1.at_, by simp [madeCells, hs33], fun j hj => by omega⟩ (by repeat (first | exact Sub.nil | refine Sub.cons rfl ?_))
  rintro h1 ⟨lo1, sz1, wk1⟩
  refine c_mid [(0, .slice a0 n c0), (1, .int .u8 k1), (2, .int .i64 p), (3, .int .u8 rot), (4, .slice a4 x4.length c4), (5, .slice a5 x5.length c5), (6, v6), (7, v7), (17, .int .i64 n), (18, .slice (some ⟨h.size, 0, none⟩) n n), (19, .int .i64 0)] (fun q => h1 = q) ?_ ?_
  · repeat (first | refine c_seq ?_ | refine c_region ?_ | refine c_block ?_ | refine c_skip ?_ | refine c_exit ?_ | refine c_ret ?_ | refine n_then ?_ | refine n_block ?_ | refine x_then ?_ | refine x_block_eq ?_ | refine x_block_ne rfl ?_ | refine r_then ?_ | refine r_block ?_ | refine s_nil ?_ | refine c_true rfl ?_ | refine c_false rfl ?_ | refine s_pur (p_move rfl) rfl ?_ | refine s_pur (p_assign rfl) rfl ?_ | refine s_pur (p_nil rfl) rfl ?_ | refine s_pur (p_pick_t rfl rfl) rfl ?_ | refine s_pur (p_pick_f rfl rfl) rfl ?_)
    exact m_done rfl (by repeat (first | exact Sub.nil | refine Sub.cons rfl ?_))
  rintro _ rfl
  refine c_mid [(0, .slice a0 n c0), (1, .int .u8 k1), (2, .int .i64 p), (3, .int .u8 rot), (4, .slice a4 x4.length c4), (5, .slice a5 x5.length c5), (6, v6), (7, v7), (17, .int .i64 n), (18, .slice (some ⟨h.size, 0, none⟩) n n), (19, .int .i64 0), (20, .slice (some ⟨h.size + 1, 0, none⟩) 0 0)]
    (fun q => Low h.size h q ∧ WkTo q h.size n 0 pr ∧ Owns q (h.size + 1) 3 1 (.slice (some ⟨h.size + 1, 0, none⟩) 0 0) 0 []) ?_ ?_
  · repeat (first | refine c_seq ?_ | refine c_region ?_ | refine c_block ?_ | refine c_skip ?_ | refine c_exit ?_ | refine c_ret ?_ | refine n_then ?_ | refine n_block ?_ | refine x_then ?_ | refine x_block_eq ?_ | refine x_block_ne rfl ?_ | refine r_then ?_ | refine r_block ?_ | refine s_nil ?_ | refine c_true rfl ?_ | refine c_false rfl ?_ | refine s_pur (p_move rfl) rfl ?_ | refine s_pur (p_assign rfl) rfl ?_ | refine s_pur (p_nil rfl) rfl ?_ | refine s_pur (p_pick_t rfl rfl) rfl ?_ | refine s_pur (p_pick_f rfl rfl) rfl ?_)
    refine s_eff (e_slice0 Yba.underlying23 Yba.sizeOf3) rfl ?_
    rintro _ h2 ⟨rfl, hn2⟩
    repeat (first | refine c_seq ?_ | refine c_region ?_ | refine c_block ?_ | refine c_skip ?_ | refine c_exit ?_ | refine c_ret ?_ | refine n_then ?_ | refine n_block ?_ | refine x_then ?_ | refine x_block_eq ?_ | refine x_block_ne rfl ?_ | refine r_then ?_ | refine r_block ?_ | refine s_nil ?_ | refine c_true rfl ?_ | refine c_false rfl ?_ | refine s_pur (p_move rfl) rfl ?_ | refine s_pur (p_assign rfl) rfl ?_ | refine s_pur (p_nil rfl) rfl ?_ | refine s_pur (p_pick_t rfl rfl) rfl ?_ | refine s_pur (p_pick_f rfl rfl) rfl ?_)
    rw [sz1]
    refine m_done ⟨lo1.new hn2 (by omega), ?_, ?_⟩ (by repeat (first | exact Sub.nil | refine Sub.cons rfl ?_))
    · obtain ⟨c, e1, e2⟩ := wk1
      exact ⟨c, by rw [hn2.other _ (by omega)]; exact e1, e2⟩
    · have := Owns.empty hn2 (base := h.size + 1) (by omega)
      rw [sz1] at this; exact this
  rintro h2 ⟨lo2, wk2, ow2⟩
  clear lo1 sz1 wk1
  have cell0 : ∀ q, Low h.size h q → ∀ j, j < n → ∃ b o, a0 = some ⟨b, o, none⟩ ∧ b < h.size ∧ hc q b (o + j) = some (.bool (pr j)) := by
    intro q lo j hj
    obtain ⟨b, o, rfl, hcell⟩ := case0.resolve_left (by omega)
    exact ⟨b, o, rfl, lt_of_hc (hcell j hj), low_hc lo (hcell j hj)⟩
  clear case0
  -- the walks and the indices of those present
  have goon : ∀ u q, Low h.size h q → WkTo q h.size n n pr → Owns q (h.size + 1) 3 1 u (indOf pr n).length (ints (nats (indOf pr n))) →
      V.Fin 326 w0 (CW Yba.prog (V.sub (Yba.f3.body.getD .skip) [1, 1, 1, 1, 1, 1, 1]) (bodyPost Yba.prog Yba.f3 (PostR w0 fun u h' => u = .bool true ∧ Low h.size h h')))
        [(0, .slice a0 n c0), (1, .int .u8 k1), (2, .int .i64 p), (3, .int .u8 rot), (4, .slice a4 x4.length c4), (5, .slice a5 x5.length c5), (6, v6), (7, v7), (17, .int .i64 n), (18, .slice (some ⟨h.size, 0, none⟩) n n), (19, .int .i64 (indOf pr n).length), (20, u)] q := by
    intro u q lo wk ow
    obtain ⟨i28, hi28, hz28, hs28, hb28⟩ := info28
    refine c_mid [(0, .slice a0 n c0), (1, .int .u8 k1), (2, .int .i64 p), (3, .int .u8 rot), (4, .slice a4 x4.length c4), (5, .slice a5 x5.length c5), (6, v6), (7, v7), (17, .int .i64 n), (18, .slice (some ⟨h.size, 0, none⟩) n n), (19, .int .i64 (indOf pr n).length), (20, u), (22, .slice (some ⟨q.size, 0, none⟩) n n)]
      (fun q1 => Low q.size q q1 ∧ q1.size = q.size + 1 ∧ FlTo q1 q.size n 0 (keyI k6)) ?_ ?_
    · repeat (first | refine c_seq ?_ | refine c_region ?_ | refine c_block ?_ | refine c_skip ?_ | refine c_exit ?_ | refine c_ret ?_ | refine n_then ?_ | refine n_block ?_ | refine x_then ?_ | refine x_block_eq ?_ | refine x_block_ne rfl ?_ | refine r_then ?_ | refine r_block ?_ | refine s_nil ?_ | refine c_true rfl ?_ | refine c_false rfl ?_ | refine s_pur (p_move rfl) rfl ?_ | refine s_pur (p_assign rfl) rfl ?_ | refine s_pur (p_nil rfl) rfl ?_ | refine s_pur (p_pick_t rfl rfl) rfl ?_ | refine s_pur (p_pick_f rfl rfl) rfl ?_)
      refine s_eff (e_make rfl rfl Yba.underlying34 hi28 hz28 (Nat.le_refl _) (by rw [hb28]; omega) (by omega)) rfl ?_
      rintro _ h1 ⟨rfl, hn1⟩
      repeat (first | refine c_seq ?_ | refine c_region ?_ | refine c_block ?_ | refine c_skip ?_ | refine c_exit ?_ | refine c_ret ?_ | refine n_then ?_ | refine n_block ?_ | refine x_then ?_ | refine x_block_eq ?_ | refine x_block_ne rfl ?_ | refine r_then ?_ | refine r_block ?_ | refine s_nil ?_ | refine c_true rfl ?_ | refine c_false rfl ?_ | refine s_pur (p_move rfl) rfl ?_ | refine s_pur (p_assign rfl) rfl ?_ | refine s_pur (p_nil rfl) rfl ?_ | refine s_pur (p_pick_t rfl rfl) rfl ?_ | refine s_pur (p_pick_f rfl rfl) rfl ?_)
      exact m_done ⟨(Low.refl _ _).new hn1 (Nat.le_refl _), hn1.size, _, hn1.at_, by simp [madeCells, hs28], fun j hj => by omega⟩ (by repeat (first | exact Sub.nil | refine Sub.cons rfl ?_))
    rintro q1 ⟨lq1, sq1, f1⟩
    refine c_mid [(0, .slice a0 n c0), (1, .int .u8 k1), (2, .int .i64 p), (3, .int .u8 rot), (4, .slice a4 x4.length c4), (5, .slice a5 x5.length c5), (6, v6), (7, v7), (17, .int .i64 n), (18, .slice (some ⟨h.size, 0, none⟩) n n), (19, .int .i64 (indOf pr n).length), (20, u), (22, .slice (some ⟨q.size, 0, none⟩) n n), (23, .slice (some ⟨q.size + 1, 0, none⟩) n n)]
      (fun q2 => Low q.size q q2 ∧ FlTo q2 q.size n 0 (keyI k6) ∧ FlTo q2 (q.size + 1) n 0 (keyI k7)) ?_ ?_
    · repeat (first | refine c_seq ?_ | refine c_region ?_ | refine c_block ?_ | refine c_skip ?_ | refine c_exit ?_ | refine c_ret ?_ | refine n_then ?_ | refine n_block ?_ | refine x_then ?_ | refine x_block_eq ?_ | refine x_block_ne rfl ?_ | refine r_then ?_ | refine r_block ?_ | refine s_nil ?_ | refine c_true rfl ?_ | refine c_false rfl ?_ | refine s_pur (p_move rfl) rfl ?_ | refine s_pur (p_assign rfl) rfl ?_ | refine s_pur (p_nil rfl) rfl ?_ | refine s_pur (p_pick_t rfl rfl) rfl ?_ | refine s_pur (p_pick_f rfl rfl) rfl ?_)
      refine s_eff (e_make rfl rfl Yba.underlying34 hi28 hz28 (Nat.le_refl _) (by rw [hb28]; omega) (by omega)) rfl ?_
      rintro _ h1 ⟨rfl, hn1⟩
      repeat (first | refine c_seq ?_ | refine c_region ?_ | refine c_block ?_ | refine c_skip ?_ | refine c_exit ?_ | refine c_ret ?_ | refine n_then ?_ | refine n_block ?_ | refine x_then ?_ | refine x_block_eq ?_ | refine x_block_ne rfl ?_ | refine r_then ?_ | refine r_block ?_ | refine s_nil ?_ | refine c_true rfl ?_ | refine c_false rfl ?_ | refine s_pur (p_move rfl) rfl ?_ | refine s_pur (p_assign rfl) rfl ?_ | refine s_pur (p_nil rfl) rfl ?_ | refine s_pur (p_pick_t rfl rfl) rfl ?_ | refine s_pur (p_pick_f rfl rfl) rfl ?_)
      rw [sq1]
      refine m_done ⟨lq1.new hn1 (by omega), f1.keep (hn1.other _ (by omega)), _, sq1 ▸ hn1.at_, by simp [madeCells, hs28], fun j hj => by omega⟩ (by repeat (first | exact Sub.nil | refine Sub.cons rfl ?_))
    rintro q2 ⟨lq2, fx2, fy2⟩
    clear f1 sq1 lq1
    refine c_mid [(0, .slice a0 n c0), (1, .int .u8 k1), (2, .int .i64 p), (3, .int .u8 rot), (4, .slice a4 x4.length c4), (5, .slice a5 x5.length c5), (17, .int .i64 n), (18, .slice (some ⟨h.size, 0, none⟩) n n), (19, .int .i64 (indOf pr n).length), (20, u), (22, .slice (some ⟨q.size, 0, none⟩) n n), (23, .slice (some ⟨q.size + 1, 0, none⟩) n n)]
      (fun q2 => Low q.size q q2 ∧ FlTo q2 q.size n n (keyI k6) ∧ FlTo q2 (q.size + 1) n n (keyI k7)) ?_ ?_
    · repeat (first | refine c_seq ?_ | refine c_region ?_ | refine c_block ?_ | refine c_skip ?_ | refine c_exit ?_ | refine c_ret ?_ | refine n_then ?_ | refine n_block ?_ | refine x_then ?_ | refine x_block_eq ?_ | refine x_block_ne rfl ?_ | refine r_then ?_ | refine r_block ?_ | refine s_nil ?_ | refine c_true rfl ?_ | refine c_false rfl ?_ | refine s_pur (p_move rfl) rfl ?_ | refine s_pur (p_assign rfl) rfl ?_ | refine s_pur (p_nil rfl) rfl ?_ | refine s_pur (p_pick_t rfl rfl) rfl ?_ | refine s_pur (p_pick_f rfl rfl) rfl ?_)
      refine c_loop (fun x : Nat => [(0, .slice a0 n c0), (1, .int .u8 k1), (2, .int .i64 p), (3, .int .u8 rot), (4, .slice a4 x4.length c4), (5, .slice a5 x5.length c5), (6, v6), (7, v7), (17, .int .i64 n), (18, .slice (some ⟨h.size, 0, none⟩) n n), (19, .int .i64 (indOf pr n).length), (20, u), (22, .slice (some ⟨q.size, 0, none⟩) n n), (23, .slice (some ⟨q.size + 1, 0, none⟩) n n), (24, .int .i64 x)])
        (fun x q2 => x ≤ n ∧ Low q.size q q2 ∧ FlTo q2 q.size n x (keyI k6) ∧ FlTo q2 (q.size + 1) n x (keyI k7)) (fun x => n - x) 0 ⟨by omega, lq2, fx2, fy2⟩ (by repeat (first | exact Sub.nil | refine Sub.cons rfl ?_)) ?_
      rintro k r ⟨hkn, lr, fxr, fyr⟩
      by_cases hlt : k < n
      · have lhr : Low h.size h r := lo.then lr
        obtain ⟨cx, ex1, ex2, ex3⟩ := fxr
        repeat (first | refine c_seq ?_ | refine c_region ?_ | refine c_block ?_ | refine c_skip ?_ | refine c_exit ?_ | refine c_ret ?_ | refine n_then ?_ | refine n_block ?_ | refine x_then ?_ | refine x_block_eq ?_ | refine x_block_ne rfl ?_ | refine r_then ?_ | refine r_block ?_ | refine s_nil ?_ | refine c_true rfl ?_ | refine c_false rfl ?_ | refine s_pur (p_move rfl) rfl ?_ | refine s_pur (p_assign rfl) rfl ?_ | refine s_pur (p_nil rfl) rfl ?_ | refine s_pur (p_pick_t rfl rfl) rfl ?_ | refine s_pur (p_pick_f rfl rfl) rfl ?_ | refine s_pur (p_lssT rfl rfl (by omega)) rfl ?_ | refine s_pur (p_lssF rfl rfl (by omega)) rfl ?_ | refine s_pur (p_leqT rfl rfl (by omega)) rfl ?_ | refine s_pur (p_leqF rfl rfl (by omega)) rfl ?_ | refine s_pur (p_gtrT rfl rfl (by omega)) rfl ?_ | refine s_pur (p_gtrF rfl rfl (by omega)) rfl ?_ | refine s_pur (p_geqT rfl rfl (by omega)) rfl ?_ | refine s_pur (p_geqF rfl rfl (by omega)) rfl ?_ | refine s_pur (p_eqlT rfl rfl (by omega)) rfl ?_ | refine s_pur (p_eqlF rfl rfl (by omega)) rfl ?_ | refine s_pur (p_neqT rfl rfl (by omega)) rfl ?_ | refine s_pur (p_neqF rfl rfl (by omega)) rfl ?_)
        refine s_call Yba.call5 rfl rfl (key_ok r v6 k6 k (h6.low lhr) b6 (by omega) l6) ?_
        rintro _ _ ⟨rfl, x, rfl, ix⟩
        repeat (first | refine c_seq ?_ | refine c_region ?_ | refine c_block ?_ | refine c_skip ?_ | refine c_exit ?_ | refine c_ret ?_ | refine n_then ?_ | refine n_block ?_ | refine x_then ?_ | refine x_block_eq ?_ | refine x_block_ne rfl ?_ | refine r_then ?_ | refine r_block ?_ | refine s_nil ?_ | refine c_true rfl ?_ | refine c_false rfl ?_ | refine s_pur (p_move rfl) rfl ?_ | refine s_pur (p_assign rfl) rfl ?_ | refine s_pur (p_nil rfl) rfl ?_ | refine s_pur (p_pick_t rfl rfl) rfl ?_ | refine s_pur (p_pick_f rfl rfl) rfl ?_ | refine s_pur (p_len rfl Yba.underlying34) rfl ?_ | refine s_pur (p_idx1 rfl rfl rfl (by omega) Yba.underlying34 Yba.sizeOf28) rfl ?_)
        refine s_eff0 (e_store rfl rfl rfl Yba.sizeOf28 ex1 (by omega)) ?_
        rintro _ r1 hu1
        obtain ⟨cy, ey1, ey2, ey3⟩ := fyr.keep (hu1.other (q.size + 1) (by omega))
        have lr1 : Low q.size q r1 := lr.upd hu1 (Nat.le_refl _)
        repeat (first | refine c_seq ?_ | refine c_region ?_ | refine c_block ?_ | refine c_skip ?_ | refine c_exit ?_ | refine c_ret ?_ | refine n_then ?_ | refine n_block ?_ | refine x_then ?_ | refine x_block_eq ?_ | refine x_block_ne rfl ?_ | refine r_then ?_ | refine r_block ?_ | refine s_nil ?_ | refine c_true rfl ?_ | refine c_false rfl ?_ | refine s_pur (p_move rfl) rfl ?_ | refine s_pur (p_assign rfl) rfl ?_ | refine s_pur (p_nil rfl) rfl ?_ | refine s_pur (p_pick_t rfl rfl) rfl ?_ | refine s_pur (p_pick_f rfl rfl) rfl ?_)
        refine s_call Yba.call5 rfl rfl (key_ok r1 v7 k7 k (h7.low (lo.then lr1)) b7 (by omega) l7) ?_
        rintro _ _ ⟨rfl, y, rfl, iy⟩
        repeat (first | refine c_seq ?_ | refine c_region ?_ | refine c_block ?_ | refine c_skip ?_ | refine c_exit ?_ | refine c_ret ?_ | refine n_then ?_ | refine n_block ?_ | refine x_then ?_ | refine x_block_eq ?_ | refine x_block_ne rfl ?_ | refine r_then ?_ | refine r_block ?_ | refine s_nil ?_ | refine c_true rfl ?_ | refine c_false rfl ?_ | refine s_pur (p_move rfl) rfl ?_ | refine s_pur (p_assign rfl) rfl ?_ | refine s_pur (p_nil rfl) rfl ?_ | refine s_pur (p_pick_t rfl rfl) rfl ?_ | refine s_pur (p_pick_f rfl rfl) rfl ?_ | refine s_pur (p_len rfl Yba.underlying34) rfl ?_ | refine s_pur (p_idx1 rfl rfl rfl (by omega) Yba.underlying34 Yba.sizeOf28) rfl ?_)
        refine s_eff0 (e_store rfl rfl rfl Yba.sizeOf28 ey1 (by omega)) ?_
        rintro _ r2 hu2
        repeat (first | refine c_seq ?_ | refine c_region ?_ | refine c_block ?_ | refine c_skip ?_ | refine c_exit ?_ | refine c_ret ?_ | refine n_then ?_ | refine n_block ?_ | refine x_then ?_ | refine x_block_eq ?_ | refine x_block_ne rfl ?_ | refine r_then ?_ | refine r_block ?_ | refine s_nil ?_ | refine c_true rfl ?_ | refine c_false rfl ?_ | refine s_pur (p_move rfl) rfl ?_ | refine s_pur (p_assign rfl) rfl ?_ | refine s_pur (p_nil rfl) rfl ?_ | refine s_pur (p_pick_t rfl rfl) rfl ?_ | refine s_pur (p_pick_f rfl rfl) rfl ?_ | refine s_pur (p_add rfl rfl rfl (by omega) (by omega)) rfl ?_)
        refine c_next (k + 1) ⟨hlt, lr1.upd hu2 (by omega), ⟨_, (hu2.other q.size (by omega)).trans hu1.at_, by simpa using ex2, ?_⟩, ⟨_, hu2.at_, by simpa using ey2, ?_⟩⟩ (by repeat (first | exact Sub.nil | refine Sub.cons rfl ?_)) (by omega)
        · intro j hj
          rw [Array.getElem?_setIfInBounds]
          by_cases hjk : j = k
          · subst hjk
            exact ⟨x, by simp; omega, ix⟩
          · rw [if_neg (by omega)]
            exact ex3 j (by omega)
        · intro j hj
          rw [Array.getElem?_setIfInBounds]
          by_cases hjk : j = k
          · subst hjk
            exact ⟨y, by simp; omega, iy⟩
          · rw [if_neg (by omega)]
            exact ey3 j (by omega)
      · have : k = n := by omega
        subst this
        repeat (first | refine c_seq ?_ | refine c_region ?_ | refine c_block ?_ | refine c_skip ?_ | refine c_exit ?_ | refine c_ret ?_ | refine n_then ?_ | refine n_block ?_ | refine x_then ?_ | refine x_block_eq ?_ | refine x_block_ne rfl ?_ | refine r_then ?_ | refine r_block ?_ | refine s_nil ?_ | refine c_true rfl ?_ | refine c_false rfl ?_ | refine s_pur (p_move rfl) rfl ?_ | refine s_pur (p_assign rfl) rfl ?_ | refine s_pur (p_nil rfl) rfl ?_ | refine s_pur (p_pick_t rfl rfl) rfl ?_ | refine s_pur (p_pick_f rfl rfl) rfl ?_ | refine s_pur (p_lssT rfl rfl (by omega)) rfl ?_ | refine s_pur (p_lssF rfl rfl (by omega)) rfl ?_ | refine s_pur (p_leqT rfl rfl (by omega)) rfl ?_ | refine s_pur (p_leqF rfl rfl (by omega)) rfl ?_ | refine s_pur (p_gtrT rfl rfl (by omega)) rfl ?_ | refine s_pur (p_gtrF rfl rfl (by omega)) rfl ?_ | refine s_pur (p_geqT rfl rfl (by omega)) rfl ?_ | refine s_pur (p_geqF rfl rfl (by omega)) rfl ?_ | refine s_pur (p_eqlT rfl rfl (by omega)) rfl ?_ | refine s_pur (p_eqlF rfl rfl (by omega)) rfl ?_ | refine s_pur (p_neqT rfl rfl (by omega)) rfl ?_ | refine s_pur (p_neqF rfl rfl (by omega)) rfl ?_)
        exact m_done ⟨lr, fxr, fyr⟩ (by repeat (first | exact Sub.nil | refine Sub.cons rfl ?_))
    rintro q3 ⟨lq3, fx3, fy3⟩
    obtain ⟨cw, ew1, ew2, ew3⟩ := wk
    have ew := lt_of_get ew1
    have sx : q.size < q3.size := lt_of_get (fx3.choose_spec.1)
    have sy : q.size + 1 < q3.size := lt_of_get (fy3.choose_spec.1)
    have lh3 : Low h.size h q3 := lo.then lq3
    refine partB p _ k1 rot _ _ x4 x5 ⟨lh3, fun i hi => ?_, h0.low lh3, ow.slI.low lq3, fx3.slF, fy3.slF, fun x y hx hy e => keyI_inj k6 x y (by omega) (by omega) e, fun x y hx hy e => keyI_inj k7 x y (by omega) (by omega) e, by omega, by omega, by omega, by omega⟩ (h4.low lh3) (h5.low lh3) (by omega) (by omega) hk hrot (fun h' lo' => ⟨rfl, lo'⟩)
    refine low_hc lq3 ?_
    rw [hc_of ew1, Nat.zero_add]
    exact ew3 i hi
  refine c_seq ?_
  repeat (first | refine c_seq ?_ | refine c_region ?_ | refine c_block ?_ | refine c_skip ?_ | refine c_exit ?_ | refine c_ret ?_ | refine n_then ?_ | refine n_block ?_ | refine x_then ?_ | refine x_block_eq ?_ | refine x_block_ne rfl ?_ | refine r_then ?_ | refine r_block ?_ | refine s_nil ?_ | refine c_true rfl ?_ | refine c_false rfl ?_ | refine s_pur (p_move rfl) rfl ?_ | refine s_pur (p_assign rfl) rfl ?_ | refine s_pur (p_nil rfl) rfl ?_ | refine s_pur (p_pick_t rfl rfl) rfl ?_ | refine s_pur (p_pick_f rfl rfl) rfl ?_)
  refine c_loop (fun x : Nat × Value => [(0, .slice a0 n c0), (1, .int .u8 k1), (2, .int .i64 p), (3, .int .u8 rot), (4, .slice a4 x4.length c4), (5, .slice a5 x5.length c5), (6, v6), (7, v7), (17, .int .i64 n), (18, .slice (some ⟨h.size, 0, none⟩) n n), (19, .int .i64 (indOf pr x.1).length), (20, x.2), (21, .int .i64 x.1)])
    (fun x q => x.1 ≤ n ∧ Low h.size h q ∧ WkTo q h.size n x.1 pr ∧ Owns q (h.size + 1) 3 1 x.2 (indOf pr x.1).length (ints (nats (indOf pr x.1)))) (fun x => n - x.1) (0, .slice (some ⟨h.size + 1, 0, none⟩) 0 0) ⟨by omega, lo2, wk2, ow2⟩ (by repeat (first | exact Sub.nil | refine Sub.cons rfl ?_)) ?_
  rintro ⟨k, u⟩ q ⟨hkn, lo, wk, ow⟩
  simp only at hkn wk ow
  refine cut [(0, .slice a0 n c0), (1, .int .u8 k1), (2, .int .i64 p), (3, .int .u8 rot), (4, .slice a4 x4.length c4), (5, .slice a5 x5.length c5), (6, v6), (7, v7), (17, .int .i64 n), (18, .slice (some ⟨h.size, 0, none⟩) n n), (19, .int .i64 (indOf pr k).length), (20, u), (21, .int .i64 k)] Sub.refl ?_
  have ile := indOf_length_le pr k
  by_cases hlt : k < n
  · obtain ⟨b, o, rfl, hb, e0⟩ := cell0 q lo k hlt
    obtain ⟨c, ew1, ew2, ew3⟩ := wk
    have hsucc := indOf_succ pr k
    repeat (first | refine c_seq ?_ | refine c_region ?_ | refine c_block ?_ | refine c_skip ?_ | refine c_exit ?_ | refine c_ret ?_ | refine n_then ?_ | refine n_block ?_ | refine x_then ?_ | refine x_block_eq ?_ | refine x_block_ne rfl ?_ | refine r_then ?_ | refine r_block ?_ | refine s_nil ?_ | refine c_true rfl ?_ | refine c_false rfl ?_ | refine s_pur (p_move rfl) rfl ?_ | refine s_pur (p_assign rfl) rfl ?_ | refine s_pur (p_nil rfl) rfl ?_ | refine s_pur (p_pick_t rfl rfl) rfl ?_ | refine s_pur (p_pick_f rfl rfl) rfl ?_ | refine s_pur (p_len rfl Yba.underlying22) rfl ?_ | refine s_pur (p_idx1 rfl rfl rfl (by omega) Yba.underlying22 Yba.sizeOf4) rfl ?_ | refine s_pur (p_len rfl Yba.underlying26) rfl ?_ | refine s_pur (p_idx rfl rfl rfl (by omega) Yba.underlying26 Yba.sizeOf33) rfl ?_ | refine s_pur (p_load rfl Yba.isAgg4 (by assumption)) rfl ?_ | refine s_pur (p_fld (off := 3) rfl Yba.underlying33 rfl Yba.sizeOf4 rfl) rfl ?_ | refine s_pur (p_lssT rfl rfl (by omega)) rfl ?_ | refine s_pur (p_lssF rfl rfl (by omega)) rfl ?_ | refine s_pur (p_leqT rfl rfl (by omega)) rfl ?_ | refine s_pur (p_leqF rfl rfl (by omega)) rfl ?_ | refine s_pur (p_gtrT rfl rfl (by omega)) rfl ?_ | refine s_pur (p_gtrF rfl rfl (by omega)) rfl ?_ | refine s_pur (p_geqT rfl rfl (by omega)) rfl ?_ | refine s_pur (p_geqF rfl rfl (by omega)) rfl ?_ | refine s_pur (p_eqlT rfl rfl (by omega)) rfl ?_ | refine s_pur (p_eqlF rfl rfl (by omega)) rfl ?_ | refine s_pur (p_neqT rfl rfl (by omega)) rfl ?_ | refine s_pur (p_neqF rfl rfl (by omega)) rfl ?_)
    refine s_eff0 (e_store rfl rfl rfl Yba.sizeOf4 ew1 (by omega)) ?_
    rintro _ q1 hu1
    have lo1 : Low h.size h q1 := lo.upd hu1 (Nat.le_refl _)
    have e1 : hc q1 b (o + k) = some (.bool (pr k)) := by rw [hc_congr (hu1.other b (by omega))]; exact e0
    have ow1 : Owns q1 (h.size + 1) 3 1 u (indOf pr k).length (ints (nats (indOf pr k))) := ow.keep fun g hg _ _ => hu1.other g (by omega)
    have wk1 : WkTo q1 h.size n (k + 1) pr := by
      refine ⟨_, hu1.at_, by simpa using ew2, fun j hj => ?_⟩
      rw [Array.getElem?_setIfInBounds]
      by_cases hjk : j = k
      · subst hjk
        simp; omega
      · rw [if_neg (by omega)]
        exact ew3 j (by omega)
    by_cases hp : pr k = true
    · rw [hp] at e1
      rw [hp, if_pos rfl] at hsucc
      repeat (first | refine c_seq ?_ | refine c_region ?_ | refine c_block ?_ | refine c_skip ?_ | refine c_exit ?_ | refine c_ret ?_ | refine n_then ?_ | refine n_block ?_ | refine x_then ?_ | refine x_block_eq ?_ | refine x_block_ne rfl ?_ | refine r_then ?_ | refine r_block ?_ | refine s_nil ?_ | refine c_true rfl ?_ | refine c_false rfl ?_ | refine s_pur (p_move rfl) rfl ?_ | refine s_pur (p_assign rfl) rfl ?_ | refine s_pur (p_nil rfl) rfl ?_ | refine s_pur (p_pick_t rfl rfl) rfl ?_ | refine s_pur (p_pick_f rfl rfl) rfl ?_ | refine s_pur (p_len rfl Yba.underlying22) rfl ?_ | refine s_pur (p_idx1 rfl rfl rfl (by omega) Yba.underlying22 Yba.sizeOf4) rfl ?_ | refine s_pur (p_load rfl Yba.isAgg4 (by assumption)) rfl ?_ | refine s_pur (p_lssT rfl rfl (by omega)) rfl ?_ | refine s_pur (p_lssF rfl rfl (by omega)) rfl ?_ | refine s_pur (p_leqT rfl rfl (by omega)) rfl ?_ | refine s_pur (p_leqF rfl rfl (by omega)) rfl ?_ | refine s_pur (p_gtrT rfl rfl (by omega)) rfl ?_ | refine s_pur (p_gtrF rfl rfl (by omega)) rfl ?_ | refine s_pur (p_geqT rfl rfl (by omega)) rfl ?_ | refine s_pur (p_geqF rfl rfl (by omega)) rfl ?_ | refine s_pur (p_eqlT rfl rfl (by omega)) rfl ?_ | refine s_pur (p_eqlF rfl rfl (by omega)) rfl ?_ | refine s_pur (p_neqT rfl rfl (by omega)) rfl ?_ | refine s_pur (p_neqF rfl rfl (by omega)) rfl ?_ | refine s_pur (p_add rfl rfl rfl (by omega) (by omega)) rfl ?_)
      refine s_eff (e_slice1 rfl Yba.underlying23 Yba.sizeOf3 Yba.zeroValue3 rfl) rfl ?_
      rintro _ hA ⟨rfl, hnA⟩
      have sA := lt_of_get hu1.at_
      refine s_eff (app23 rfl rfl (ow1.new hnA) (by rw [hc_of hnA.at_]; rfl) (by omega) (by have := hnA.size; omega)) rfl ?_
      rintro v' hB ⟨oB, gB, nnB, ownB⟩
      repeat (first | refine c_seq ?_ | refine c_region ?_ | refine c_block ?_ | refine c_skip ?_ | refine c_exit ?_ | refine c_ret ?_ | refine n_then ?_ | refine n_block ?_ | refine x_then ?_ | refine x_block_eq ?_ | refine x_block_ne rfl ?_ | refine r_then ?_ | refine r_block ?_ | refine s_nil ?_ | refine c_true rfl ?_ | refine c_false rfl ?_ | refine s_pur (p_move rfl) rfl ?_ | refine s_pur (p_assign rfl) rfl ?_ | refine s_pur (p_nil rfl) rfl ?_ | refine s_pur (p_pick_t rfl rfl) rfl ?_ | refine s_pur (p_pick_f rfl rfl) rfl ?_ | refine s_pur (p_add rfl rfl rfl (by omega) (by omega)) rfl ?_)
      refine c_next (k + 1, v') ⟨hlt, (lo1.new hnA (by omega)).grow gB (by have := hnA.size; omega) (fun g hg => by have := ow1.base g hg; omega), ?_, ?_⟩ (.cons rfl (.cons rfl (.cons rfl (.cons rfl (.cons rfl (.cons rfl (.cons rfl (.cons rfl (.cons rfl (.cons rfl (.cons' rfl (int_eq (by simp [hsucc])) (.cons rfl (.cons rfl .nil))))))))))))) (by simp only; omega)
      · obtain ⟨c, r1, r2⟩ := wk1
        refine ⟨c, ?_, r2⟩
        rw [gB.other h.size (by have := hnA.size; omega) (fun e => by have := ow1.base _ e.symm; omega), hnA.other _ (by omega)]
        exact r1
      · simp only
        rw [hsucc, List.length_append]
        have e3 : ints (nats (indOf pr k ++ [k])) = ints (nats (indOf pr k)) ++ [.int .i64 (k : Int)] := by simp [ints, nats]
        rw [e3]
        exact oB
    · have hp' : pr k = false := by simpa using hp
      rw [hp'] at e1
      rw [hp', if_neg (by simp), List.append_nil] at hsucc
      repeat (first | refine c_seq ?_ | refine c_region ?_ | refine c_block ?_ | refine c_skip ?_ | refine c_exit ?_ | refine c_ret ?_ | refine n_then ?_ | refine n_block ?_ | refine x_then ?_ | refine x_block_eq ?_ | refine x_block_ne rfl ?_ | refine r_then ?_ | refine r_block ?_ | refine s_nil ?_ | refine c_true rfl ?_ | refine c_false rfl ?_ | refine s_pur (p_move rfl) rfl ?_ | refine s_pur (p_assign rfl) rfl ?_ | refine s_pur (p_nil rfl) rfl ?_ | refine s_pur (p_pick_t rfl rfl) rfl ?_ | refine s_pur (p_pick_f rfl rfl) rfl ?_ | refine s_pur (p_len rfl Yba.underlying22) rfl ?_ | refine s_pur (p_idx1 rfl rfl rfl (by omega) Yba.underlying22 Yba.sizeOf4) rfl ?_ | refine s_pur (p_load rfl Yba.isAgg4 (by assumption)) rfl ?_ | refine s_pur (p_lssT rfl rfl (by omega)) rfl ?_ | refine s_pur (p_lssF rfl rfl (by omega)) rfl ?_ | refine s_pur (p_leqT rfl rfl (by omega)) rfl ?_ | refine s_pur (p_leqF rfl rfl (by omega)) rfl ?_ | refine s_pur (p_gtrT rfl rfl (by omega)) rfl ?_ | refine s_pur (p_gtrF rfl rfl (by omega)) rfl ?_ | refine s_pur (p_geqT rfl rfl (by omega)) rfl ?_ | refine s_pur (p_geqF rfl rfl (by omega)) rfl ?_ | refine s_pur (p_eqlT rfl rfl (by omega)) rfl ?_ | refine s_pur (p_eqlF rfl rfl (by omega)) rfl ?_ | refine s_pur (p_neqT rfl rfl (by omega)) rfl ?_ | refine s_pur (p_neqF rfl rfl (by omega)) rfl ?_ | refine s_pur (p_add rfl rfl rfl (by omega) (by omega)) rfl ?_)
      refine c_next (k + 1, u) ⟨hlt, lo1, wk1, ?_⟩ (.cons rfl (.cons rfl (.cons rfl (.cons rfl (.cons rfl (.cons rfl (.cons rfl (.cons rfl (.cons rfl (.cons rfl (.cons' rfl (int_eq (by simp [hsucc])) (.cons rfl (.cons rfl .nil))))))))))))) (by simp only; omega)
      simp only
      rw [hsucc]; exact ow1
  · have : k = n := by omega
    subst this
    refine c_seq ?_
    refine c_seq ?_
    repeat (first | refine c_region ?_ | refine c_block ?_ | refine c_skip ?_ | refine c_exit ?_ | refine c_ret ?_ | refine n_then ?_ | refine n_block ?_ | refine x_then ?_ | refine x_block_eq ?_ | refine x_block_ne rfl ?_ | refine r_then ?_ | refine r_block ?_ | refine s_nil ?_ | refine c_true rfl ?_ | refine c_false rfl ?_ | refine s_pur (p_move rfl) rfl ?_ | refine s_pur (p_assign rfl) rfl ?_ | refine s_pur (p_nil rfl) rfl ?_ | refine s_pur (p_pick_t rfl rfl) rfl ?_ | refine s_pur (p_pick_f rfl rfl) rfl ?_ | refine s_pur (p_lssT rfl rfl (by omega)) rfl ?_ | refine s_pur (p_lssF rfl rfl (by omega)) rfl ?_ | refine s_pur (p_leqT rfl rfl (by omega)) rfl ?_ | refine s_pur (p_leqF rfl rfl (by omega)) rfl ?_ | refine s_pur (p_gtrT rfl rfl (by omega)) rfl ?_ | refine s_pur (p_gtrF rfl rfl (by omega)) rfl ?_ | refine s_pur (p_geqT rfl rfl (by omega)) rfl ?_ | refine s_pur (p_geqF rfl rfl (by omega)) rfl ?_ | refine s_pur (p_eqlT rfl rfl (by omega)) rfl ?_ | refine s_pur (p_eqlF rfl rfl (by omega)) rfl ?_ | refine s_pur (p_neqT rfl rfl (by omega)) rfl ?_ | refine s_pur (p_neqF rfl rfl (by omega)) rfl ?_)
    refine cut [(0, .slice a0 k c0), (1, .int .u8 k1), (2, .int .i64 p), (3, .int .u8 rot), (4, .slice a4 x4.length c4), (5, .slice a5 x5.length c5), (6, v6), (7, v7), (17, .int .i64 k), (18, .slice (some ⟨h.size, 0, none⟩) k k), (19, .int .i64 (indOf pr k).length), (20, u)] (by repeat (first | exact Sub.nil | refine Sub.cons rfl ?_)) ?_
    exact goon u q lo wk ow
end Go.Proofs.Ybulkdiqq
