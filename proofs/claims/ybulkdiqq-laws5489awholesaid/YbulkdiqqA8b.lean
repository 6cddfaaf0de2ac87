/-
  A8b: the law: which lists the crossings hold before order is called.
-/
import Derived.Test.YbulkdiqqA8c
namespace Go.Proofs.Ybulkdiqq
set_option linter.unusedSimpArgs false
set_option linter.unusedVariables false
open Go Go.RowKit V Flt Srt
set_option maxRecDepth 100000

/-- A row of numbers below n, of the call's own. -/
def NatRow (h : Heap) (base : Nat) (u : Value) (n : Nat) : Prop :=
  ∃ m : List Nat, Owns h base 3 1 u m.length (ints (nats m)) ∧ (∀ x ∈ m, x < n) ∧ m.length ≤ 1000 ∧ ¬ u = .slice none 0 0
theorem NatRow.low {h h' : Heap} {base n : Nat} {u : Value} (hr : NatRow h base u n) (hl : Low h.size h h') : NatRow h' base u n := by
  obtain ⟨m, ho, r⟩ := hr
  exact ⟨m, ho.keep fun k _ hk _ => hl.same k hk, r⟩

theorem amapN (h : Heap) (v : Value) (xs : List Int) (n : Nat) (hv : SlI .i64 h v xs) (hl : xs.length ≤ 1000) (hn : n ≤ 1000) :
    CallsH Yba.prog 6 #[v, .int .i64 n] h (fun u h' => NatRow h' h.size u n ∧ Low h.size h h') := by
  refine (amap_ok h v xs n hv hl hn).mono ?_
  rintro u h' ⟨ho, lo, nn⟩
  refine ⟨?_, lo⟩
  by_cases h0 : n = 0
  · simp only [h0, if_true] at ho
    exact ⟨[], ho, by simp, by simp, nn⟩
  · simp only [h0, if_false] at ho
    have hm : ∀ x, ∃ k : Nat, mapE n x = (k : Int) ∧ k < n := by
      intro x
      have h1 : 0 ≤ mapE n x := Int.emod_nonneg _ (by omega)
      have h2 : mapE n x < n := Int.emod_lt_of_pos _ (by omega)
      exact ⟨(mapE n x).toNat, by omega, by omega⟩
    refine ⟨xs.map fun x => (mapE n x).toNat, ?_, ?_, by simpa using hl, nn⟩
    · have e : nats (xs.map fun x => (mapE n x).toNat) = xs.map (mapE n) := by
        unfold nats
        rw [List.map_map]
        apply List.map_congr_left
        intro x _
        obtain ⟨k, hk, _⟩ := hm x
        simp [hk]
      rw [e]; simpa using ho
    · intro y hy
      obtain ⟨x, _, rfl⟩ := List.mem_map.1 hy
      obtain ⟨k, hk, hlt⟩ := hm x
      rw [hk]; simpa using hlt

theorem rotatedN (h : Heap) (v : Value) (ms : List Nat) (rot n : Nat) (hv : SlI .i64 h v (nats ms)) (hl : ms.length ≤ 1000) (hr : rot < 256) (hm : ∀ x ∈ ms, x < n) :
    CallsH Yba.prog 7 #[v, .int .u8 rot] h (fun u h' => NatRow h' h.size u n ∧ Low h.size h h') := by
  refine (rotated_ok h v (nats ms) rot hv (by rw [nats_length]; exact hl) hr).mono ?_
  rintro u h' ⟨ho, lo, nn⟩
  refine ⟨⟨(List.range ms.length).map fun i => ms.getD ((i + rot % ms.length) % ms.length) 0, ?_, ?_, by simpa using hl, nn⟩, lo⟩
  · have e : nats ((List.range ms.length).map fun i => ms.getD ((i + rot % ms.length) % ms.length) 0) = rotE (nats ms) rot := by
      unfold rotE
      rw [nats_length]
      conv => lhs; unfold nats
      rw [List.map_map]
      apply List.map_congr_left
      intro i _
      simp only [Function.comp_apply, nats_getD]
    rw [e]
    simpa [nats_length] using ho
  · intro y hy
    obtain ⟨i, hi, rfl⟩ := List.mem_map.1 hy
    have hi' : i < ms.length := by simpa using hi
    have hlt : (i + rot % ms.length) % ms.length < ms.length := Nat.mod_lt _ (by omega)
    rw [getD_lt ms _ hlt]
    exact hm _ (List.getElem_mem _)

theorem reversedN (h : Heap) (v : Value) (ms : List Nat) (n : Nat) (hv : SlI .i64 h v (nats ms)) (hl : ms.length ≤ 1000) (hm : ∀ x ∈ ms, x < n) :
    CallsH Yba.prog 8 #[v] h (fun u h' => NatRow h' h.size u n ∧ Low h.size h h') := by
  refine (reversed_ok h v (nats ms) hv (by rw [nats_length]; exact hl)).mono ?_
  rintro u h' ⟨ho, lo, nn⟩
  refine ⟨⟨ms.reverse, ?_, by simpa using hm, by simpa using hl, nn⟩, lo⟩
  have e : nats ms.reverse = (nats ms).reverse := by simp [nats]
  rw [e]
  simpa [nats_length] using ho

structure BF (h hh : Heap) (n bw : Nat) (pr : Nat → Bool) (KX KY : Nat → Int) (pv ind : Value) (gX gY : Nat) : Prop where
  low : Low h.size h hh
  wk : ∀ i, i < n → hc hh bw (0 + i * 12 + 3) = some (.bool (pr i))
  prs : SlB hh pv n pr
  ind : SlI .i64 hh ind (nats (indOf pr n))
  fx : SlF hh (.slice (some ⟨gX, 0, none⟩) n n) n KX
  fy : SlF hh (.slice (some ⟨gY, 0, none⟩) n n) n KY
  kx : ∀ x y, x < n → y < n → KX x = KX y → x = y
  ky : ∀ x y, x < n → y < n → KY x = KY y → x = y
  bwl : bw < hh.size
  gXl : gX < hh.size
  gYl : gY < hh.size
  nn : n ≤ 1000
theorem BF.next {h hh h' : Heap} {n bw : Nat} {pr : Nat → Bool} {KX KY : Nat → Int} {pv ind : Value} {gX gY : Nat} (D : BF h hh n bw pr KX KY pv ind gX gY) (hl : Low hh.size hh h') : BF h h' n bw pr KX KY pv ind gX gY :=
  ⟨D.low.then hl, fun i hi => low_hc hl (D.wk i hi), D.prs.low hl, D.ind.low hl, D.fx.low hl, D.fy.low hl, D.kx, D.ky, by have := D.bwl; have := hl.size; omega, by have := D.gXl; have := hl.size; omega, by have := D.gYl; have := hl.size; omega, D.nn⟩

theorem partB2 {h hh : Heap} {n bw : Nat} {pr : Nat → Bool} {KX KY : Nat → Int} {pv ind : Value} {gX gY : Nat} (p c : Int) (r : Nat) (a b : Value) (D : BF h hh n bw pr KX KY pv ind gX gY) {ba bb : Nat} (ra : NatRow hh ba a n) (rb : NatRow hh bb b n)
    {w0 : World} {R : Value → Heap → Prop} (hR : ∀ h', Low h.size h h' → R (.bool true) h') :
    V.Fin 326 w0 (CW Yba.prog (V.sub (Yba.f3.body.getD .skip) [1, 1, 1, 1, 1, 1, 1, 1, 1, 1, 1, 1, 1]) (bodyPost Yba.prog Yba.f3 (PostR w0 R)))
      [(0, pv), (2, .int .i64 p), (17, .int .i64 n), (18, .slice (some ⟨bw, 0, none⟩) n n), (19, .int .i64 c), (20, ind), (22, .slice (some ⟨gX, 0, none⟩) n n), (23, .slice (some ⟨gY, 0, none⟩) n n), (25, a), (26, b), (27, .int .i64 r)] hh := by
  obtain ⟨m0, oa, la, lma, nna⟩ := ra
  obtain ⟨m1, ob, lb, lmb, nnb⟩ := rb
  obtain ⟨ga, ca, rfl, _, _⟩ := owns_nn oa nna
  obtain ⟨gb, cb, rfl, _, _⟩ := owns_nn ob nnb
  have C : CF h hh n bw pr KX KY pv ind gX gY ga gb ca cb m0 m1 := ⟨D.low, D.wk, D.prs, D.ind, D.fx, D.fy, fun j hj => by rw [ints_get m0 j hj]; exact oa.cell rfl (ints_get m0 j hj), fun j hj => by rw [ints_get m1 j hj]; exact ob.cell rfl (ints_get m1 j hj),
    la, lb, lma, lmb, D.kx, D.ky, D.bwl, D.gXl, D.gYl, D.nn⟩
  refine c_mid [(0, pv), (2, .int .i64 p), (17, .int .i64 n), (18, .slice (some ⟨bw, 0, none⟩) n n), (20, ind), (22, .slice (some ⟨gX, 0, none⟩) n n), (23, .slice (some ⟨gY, 0, none⟩) n n), (25, .slice (some ⟨ga, 0, none⟩) m0.length ca), (26, .slice (some ⟨gb, 0, none⟩) m1.length cb), (27, .int .i64 r), (28, .int .i64 c)] (fun q => hh = q) ?_ ?_
  · repeat (first | refine c_seq ?_ | refine c_region ?_ | refine c_block ?_ | refine c_skip ?_ | refine c_exit ?_ | refine c_ret ?_ | refine n_then ?_ | refine n_block ?_ | refine x_then ?_ | refine x_block_eq ?_ | refine x_block_ne rfl ?_ | refine r_then ?_ | refine r_block ?_ | refine s_nil ?_ | refine c_true rfl ?_ | refine c_false rfl ?_ | refine s_pur (p_move rfl) rfl ?_ | refine s_pur (p_assign rfl) rfl ?_ | refine s_pur (p_nil rfl) rfl ?_ | refine s_pur (p_pick_t rfl rfl) rfl ?_ | refine s_pur (p_pick_f rfl rfl) rfl ?_)
    exact m_done rfl (by repeat (first | exact Sub.nil | refine Sub.cons rfl ?_))
  rintro _ rfl
  refine c_mid [(0, pv), (17, .int .i64 n), (18, .slice (some ⟨bw, 0, none⟩) n n), (20, ind), (22, .slice (some ⟨gX, 0, none⟩) n n), (23, .slice (some ⟨gY, 0, none⟩) n n), (25, .slice (some ⟨ga, 0, none⟩) m0.length ca), (26, .slice (some ⟨gb, 0, none⟩) m1.length cb), (28, .int .i64 (if r = 1 then p else c))] (fun q => hh = q) ?_ ?_
  · by_cases h1 : r = 1
    · rw [if_pos h1]
      repeat (first | refine c_seq ?_ | refine c_region ?_ | refine c_block ?_ | refine c_skip ?_ | refine c_exit ?_ | refine c_ret ?_ | refine n_then ?_ | refine n_block ?_ | refine x_then ?_ | refine x_block_eq ?_ | refine x_block_ne rfl ?_ | refine r_then ?_ | refine r_block ?_ | refine s_nil ?_ | refine c_true rfl ?_ | refine c_false rfl ?_ | refine s_pur (p_move rfl) rfl ?_ | refine s_pur (p_assign rfl) rfl ?_ | refine s_pur (p_nil rfl) rfl ?_ | refine s_pur (p_pick_t rfl rfl) rfl ?_ | refine s_pur (p_pick_f rfl rfl) rfl ?_ | refine s_pur (p_lssT rfl rfl (by omega)) rfl ?_ | refine s_pur (p_lssF rfl rfl (by omega)) rfl ?_ | refine s_pur (p_leqT rfl rfl (by omega)) rfl ?_ | refine s_pur (p_leqF rfl rfl (by omega)) rfl ?_ | refine s_pur (p_gtrT rfl rfl (by omega)) rfl ?_ | refine s_pur (p_gtrF rfl rfl (by omega)) rfl ?_ | refine s_pur (p_geqT rfl rfl (by omega)) rfl ?_ | refine s_pur (p_geqF rfl rfl (by omega)) rfl ?_ | refine s_pur (p_eqlT rfl rfl (by omega)) rfl ?_ | refine s_pur (p_eqlF rfl rfl (by omega)) rfl ?_ | refine s_pur (p_neqT rfl rfl (by omega)) rfl ?_ | refine s_pur (p_neqF rfl rfl (by omega)) rfl ?_)
      exact m_done rfl (by repeat (first | exact Sub.nil | refine Sub.cons rfl ?_))
    · rw [if_neg h1]
      repeat (first | refine c_seq ?_ | refine c_region ?_ | refine c_block ?_ | refine c_skip ?_ | refine c_exit ?_ | refine c_ret ?_ | refine n_then ?_ | refine n_block ?_ | refine x_then ?_ | refine x_block_eq ?_ | refine x_block_ne rfl ?_ | refine r_then ?_ | refine r_block ?_ | refine s_nil ?_ | refine c_true rfl ?_ | refine c_false rfl ?_ | refine s_pur (p_move rfl) rfl ?_ | refine s_pur (p_assign rfl) rfl ?_ | refine s_pur (p_nil rfl) rfl ?_ | refine s_pur (p_pick_t rfl rfl) rfl ?_ | refine s_pur (p_pick_f rfl rfl) rfl ?_ | refine s_pur (p_lssT rfl rfl (by omega)) rfl ?_ | refine s_pur (p_lssF rfl rfl (by omega)) rfl ?_ | refine s_pur (p_leqT rfl rfl (by omega)) rfl ?_ | refine s_pur (p_leqF rfl rfl (by omega)) rfl ?_ | refine s_pur (p_gtrT rfl rfl (by omega)) rfl ?_ | refine s_pur (p_gtrF rfl rfl (by omega)) rfl ?_ | refine s_pur (p_geqT rfl rfl (by omega)) rfl ?_ | refine s_pur (p_geqF rfl rfl (by omega)) rfl ?_ | refine s_pur (p_eqlT rfl rfl (by omega)) rfl ?_ | refine s_pur (p_eqlF rfl rfl (by omega)) rfl ?_ | refine s_pur (p_neqT rfl rfl (by omega)) rfl ?_ | refine s_pur (p_neqF rfl rfl (by omega)) rfl ?_)
      exact m_done rfl (by repeat (first | exact Sub.nil | refine Sub.cons rfl ?_))
  rintro _ rfl
  exact partC _ C hR

set_option maxHeartbeats 4000000 in
theorem partB {h hh : Heap} {n bw : Nat} {pr : Nat → Bool} {KX KY : Nat → Int} {pv ind : Value} {gX gY : Nat} (p c : Int) (k1 rot : Nat) (v4 v5 : Value) (x4 x5 : List Int) (D : BF h hh n bw pr KX KY pv ind gX gY) (h4 : SlI .i64 hh v4 x4) (h5 : SlI .i64 hh v5 x5)
    (l4 : x4.length ≤ 1000) (l5 : x5.length ≤ 1000) (hk : k1 < 256) (hrot : rot < 256) {w0 : World} {R : Value → Heap → Prop} (hR : ∀ h', Low h.size h h' → R (.bool true) h') :
    V.Fin 326 w0 (CW Yba.prog (V.sub (Yba.f3.body.getD .skip) [1, 1, 1, 1, 1, 1, 1, 1, 1, 1]) (bodyPost Yba.prog Yba.f3 (PostR w0 R)))
      [(0, pv), (1, .int .u8 k1), (2, .int .i64 p), (3, .int .u8 rot), (4, v4), (5, v5), (17, .int .i64 n), (18, .slice (some ⟨bw, 0, none⟩) n n), (19, .int .i64 c), (20, ind), (22, .slice (some ⟨gX, 0, none⟩) n n), (23, .slice (some ⟨gY, 0, none⟩) n n)] hh := by
  have hn := D.nn
  have ile := indOf_length_le pr n
  have ilt := indOf_lt pr n
  generalize hr : k1 % 4 = r
  have hr4 : r < 4 := by omega
  refine c_mid [(0, pv), (1, .int .u8 k1), (2, .int .i64 p), (3, .int .u8 rot), (4, v4), (5, v5), (17, .int .i64 n), (18, .slice (some ⟨bw, 0, none⟩) n n), (19, .int .i64 c), (20, ind), (22, .slice (some ⟨gX, 0, none⟩) n n), (23, .slice (some ⟨gY, 0, none⟩) n n)] (fun q => hh = q) ?_ ?_
  · repeat (first | refine c_seq ?_ | refine c_region ?_ | refine c_block ?_ | refine c_skip ?_ | refine c_exit ?_ | refine c_ret ?_ | refine n_then ?_ | refine n_block ?_ | refine x_then ?_ | refine x_block_eq ?_ | refine x_block_ne rfl ?_ | refine r_then ?_ | refine r_block ?_ | refine s_nil ?_ | refine c_true rfl ?_ | refine c_false rfl ?_ | refine s_pur (p_move rfl) rfl ?_ | refine s_pur (p_assign rfl) rfl ?_ | refine s_pur (p_nil rfl) rfl ?_ | refine s_pur (p_pick_t rfl rfl) rfl ?_ | refine s_pur (p_pick_f rfl rfl) rfl ?_)
    exact m_done rfl (by repeat (first | exact Sub.nil | refine Sub.cons rfl ?_))
  rintro _ rfl
  refine c_mid [(0, pv), (2, .int .i64 p), (3, .int .u8 rot), (4, v4), (5, v5), (17, .int .i64 n), (18, .slice (some ⟨bw, 0, none⟩) n n), (19, .int .i64 c), (20, ind), (22, .slice (some ⟨gX, 0, none⟩) n n), (23, .slice (some ⟨gY, 0, none⟩) n n), (27, .int .i64 r)] (fun q => hh = q) ?_ ?_
  · repeat (first | refine c_seq ?_ | refine c_region ?_ | refine c_block ?_ | refine c_skip ?_ | refine c_exit ?_ | refine c_ret ?_ | refine n_then ?_ | refine n_block ?_ | refine x_then ?_ | refine x_block_eq ?_ | refine x_block_ne rfl ?_ | refine r_then ?_ | refine r_block ?_ | refine s_nil ?_ | refine c_true rfl ?_ | refine c_false rfl ?_ | refine s_pur (p_move rfl) rfl ?_ | refine s_pur (p_assign rfl) rfl ?_ | refine s_pur (p_nil rfl) rfl ?_ | refine s_pur (p_pick_t rfl rfl) rfl ?_ | refine s_pur (p_pick_f rfl rfl) rfl ?_ | refine s_pur (p_conv64 rfl Yba.underlying5 Yba.underlying3 (by omega) (by omega)) rfl ?_ | refine s_pur (p_remN (n := 4) rfl rfl (by omega) hr) rfl ?_)
    exact m_done rfl (by repeat (first | exact Sub.nil | refine Sub.cons rfl ?_))
  rintro _ rfl
  rcases (by omega : r = 0 ∨ r = 1 ∨ r = 2 ∨ r = 3) with e | e | e | e
  · refine c_seq ?_
    repeat (first | refine c_seq ?_ | refine c_region ?_ | refine c_block ?_ | refine c_skip ?_ | refine c_exit ?_ | refine c_ret ?_ | refine n_then ?_ | refine n_block ?_ | refine x_then ?_ | refine x_block_eq ?_ | refine x_block_ne rfl ?_ | refine r_then ?_ | refine r_block ?_ | refine s_nil ?_ | refine c_true rfl ?_ | refine c_false rfl ?_ | refine s_pur (p_move rfl) rfl ?_ | refine s_pur (p_assign rfl) rfl ?_ | refine s_pur (p_nil rfl) rfl ?_ | refine s_pur (p_pick_t rfl rfl) rfl ?_ | refine s_pur (p_pick_f rfl rfl) rfl ?_ | refine s_pur (p_lssT rfl rfl (by omega)) rfl ?_ | refine s_pur (p_lssF rfl rfl (by omega)) rfl ?_ | refine s_pur (p_leqT rfl rfl (by omega)) rfl ?_ | refine s_pur (p_leqF rfl rfl (by omega)) rfl ?_ | refine s_pur (p_gtrT rfl rfl (by omega)) rfl ?_ | refine s_pur (p_gtrF rfl rfl (by omega)) rfl ?_ | refine s_pur (p_geqT rfl rfl (by omega)) rfl ?_ | refine s_pur (p_geqF rfl rfl (by omega)) rfl ?_ | refine s_pur (p_eqlT rfl rfl (by omega)) rfl ?_ | refine s_pur (p_eqlF rfl rfl (by omega)) rfl ?_ | refine s_pur (p_neqT rfl rfl (by omega)) rfl ?_ | refine s_pur (p_neqF rfl rfl (by omega)) rfl ?_)
    refine s_call Yba.call6 rfl rfl (amapN hh v4 x4 n h4 l4 hn) ?_
    rintro a hA ⟨rA, loA⟩
    have sA := loA.size
    repeat (first | refine c_seq ?_ | refine c_region ?_ | refine c_block ?_ | refine c_skip ?_ | refine c_exit ?_ | refine c_ret ?_ | refine n_then ?_ | refine n_block ?_ | refine x_then ?_ | refine x_block_eq ?_ | refine x_block_ne rfl ?_ | refine r_then ?_ | refine r_block ?_ | refine s_nil ?_ | refine c_true rfl ?_ | refine c_false rfl ?_ | refine s_pur (p_move rfl) rfl ?_ | refine s_pur (p_assign rfl) rfl ?_ | refine s_pur (p_nil rfl) rfl ?_ | refine s_pur (p_pick_t rfl rfl) rfl ?_ | refine s_pur (p_pick_f rfl rfl) rfl ?_)
    refine s_call Yba.call6 rfl rfl (amapN hA v5 x5 n (h5.low loA) l5 hn) ?_
    rintro b hB ⟨rB, loB⟩
    repeat (first | refine c_region ?_ | refine c_block ?_ | refine c_skip ?_ | refine c_exit ?_ | refine c_ret ?_ | refine n_then ?_ | refine n_block ?_ | refine x_then ?_ | refine x_block_eq ?_ | refine x_block_ne rfl ?_ | refine r_then ?_ | refine r_block ?_ | refine s_nil ?_ | refine c_true rfl ?_ | refine c_false rfl ?_ | refine s_pur (p_move rfl) rfl ?_ | refine s_pur (p_assign rfl) rfl ?_ | refine s_pur (p_nil rfl) rfl ?_ | refine s_pur (p_pick_t rfl rfl) rfl ?_ | refine s_pur (p_pick_f rfl rfl) rfl ?_)
    refine cut [(0, pv), (2, .int .i64 p), (17, .int .i64 n), (18, .slice (some ⟨bw, 0, none⟩) n n), (19, .int .i64 c), (20, ind), (22, .slice (some ⟨gX, 0, none⟩) n n), (23, .slice (some ⟨gY, 0, none⟩) n n), (25, a), (26, b), (27, .int .i64 r)] (by repeat (first | exact Sub.nil | refine Sub.cons rfl ?_)) ?_
    exact partB2 p c r a b ((D.next loA).next loB) (rA.low loB) rB hR
  · refine c_seq ?_
    repeat (first | refine c_seq ?_ | refine c_region ?_ | refine c_block ?_ | refine c_skip ?_ | refine c_exit ?_ | refine c_ret ?_ | refine n_then ?_ | refine n_block ?_ | refine x_then ?_ | refine x_block_eq ?_ | refine x_block_ne rfl ?_ | refine r_then ?_ | refine r_block ?_ | refine s_nil ?_ | refine c_true rfl ?_ | refine c_false rfl ?_ | refine s_pur (p_move rfl) rfl ?_ | refine s_pur (p_assign rfl) rfl ?_ | refine s_pur (p_nil rfl) rfl ?_ | refine s_pur (p_pick_t rfl rfl) rfl ?_ | refine s_pur (p_pick_f rfl rfl) rfl ?_ | refine s_pur (p_lssT rfl rfl (by omega)) rfl ?_ | refine s_pur (p_lssF rfl rfl (by omega)) rfl ?_ | refine s_pur (p_leqT rfl rfl (by omega)) rfl ?_ | refine s_pur (p_leqF rfl rfl (by omega)) rfl ?_ | refine s_pur (p_gtrT rfl rfl (by omega)) rfl ?_ | refine s_pur (p_gtrF rfl rfl (by omega)) rfl ?_ | refine s_pur (p_geqT rfl rfl (by omega)) rfl ?_ | refine s_pur (p_geqF rfl rfl (by omega)) rfl ?_ | refine s_pur (p_eqlT rfl rfl (by omega)) rfl ?_ | refine s_pur (p_eqlF rfl rfl (by omega)) rfl ?_ | refine s_pur (p_neqT rfl rfl (by omega)) rfl ?_ | refine s_pur (p_neqF rfl rfl (by omega)) rfl ?_)
    refine s_call Yba.call6 rfl rfl (amapN hh v4 x4 n h4 l4 hn) ?_
    rintro a hA ⟨rA, loA⟩
    have sA := loA.size
    repeat (first | refine c_seq ?_ | refine c_region ?_ | refine c_block ?_ | refine c_skip ?_ | refine c_exit ?_ | refine c_ret ?_ | refine n_then ?_ | refine n_block ?_ | refine x_then ?_ | refine x_block_eq ?_ | refine x_block_ne rfl ?_ | refine r_then ?_ | refine r_block ?_ | refine s_nil ?_ | refine c_true rfl ?_ | refine c_false rfl ?_ | refine s_pur (p_move rfl) rfl ?_ | refine s_pur (p_assign rfl) rfl ?_ | refine s_pur (p_nil rfl) rfl ?_ | refine s_pur (p_pick_t rfl rfl) rfl ?_ | refine s_pur (p_pick_f rfl rfl) rfl ?_)
    refine s_call Yba.call6 rfl rfl (amapN hA v5 x5 n (h5.low loA) l5 hn) ?_
    rintro b hB ⟨rB, loB⟩
    repeat (first | refine c_region ?_ | refine c_block ?_ | refine c_skip ?_ | refine c_exit ?_ | refine c_ret ?_ | refine n_then ?_ | refine n_block ?_ | refine x_then ?_ | refine x_block_eq ?_ | refine x_block_ne rfl ?_ | refine r_then ?_ | refine r_block ?_ | refine s_nil ?_ | refine c_true rfl ?_ | refine c_false rfl ?_ | refine s_pur (p_move rfl) rfl ?_ | refine s_pur (p_assign rfl) rfl ?_ | refine s_pur (p_nil rfl) rfl ?_ | refine s_pur (p_pick_t rfl rfl) rfl ?_ | refine s_pur (p_pick_f rfl rfl) rfl ?_)
    refine cut [(0, pv), (2, .int .i64 p), (17, .int .i64 n), (18, .slice (some ⟨bw, 0, none⟩) n n), (19, .int .i64 c), (20, ind), (22, .slice (some ⟨gX, 0, none⟩) n n), (23, .slice (some ⟨gY, 0, none⟩) n n), (25, a), (26, b), (27, .int .i64 r)] (by repeat (first | exact Sub.nil | refine Sub.cons rfl ?_)) ?_
    exact partB2 p c r a b ((D.next loA).next loB) (rA.low loB) rB hR
  · refine c_seq ?_
    repeat (first | refine c_seq ?_ | refine c_region ?_ | refine c_block ?_ | refine c_skip ?_ | refine c_exit ?_ | refine c_ret ?_ | refine n_then ?_ | refine n_block ?_ | refine x_then ?_ | refine x_block_eq ?_ | refine x_block_ne rfl ?_ | refine r_then ?_ | refine r_block ?_ | refine s_nil ?_ | refine c_true rfl ?_ | refine c_false rfl ?_ | refine s_pur (p_move rfl) rfl ?_ | refine s_pur (p_assign rfl) rfl ?_ | refine s_pur (p_nil rfl) rfl ?_ | refine s_pur (p_pick_t rfl rfl) rfl ?_ | refine s_pur (p_pick_f rfl rfl) rfl ?_ | refine s_pur (p_lssT rfl rfl (by omega)) rfl ?_ | refine s_pur (p_lssF rfl rfl (by omega)) rfl ?_ | refine s_pur (p_leqT rfl rfl (by omega)) rfl ?_ | refine s_pur (p_leqF rfl rfl (by omega)) rfl ?_ | refine s_pur (p_gtrT rfl rfl (by omega)) rfl ?_ | refine s_pur (p_gtrF rfl rfl (by omega)) rfl ?_ | refine s_pur (p_geqT rfl rfl (by omega)) rfl ?_ | refine s_pur (p_geqF rfl rfl (by omega)) rfl ?_ | refine s_pur (p_eqlT rfl rfl (by omega)) rfl ?_ | refine s_pur (p_eqlF rfl rfl (by omega)) rfl ?_ | refine s_pur (p_neqT rfl rfl (by omega)) rfl ?_ | refine s_pur (p_neqF rfl rfl (by omega)) rfl ?_)
    refine s_call Yba.call7 rfl rfl (rotatedN hh ind (indOf pr n) rot n D.ind (by omega) hrot ilt) ?_
    rintro a hA ⟨rA, loA⟩
    have sA := loA.size
    repeat (first | refine c_seq ?_ | refine c_region ?_ | refine c_block ?_ | refine c_skip ?_ | refine c_exit ?_ | refine c_ret ?_ | refine n_then ?_ | refine n_block ?_ | refine x_then ?_ | refine x_block_eq ?_ | refine x_block_ne rfl ?_ | refine r_then ?_ | refine r_block ?_ | refine s_nil ?_ | refine c_true rfl ?_ | refine c_false rfl ?_ | refine s_pur (p_move rfl) rfl ?_ | refine s_pur (p_assign rfl) rfl ?_ | refine s_pur (p_nil rfl) rfl ?_ | refine s_pur (p_pick_t rfl rfl) rfl ?_ | refine s_pur (p_pick_f rfl rfl) rfl ?_)
    refine s_call Yba.call6 rfl rfl (amapN hA v5 x5 n (h5.low loA) l5 hn) ?_
    rintro b hB ⟨rB, loB⟩
    repeat (first | refine c_region ?_ | refine c_block ?_ | refine c_skip ?_ | refine c_exit ?_ | refine c_ret ?_ | refine n_then ?_ | refine n_block ?_ | refine x_then ?_ | refine x_block_eq ?_ | refine x_block_ne rfl ?_ | refine r_then ?_ | refine r_block ?_ | refine s_nil ?_ | refine c_true rfl ?_ | refine c_false rfl ?_ | refine s_pur (p_move rfl) rfl ?_ | refine s_pur (p_assign rfl) rfl ?_ | refine s_pur (p_nil rfl) rfl ?_ | refine s_pur (p_pick_t rfl rfl) rfl ?_ | refine s_pur (p_pick_f rfl rfl) rfl ?_)
    refine cut [(0, pv), (2, .int .i64 p), (17, .int .i64 n), (18, .slice (some ⟨bw, 0, none⟩) n n), (19, .int .i64 c), (20, ind), (22, .slice (some ⟨gX, 0, none⟩) n n), (23, .slice (some ⟨gY, 0, none⟩) n n), (25, a), (26, b), (27, .int .i64 r)] (by repeat (first | exact Sub.nil | refine Sub.cons rfl ?_)) ?_
    exact partB2 p c r a b ((D.next loA).next loB) (rA.low loB) rB hR
  · refine c_seq ?_
    repeat (first | refine c_seq ?_ | refine c_region ?_ | refine c_block ?_ | refine c_skip ?_ | refine c_exit ?_ | refine c_ret ?_ | refine n_then ?_ | refine n_block ?_ | refine x_then ?_ | refine x_block_eq ?_ | refine x_block_ne rfl ?_ | refine r_then ?_ | refine r_block ?_ | refine s_nil ?_ | refine c_true rfl ?_ | refine c_false rfl ?_ | refine s_pur (p_move rfl) rfl ?_ | refine s_pur (p_assign rfl) rfl ?_ | refine s_pur (p_nil rfl) rfl ?_ | refine s_pur (p_pick_t rfl rfl) rfl ?_ | refine s_pur (p_pick_f rfl rfl) rfl ?_ | refine s_pur (p_lssT rfl rfl (by omega)) rfl ?_ | refine s_pur (p_lssF rfl rfl (by omega)) rfl ?_ | refine s_pur (p_leqT rfl rfl (by omega)) rfl ?_ | refine s_pur (p_leqF rfl rfl (by omega)) rfl ?_ | refine s_pur (p_gtrT rfl rfl (by omega)) rfl ?_ | refine s_pur (p_gtrF rfl rfl (by omega)) rfl ?_ | refine s_pur (p_geqT rfl rfl (by omega)) rfl ?_ | refine s_pur (p_geqF rfl rfl (by omega)) rfl ?_ | refine s_pur (p_eqlT rfl rfl (by omega)) rfl ?_ | refine s_pur (p_eqlF rfl rfl (by omega)) rfl ?_ | refine s_pur (p_neqT rfl rfl (by omega)) rfl ?_ | refine s_pur (p_neqF rfl rfl (by omega)) rfl ?_)
    refine s_call Yba.call7 rfl rfl (rotatedN hh ind (indOf pr n) rot n D.ind (by omega) hrot ilt) ?_
    rintro a hA ⟨rA, loA⟩
    have sA := loA.size
    repeat (first | refine c_seq ?_ | refine c_region ?_ | refine c_block ?_ | refine c_skip ?_ | refine c_exit ?_ | refine c_ret ?_ | refine n_then ?_ | refine n_block ?_ | refine x_then ?_ | refine x_block_eq ?_ | refine x_block_ne rfl ?_ | refine r_then ?_ | refine r_block ?_ | refine s_nil ?_ | refine c_true rfl ?_ | refine c_false rfl ?_ | refine s_pur (p_move rfl) rfl ?_ | refine s_pur (p_assign rfl) rfl ?_ | refine s_pur (p_nil rfl) rfl ?_ | refine s_pur (p_pick_t rfl rfl) rfl ?_ | refine s_pur (p_pick_f rfl rfl) rfl ?_)
    refine s_call Yba.call8 rfl rfl (reversedN hA ind (indOf pr n) n (D.ind.low loA) (by omega) ilt) ?_
    rintro b hB ⟨rB, loB⟩
    repeat (first | refine c_region ?_ | refine c_block ?_ | refine c_skip ?_ | refine c_exit ?_ | refine c_ret ?_ | refine n_then ?_ | refine n_block ?_ | refine x_then ?_ | refine x_block_eq ?_ | refine x_block_ne rfl ?_ | refine r_then ?_ | refine r_block ?_ | refine s_nil ?_ | refine c_true rfl ?_ | refine c_false rfl ?_ | refine s_pur (p_move rfl) rfl ?_ | refine s_pur (p_assign rfl) rfl ?_ | refine s_pur (p_nil rfl) rfl ?_ | refine s_pur (p_pick_t rfl rfl) rfl ?_ | refine s_pur (p_pick_f rfl rfl) rfl ?_)
    refine cut [(0, pv), (2, .int .i64 p), (17, .int .i64 n), (18, .slice (some ⟨bw, 0, none⟩) n n), (19, .int .i64 c), (20, ind), (22, .slice (some ⟨gX, 0, none⟩) n n), (23, .slice (some ⟨gY, 0, none⟩) n n), (25, a), (26, b), (27, .int .i64 r)] (by repeat (first | exact Sub.nil | refine Sub.cons rfl ?_)) ?_
    exact partB2 p c r a b ((D.next loA).next loB) (rA.low loB) rB hR
end Go.Proofs.Ybulkdiqq
