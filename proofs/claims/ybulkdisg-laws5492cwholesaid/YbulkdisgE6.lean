/-
  E6: link.LawS5492CWhole: the loop over the visitors.
-/
import Derived.Test.YbulkdisgE6b
namespace Go.Proofs.Ybulkdisg
set_option linter.unusedSimpArgs false
set_option linter.unusedVariables false
set_option linter.unnecessarySimpa false
open Go Go.RowKit V
set_option maxRecDepth 100000

theorem made5 (n j : Nat) (hj : j < n) : (madeCells (Value.agg #[.int .i64 0, .int .i64 0, .int .i64 0, .int .i64 0, .int .i64 0]).cells n)[j]? = some (.int .i64 0) := by
  rw [madeCells_get _ _ _ hj]
  have h5 : j % 5 < 5 := Nat.mod_lt _ (by omega)
  show some ((#[Value.int .i64 0, .int .i64 0, .int .i64 0, .int .i64 0, .int .i64 0] : Array Value)[j % 5]!) = _
  rcases (by omega : j % 5 = 0 ∨ j % 5 = 1 ∨ j % 5 = 2 ∨ j % 5 = 3 ∨ j % 5 = 4) with e | e | e | e | e <;> rw [e] <;> rfl

theorem pk_take (np : Nat) (Z : Nat → Nat) (m k : Nat) : ((List.range (k + 1)).map fun j => Z j % np) = ((List.range k).map fun j => Z j % np) ++ [Z k % np] := by
  rw [List.range_succ]; simp

set_option maxHeartbeats 8000000 in
theorem round {h hh : Heap} {np nv lb mb nb cL cM vc k : Nat} {va : Option Addr} {xb vb : Nat → Nat} {PL : Nat → Int} {PM : Nat → Bool} {IA : Nat → Option Addr} {Mi IC : Nat → Nat} {Z : Nat → Nat → Nat} {q : Heap}
    (D : BF h hh np lb mb nb xb PL PM) (hvi : VisIn h va nv IA Mi IC Z) (hnv : nv ≤ 65536) (hlt : k < nv) (I : LI hh q nv k vb xb PL PM (fun i => pkOf np (Z i) (Mi i))) {w0 : World} {Q : Exit → Act → World → Prop} {K : Act → World → Prop}
    (hK : ∀ q' vb' l', LI hh q' nv (k + 1) vb' xb PL PM (fun i => pkOf np (Z i) (Mi i)) → V.Sub [(1, .slice va nv vc), (5, .int .i64 4), (6, .int .i64 np), (7, .slice (some ⟨lb, 0, none⟩) np cL), (8, .slice (some ⟨mb, 0, none⟩) np cM), (10, .slice (some ⟨nb, 0, none⟩) np np), (12, .slice (some ⟨hh.size, 0, none⟩) nv nv), (13, .slice (some ⟨hh.size + 1, 0, none⟩) nv nv), (14, .slice (some ⟨hh.size + 2, 0, none⟩) nv nv), (15, .int .i64 k)] l' → V.Fin 327 w0 K l' q') :
    V.Fin 327 w0 (CW Yba.prog (V.sub (Yba.f3.body.getD .skip) [1, 1, 1, 1, 1, 1, 1, 1, 1, 1, 1, 1, 1, 0, 1, 0, 0, 1, 0, 0]) (Exit.inBlock 5 (Exit.then K Q))) [(1, .slice va nv vc), (5, .int .i64 4), (6, .int .i64 np), (7, .slice (some ⟨lb, 0, none⟩) np cL), (8, .slice (some ⟨mb, 0, none⟩) np cM), (10, .slice (some ⟨nb, 0, none⟩) np np), (12, .slice (some ⟨hh.size, 0, none⟩) nv nv), (13, .slice (some ⟨hh.size + 1, 0, none⟩) nv nv), (14, .slice (some ⟨hh.size + 2, 0, none⟩) nv nv), (15, .int .i64 k)] q := by
  have hnp := D.hnp
  have hh1 := D.h1
  obtain ⟨b, o, hva, hs0, hz0⟩ := hvi k hlt
  have loq : Low h.size h q := D.low.then I.low
  have hs := low_hc loq hs0
  have Dq := D.next I.low
  have plen := pkOf_len np (Z k) (Mi k)
  have plt := pkOf_lt np (Z k) (Mi k) hh1
  have hpk : ∀ m, Mi k = m → pkOf np (Z k) (Mi k) = if m = 0 then [0] else (List.range (min m 4)).map fun j => Z k j % np := fun m hm => by rw [hm]; rfl
  generalize hm : Mi k = m at hs hz0
  have hpk := hpk m hm
  -- idx, its length
  refine c_mid [(1, .slice va nv vc), (5, .int .i64 4), (6, .int .i64 np), (7, .slice (some ⟨lb, 0, none⟩) np cL), (8, .slice (some ⟨mb, 0, none⟩) np cM), (10, .slice (some ⟨nb, 0, none⟩) np np), (12, .slice (some ⟨hh.size, 0, none⟩) nv nv), (13, .slice (some ⟨hh.size + 1, 0, none⟩) nv nv), (14, .slice (some ⟨hh.size + 2, 0, none⟩) nv nv), (15, .int .i64 k), (16, .slice (IA k) m (IC k))] (fun r => q = r) ?_ ?_
  · subst hva
    repeat (first | refine c_seq ?_ | refine c_region ?_ | refine c_block ?_ | refine c_skip ?_ | refine c_exit ?_ | refine c_ret ?_ | refine n_then ?_ | refine n_block ?_ | refine x_then ?_ | refine x_block_eq ?_ | refine x_block_ne rfl ?_ | refine r_then ?_ | refine r_block ?_ | refine s_nil ?_ | refine c_true rfl ?_ | refine c_false rfl ?_ | refine s_pur (p_move rfl) rfl ?_ | refine s_pur (p_assign rfl) rfl ?_ | refine s_pur (p_nil rfl) rfl ?_ | refine s_pur (p_pick_t rfl rfl) rfl ?_ | refine s_pur (p_pick_f rfl rfl) rfl ?_ | refine s_pur (p_len rfl Yba.underlying23) rfl ?_ | refine s_pur (p_idx1 rfl rfl rfl (by omega) Yba.underlying23 Yba.sizeOf46) rfl ?_ | refine s_pur (p_fld (off := 0) rfl Yba.underlying46 rfl Yba.sizeOf44 rfl) rfl ?_ | refine s_pur (p_load rfl Yba.isAgg44 hs) rfl ?_)
    exact m_done rfl (by repeat (first | exact Sub.nil | refine Sub.cons rfl ?_))
  rintro _ rfl
  refine c_mid [(1, .slice va nv vc), (5, .int .i64 4), (6, .int .i64 np), (7, .slice (some ⟨lb, 0, none⟩) np cL), (8, .slice (some ⟨mb, 0, none⟩) np cM), (10, .slice (some ⟨nb, 0, none⟩) np np), (12, .slice (some ⟨hh.size, 0, none⟩) nv nv), (13, .slice (some ⟨hh.size + 1, 0, none⟩) nv nv), (14, .slice (some ⟨hh.size + 2, 0, none⟩) nv nv), (15, .int .i64 k), (16, .slice (IA k) m (IC k)), (17, .int .i64 m)] (fun r => q = r) ?_ ?_
  · repeat (first | refine c_seq ?_ | refine c_region ?_ | refine c_block ?_ | refine c_skip ?_ | refine c_exit ?_ | refine c_ret ?_ | refine n_then ?_ | refine n_block ?_ | refine x_then ?_ | refine x_block_eq ?_ | refine x_block_ne rfl ?_ | refine r_then ?_ | refine r_block ?_ | refine s_nil ?_ | refine c_true rfl ?_ | refine c_false rfl ?_ | refine s_pur (p_move rfl) rfl ?_ | refine s_pur (p_assign rfl) rfl ?_ | refine s_pur (p_nil rfl) rfl ?_ | refine s_pur (p_pick_t rfl rfl) rfl ?_ | refine s_pur (p_pick_f rfl rfl) rfl ?_ | refine s_pur (p_len rfl Yba.underlying44) rfl ?_ | refine s_pur (p_idx1 rfl rfl rfl (by omega) Yba.underlying44 Yba.sizeOf5) rfl ?_)
    exact m_done rfl (by repeat (first | exact Sub.nil | refine Sub.cons rfl ?_))
  rintro _ rfl
  refine c_mid [(1, .slice va nv vc), (5, .int .i64 4), (6, .int .i64 np), (7, .slice (some ⟨lb, 0, none⟩) np cL), (8, .slice (some ⟨mb, 0, none⟩) np cM), (10, .slice (some ⟨nb, 0, none⟩) np np), (12, .slice (some ⟨hh.size, 0, none⟩) nv nv), (13, .slice (some ⟨hh.size + 1, 0, none⟩) nv nv), (14, .slice (some ⟨hh.size + 2, 0, none⟩) nv nv), (15, .int .i64 k), (16, .slice (IA k) m (IC k)), (17, .int .i64 ((min m 4 : Nat) : Int))] (fun r => q = r) ?_ ?_
  · by_cases h4 : 4 < m
    · repeat (first | refine c_seq ?_ | refine c_region ?_ | refine c_block ?_ | refine c_skip ?_ | refine c_exit ?_ | refine c_ret ?_ | refine n_then ?_ | refine n_block ?_ | refine x_then ?_ | refine x_block_eq ?_ | refine x_block_ne rfl ?_ | refine r_then ?_ | refine r_block ?_ | refine s_nil ?_ | refine c_true rfl ?_ | refine c_false rfl ?_ | refine s_pur (p_move rfl) rfl ?_ | refine s_pur (p_assign rfl) rfl ?_ | refine s_pur (p_nil rfl) rfl ?_ | refine s_pur (p_pick_t rfl rfl) rfl ?_ | refine s_pur (p_pick_f rfl rfl) rfl ?_ | refine s_pur (p_lssT rfl rfl (by omega)) rfl ?_ | refine s_pur (p_lssF rfl rfl (by omega)) rfl ?_ | refine s_pur (p_leqT rfl rfl (by omega)) rfl ?_ | refine s_pur (p_leqF rfl rfl (by omega)) rfl ?_ | refine s_pur (p_gtrT rfl rfl (by omega)) rfl ?_ | refine s_pur (p_gtrF rfl rfl (by omega)) rfl ?_ | refine s_pur (p_geqT rfl rfl (by omega)) rfl ?_ | refine s_pur (p_geqF rfl rfl (by omega)) rfl ?_ | refine s_pur (p_eqlT rfl rfl (by omega)) rfl ?_ | refine s_pur (p_eqlF rfl rfl (by omega)) rfl ?_ | refine s_pur (p_neqT rfl rfl (by omega)) rfl ?_ | refine s_pur (p_neqF rfl rfl (by omega)) rfl ?_)
      exact m_done rfl (.cons rfl (.cons rfl (.cons rfl (.cons rfl (.cons rfl (.cons rfl (.cons rfl (.cons rfl (.cons rfl (.cons rfl (.cons rfl (.cons' rfl (int_eq (by omega)) .nil))))))))))))
    · repeat (first | refine c_seq ?_ | refine c_region ?_ | refine c_block ?_ | refine c_skip ?_ | refine c_exit ?_ | refine c_ret ?_ | refine n_then ?_ | refine n_block ?_ | refine x_then ?_ | refine x_block_eq ?_ | refine x_block_ne rfl ?_ | refine r_then ?_ | refine r_block ?_ | refine s_nil ?_ | refine c_true rfl ?_ | refine c_false rfl ?_ | refine s_pur (p_move rfl) rfl ?_ | refine s_pur (p_assign rfl) rfl ?_ | refine s_pur (p_nil rfl) rfl ?_ | refine s_pur (p_pick_t rfl rfl) rfl ?_ | refine s_pur (p_pick_f rfl rfl) rfl ?_ | refine s_pur (p_lssT rfl rfl (by omega)) rfl ?_ | refine s_pur (p_lssF rfl rfl (by omega)) rfl ?_ | refine s_pur (p_leqT rfl rfl (by omega)) rfl ?_ | refine s_pur (p_leqF rfl rfl (by omega)) rfl ?_ | refine s_pur (p_gtrT rfl rfl (by omega)) rfl ?_ | refine s_pur (p_gtrF rfl rfl (by omega)) rfl ?_ | refine s_pur (p_geqT rfl rfl (by omega)) rfl ?_ | refine s_pur (p_geqF rfl rfl (by omega)) rfl ?_ | refine s_pur (p_eqlT rfl rfl (by omega)) rfl ?_ | refine s_pur (p_eqlF rfl rfl (by omega)) rfl ?_ | refine s_pur (p_neqT rfl rfl (by omega)) rfl ?_ | refine s_pur (p_neqF rfl rfl (by omega)) rfl ?_)
      exact m_done rfl (.cons rfl (.cons rfl (.cons rfl (.cons rfl (.cons rfl (.cons rfl (.cons rfl (.cons rfl (.cons rfl (.cons rfl (.cons rfl (.cons' rfl (int_eq (by omega)) .nil))))))))))))
  rintro _ rfl
  obtain ⟨i3, hi3, hz3, hs3, hb3⟩ := info3
  refine c_mid [(1, .slice va nv vc), (5, .int .i64 4), (6, .int .i64 np), (7, .slice (some ⟨lb, 0, none⟩) np cL), (8, .slice (some ⟨mb, 0, none⟩) np cM), (10, .slice (some ⟨nb, 0, none⟩) np np), (12, .slice (some ⟨hh.size, 0, none⟩) nv nv), (13, .slice (some ⟨hh.size + 1, 0, none⟩) nv nv), (14, .slice (some ⟨hh.size + 2, 0, none⟩) nv nv), (15, .int .i64 k), (16, .slice (IA k) m (IC k)), (17, .int .i64 ((min m 4 : Nat) : Int)), (18, .slice (some ⟨q.size, 0, none⟩) 0 4)] (fun r => Low q.size q r ∧ Owns r q.size 3 1 (.slice (some ⟨q.size, 0, none⟩) 0 4) 0 []) ?_ ?_
  · repeat (first | refine c_seq ?_ | refine c_region ?_ | refine c_block ?_ | refine c_skip ?_ | refine c_exit ?_ | refine c_ret ?_ | refine n_then ?_ | refine n_block ?_ | refine x_then ?_ | refine x_block_eq ?_ | refine x_block_ne rfl ?_ | refine r_then ?_ | refine r_block ?_ | refine s_nil ?_ | refine c_true rfl ?_ | refine c_false rfl ?_ | refine s_pur (p_move rfl) rfl ?_ | refine s_pur (p_assign rfl) rfl ?_ | refine s_pur (p_nil rfl) rfl ?_ | refine s_pur (p_pick_t rfl rfl) rfl ?_ | refine s_pur (p_pick_f rfl rfl) rfl ?_)
    refine s_eff (e_make (n := 0) (c := 4) rfl rfl Yba.underlying24 hi3 hz3 (by omega) (by rw [hb3]; omega) (by omega)) rfl ?_
    rintro _ r ⟨rfl, nr⟩
    repeat (first | refine c_seq ?_ | refine c_region ?_ | refine c_block ?_ | refine c_skip ?_ | refine c_exit ?_ | refine c_ret ?_ | refine n_then ?_ | refine n_block ?_ | refine x_then ?_ | refine x_block_eq ?_ | refine x_block_ne rfl ?_ | refine r_then ?_ | refine r_block ?_ | refine s_nil ?_ | refine c_true rfl ?_ | refine c_false rfl ?_ | refine s_pur (p_move rfl) rfl ?_ | refine s_pur (p_assign rfl) rfl ?_ | refine s_pur (p_nil rfl) rfl ?_ | refine s_pur (p_pick_t rfl rfl) rfl ?_ | refine s_pur (p_pick_f rfl rfl) rfl ?_)
    exact m_done ⟨(Low.refl _ _).new nr (Nat.le_refl _), Owns.make0 nr (by simp [madeCells, hs3]) (Nat.le_refl _) (by simp [maxLen])⟩ (by repeat (first | exact Sub.nil | refine Sub.cons rfl ?_))
  rintro r0 ⟨lo0, ow0⟩
  -- the picks
  have tail : ∀ r u, Low q.size q r → Owns r q.size 3 1 u (min m 4) (nts ((List.range (min m 4)).map fun j => Z k j % np)) → ¬ u = .slice none 0 0 →
      V.Fin 327 w0 (CW Yba.prog (V.sub (Yba.f3.body.getD .skip) [1, 1, 1, 1, 1, 1, 1, 1, 1, 1, 1, 1, 1, 0, 1, 0, 0, 1, 0, 0, 1, 1, 1, 1, 1]) (Exit.inBlock 5 (Exit.then K Q))) [(1, .slice va nv vc), (5, .int .i64 4), (6, .int .i64 np), (7, .slice (some ⟨lb, 0, none⟩) np cL), (8, .slice (some ⟨mb, 0, none⟩) np cM), (10, .slice (some ⟨nb, 0, none⟩) np np), (12, .slice (some ⟨hh.size, 0, none⟩) nv nv), (13, .slice (some ⟨hh.size + 1, 0, none⟩) nv nv), (14, .slice (some ⟨hh.size + 2, 0, none⟩) nv nv), (15, .int .i64 k), (18, u)] r := by
    intro r u lor owr nnr
    have sr := lor.size
    by_cases h0 : m = 0
    · have hpk0 : pkOf np (Z k) (Mi k) = [0] := by rw [hpk, if_pos h0]
      have hmin : min m 4 = 0 := by omega
      rw [hmin] at owr
      obtain ⟨gu, cu, rfl, _, _⟩ := owns_nn owr nnr
      refine c_seq ?_
      refine c_seq ?_
      repeat (first | refine c_region ?_ | refine c_block ?_ | refine c_skip ?_ | refine c_exit ?_ | refine c_ret ?_ | refine n_then ?_ | refine n_block ?_ | refine x_then ?_ | refine x_block_eq ?_ | refine x_block_ne rfl ?_ | refine r_then ?_ | refine r_block ?_ | refine s_nil ?_ | refine c_true rfl ?_ | refine c_false rfl ?_ | refine s_pur (p_move rfl) rfl ?_ | refine s_pur (p_assign rfl) rfl ?_ | refine s_pur (p_nil rfl) rfl ?_ | refine s_pur (p_pick_t rfl rfl) rfl ?_ | refine s_pur (p_pick_f rfl rfl) rfl ?_ | refine s_pur (p_len rfl Yba.underlying24) rfl ?_ | refine s_pur (p_idx1 rfl rfl rfl (by omega) Yba.underlying24 Yba.sizeOf3) rfl ?_ | refine s_pur (p_lssT rfl rfl (by omega)) rfl ?_ | refine s_pur (p_lssF rfl rfl (by omega)) rfl ?_ | refine s_pur (p_leqT rfl rfl (by omega)) rfl ?_ | refine s_pur (p_leqF rfl rfl (by omega)) rfl ?_ | refine s_pur (p_gtrT rfl rfl (by omega)) rfl ?_ | refine s_pur (p_gtrF rfl rfl (by omega)) rfl ?_ | refine s_pur (p_geqT rfl rfl (by omega)) rfl ?_ | refine s_pur (p_geqF rfl rfl (by omega)) rfl ?_ | refine s_pur (p_eqlT rfl rfl (by omega)) rfl ?_ | refine s_pur (p_eqlF rfl rfl (by omega)) rfl ?_ | refine s_pur (p_neqT rfl rfl (by omega)) rfl ?_ | refine s_pur (p_neqF rfl rfl (by omega)) rfl ?_)
      refine s_eff (e_slice1 rfl Yba.underlying24 Yba.sizeOf3 Yba.zeroValue3 rfl) rfl ?_
      rintro _ r1 ⟨rfl, n1⟩
      have s1 := n1.size
      refine s_eff (app24 rfl rfl (owr.new n1) (by rw [hc_of n1.at_]; rfl) (by omega) (by omega)) rfl ?_
      rintro u' r2 ⟨ow2, g2, nn2, _⟩
      obtain ⟨g3, c3, rfl, hg3, _⟩ := owns_nn ow2 nn2
      repeat (first | refine c_region ?_ | refine c_block ?_ | refine c_skip ?_ | refine c_exit ?_ | refine c_ret ?_ | refine n_then ?_ | refine n_block ?_ | refine x_then ?_ | refine x_block_eq ?_ | refine x_block_ne rfl ?_ | refine r_then ?_ | refine r_block ?_ | refine s_nil ?_ | refine c_true rfl ?_ | refine c_false rfl ?_ | refine s_pur (p_move rfl) rfl ?_ | refine s_pur (p_assign rfl) rfl ?_ | refine s_pur (p_nil rfl) rfl ?_ | refine s_pur (p_pick_t rfl rfl) rfl ?_ | refine s_pur (p_pick_f rfl rfl) rfl ?_)
      refine cut [(1, .slice va nv vc), (5, .int .i64 4), (6, .int .i64 np), (7, .slice (some ⟨lb, 0, none⟩) np cL), (8, .slice (some ⟨mb, 0, none⟩) np cM), (10, .slice (some ⟨nb, 0, none⟩) np np), (12, .slice (some ⟨hh.size, 0, none⟩) nv nv), (13, .slice (some ⟨hh.size + 1, 0, none⟩) nv nv), (14, .slice (some ⟨hh.size + 2, 0, none⟩) nv nv), (15, .int .i64 k), (18, .slice (some ⟨g3, 0, none⟩) (pkOf np (Z k) (Mi k)).length c3)] (.cons rfl (.cons rfl (.cons rfl (.cons rfl (.cons rfl (.cons rfl (.cons rfl (.cons rfl (.cons rfl (.cons rfl (.cons' rfl (by rw [hpk0]; rfl) .nil))))))))))) ?_
      refine round3 D hnv hlt I rfl plen.1 plen.2 plt ((lor.new n1 (by omega)).grow g2 (by omega) (fun g hg => owr.base g hg)) ?_ hg3 hK
      intro j hj
      rw [hpk0] at hj ⊢
      have hj0 : j = 0 := by simpa using hj
      subst hj0
      rw [Nat.zero_add]
      exact ow2.cell rfl rfl
    · have hpk0 : pkOf np (Z k) (Mi k) = (List.range (min m 4)).map fun j => Z k j % np := by rw [hpk, if_neg h0]
      have hl0 : (pkOf np (Z k) (Mi k)).length = min m 4 := by rw [hpk0]; simp
      rw [← hpk0] at owr
      obtain ⟨gu, cu, rfl, hgu, _⟩ := owns_nn owr nnr
      refine c_seq ?_
      refine c_seq ?_
      repeat (first | refine c_region ?_ | refine c_block ?_ | refine c_skip ?_ | refine c_exit ?_ | refine c_ret ?_ | refine n_then ?_ | refine n_block ?_ | refine x_then ?_ | refine x_block_eq ?_ | refine x_block_ne rfl ?_ | refine r_then ?_ | refine r_block ?_ | refine s_nil ?_ | refine c_true rfl ?_ | refine c_false rfl ?_ | refine s_pur (p_move rfl) rfl ?_ | refine s_pur (p_assign rfl) rfl ?_ | refine s_pur (p_nil rfl) rfl ?_ | refine s_pur (p_pick_t rfl rfl) rfl ?_ | refine s_pur (p_pick_f rfl rfl) rfl ?_ | refine s_pur (p_len rfl Yba.underlying24) rfl ?_ | refine s_pur (p_idx1 rfl rfl rfl (by omega) Yba.underlying24 Yba.sizeOf3) rfl ?_ | refine s_pur (p_lssT rfl rfl (by omega)) rfl ?_ | refine s_pur (p_lssF rfl rfl (by omega)) rfl ?_ | refine s_pur (p_leqT rfl rfl (by omega)) rfl ?_ | refine s_pur (p_leqF rfl rfl (by omega)) rfl ?_ | refine s_pur (p_gtrT rfl rfl (by omega)) rfl ?_ | refine s_pur (p_gtrF rfl rfl (by omega)) rfl ?_ | refine s_pur (p_geqT rfl rfl (by omega)) rfl ?_ | refine s_pur (p_geqF rfl rfl (by omega)) rfl ?_ | refine s_pur (p_eqlT rfl rfl (by omega)) rfl ?_ | refine s_pur (p_eqlF rfl rfl (by omega)) rfl ?_ | refine s_pur (p_neqT rfl rfl (by omega)) rfl ?_ | refine s_pur (p_neqF rfl rfl (by omega)) rfl ?_)
      refine cut [(1, .slice va nv vc), (5, .int .i64 4), (6, .int .i64 np), (7, .slice (some ⟨lb, 0, none⟩) np cL), (8, .slice (some ⟨mb, 0, none⟩) np cM), (10, .slice (some ⟨nb, 0, none⟩) np np), (12, .slice (some ⟨hh.size, 0, none⟩) nv nv), (13, .slice (some ⟨hh.size + 1, 0, none⟩) nv nv), (14, .slice (some ⟨hh.size + 2, 0, none⟩) nv nv), (15, .int .i64 k), (18, .slice (some ⟨gu, 0, none⟩) (pkOf np (Z k) (Mi k)).length cu)] (.cons rfl (.cons rfl (.cons rfl (.cons rfl (.cons rfl (.cons rfl (.cons rfl (.cons rfl (.cons rfl (.cons rfl (.cons' rfl (by rw [hl0]) .nil))))))))))) ?_
      refine round3 D hnv hlt I rfl plen.1 plen.2 plt lor ?_ hgu hK
      intro j hj
      rw [Nat.zero_add]
      exact owr.cell rfl (nts_get _ j hj)
  refine c_seq ?_
  refine c_seq ?_
  repeat (first | refine c_region ?_ | refine c_block ?_ | refine c_skip ?_ | refine c_exit ?_ | refine c_ret ?_ | refine n_then ?_ | refine n_block ?_ | refine x_then ?_ | refine x_block_eq ?_ | refine x_block_ne rfl ?_ | refine r_then ?_ | refine r_block ?_ | refine s_nil ?_ | refine c_true rfl ?_ | refine c_false rfl ?_ | refine s_pur (p_move rfl) rfl ?_ | refine s_pur (p_assign rfl) rfl ?_ | refine s_pur (p_nil rfl) rfl ?_ | refine s_pur (p_pick_t rfl rfl) rfl ?_ | refine s_pur (p_pick_f rfl rfl) rfl ?_)
  refine c_loop (fun x : Nat × Value => [(1, .slice va nv vc), (5, .int .i64 4), (6, .int .i64 np), (7, .slice (some ⟨lb, 0, none⟩) np cL), (8, .slice (some ⟨mb, 0, none⟩) np cM), (10, .slice (some ⟨nb, 0, none⟩) np np), (12, .slice (some ⟨hh.size, 0, none⟩) nv nv), (13, .slice (some ⟨hh.size + 1, 0, none⟩) nv nv), (14, .slice (some ⟨hh.size + 2, 0, none⟩) nv nv), (15, .int .i64 k), (16, .slice (IA k) m (IC k)), (17, .int .i64 ((min m 4 : Nat) : Int)), (18, x.2), (19, .int .i64 x.1)])
    (fun x r => x.1 ≤ min m 4 ∧ Low q.size q r ∧ Owns r q.size 3 1 x.2 x.1 (nts ((List.range x.1).map fun j => Z k j % np)) ∧ ¬ x.2 = .slice none 0 0) (fun x => min m 4 - x.1) (0, .slice (some ⟨q.size, 0, none⟩) 0 4) ⟨by omega, lo0, ow0, by simp⟩ (by repeat (first | exact Sub.nil | refine Sub.cons rfl ?_)) ?_
  rintro ⟨j, u⟩ r ⟨hj, lor, owr, nnr⟩
  simp only at hj owr nnr
  refine cut [(1, .slice va nv vc), (5, .int .i64 4), (6, .int .i64 np), (7, .slice (some ⟨lb, 0, none⟩) np cL), (8, .slice (some ⟨mb, 0, none⟩) np cM), (10, .slice (some ⟨nb, 0, none⟩) np np), (12, .slice (some ⟨hh.size, 0, none⟩) nv nv), (13, .slice (some ⟨hh.size + 1, 0, none⟩) nv nv), (14, .slice (some ⟨hh.size + 2, 0, none⟩) nv nv), (15, .int .i64 k), (16, .slice (IA k) m (IC k)), (17, .int .i64 ((min m 4 : Nat) : Int)), (18, u), (19, .int .i64 j)] Sub.refl ?_
  by_cases hjl : j < min m 4
  · obtain ⟨ib, io, ei, hz, hzl⟩ := hz0 j (by omega)
    have hz' := low_hc (loq.then lor) hz
    rw [ei]
    have hmod : Z k j % np < np := Nat.mod_lt _ (by omega)
    repeat (first | refine c_seq ?_ | refine c_region ?_ | refine c_block ?_ | refine c_skip ?_ | refine c_exit ?_ | refine c_ret ?_ | refine n_then ?_ | refine n_block ?_ | refine x_then ?_ | refine x_block_eq ?_ | refine x_block_ne rfl ?_ | refine r_then ?_ | refine r_block ?_ | refine s_nil ?_ | refine c_true rfl ?_ | refine c_false rfl ?_ | refine s_pur (p_move rfl) rfl ?_ | refine s_pur (p_assign rfl) rfl ?_ | refine s_pur (p_nil rfl) rfl ?_ | refine s_pur (p_pick_t rfl rfl) rfl ?_ | refine s_pur (p_pick_f rfl rfl) rfl ?_ | refine s_pur (p_len rfl Yba.underlying44) rfl ?_ | refine s_pur (p_idx1 rfl rfl rfl (by omega) Yba.underlying44 Yba.sizeOf5) rfl ?_ | refine s_pur (p_load rfl Yba.isAgg5 (by assumption)) rfl ?_ | refine s_pur (p_conv64 rfl Yba.underlying5 Yba.underlying3 (by omega) (by omega)) rfl ?_ | refine s_pur (p_remN rfl rfl (by omega) rfl) rfl ?_ | refine s_pur (p_lssT rfl rfl (by omega)) rfl ?_ | refine s_pur (p_lssF rfl rfl (by omega)) rfl ?_ | refine s_pur (p_leqT rfl rfl (by omega)) rfl ?_ | refine s_pur (p_leqF rfl rfl (by omega)) rfl ?_ | refine s_pur (p_gtrT rfl rfl (by omega)) rfl ?_ | refine s_pur (p_gtrF rfl rfl (by omega)) rfl ?_ | refine s_pur (p_geqT rfl rfl (by omega)) rfl ?_ | refine s_pur (p_geqF rfl rfl (by omega)) rfl ?_ | refine s_pur (p_eqlT rfl rfl (by omega)) rfl ?_ | refine s_pur (p_eqlF rfl rfl (by omega)) rfl ?_ | refine s_pur (p_neqT rfl rfl (by omega)) rfl ?_ | refine s_pur (p_neqF rfl rfl (by omega)) rfl ?_)
    refine s_eff (e_slice1 rfl Yba.underlying24 Yba.sizeOf3 Yba.zeroValue3 rfl) rfl ?_
    rintro _ r1 ⟨rfl, n1⟩
    have s1 := n1.size
    have sr := lor.size
    refine s_eff (app24 rfl rfl (owr.new n1) (by rw [hc_of n1.at_]; rfl) (by omega) (by omega)) rfl ?_
    rintro u' r2 ⟨ow2, g2, nn2, _⟩
    repeat (first | refine c_seq ?_ | refine c_region ?_ | refine c_block ?_ | refine c_skip ?_ | refine c_exit ?_ | refine c_ret ?_ | refine n_then ?_ | refine n_block ?_ | refine x_then ?_ | refine x_block_eq ?_ | refine x_block_ne rfl ?_ | refine r_then ?_ | refine r_block ?_ | refine s_nil ?_ | refine c_true rfl ?_ | refine c_false rfl ?_ | refine s_pur (p_move rfl) rfl ?_ | refine s_pur (p_assign rfl) rfl ?_ | refine s_pur (p_nil rfl) rfl ?_ | refine s_pur (p_pick_t rfl rfl) rfl ?_ | refine s_pur (p_pick_f rfl rfl) rfl ?_ | refine s_pur (p_add rfl rfl rfl (by omega) (by omega)) rfl ?_)
    refine c_next (j + 1, u') ⟨hjl, (lor.new n1 (by omega)).grow g2 (by omega) (fun g hg => owr.base g hg), ?_, nn2⟩ (by repeat (first | exact Sub.nil | refine Sub.cons rfl ?_)) (by simp only; omega)
    simp only
    rw [pk_take np (Z k) m, nts_snoc]
    exact ow2
  · have : j = min m 4 := by omega
    subst this
    refine c_seq ?_
    refine c_seq ?_
    repeat (first | refine c_region ?_ | refine c_block ?_ | refine c_skip ?_ | refine c_exit ?_ | refine c_ret ?_ | refine n_then ?_ | refine n_block ?_ | refine x_then ?_ | refine x_block_eq ?_ | refine x_block_ne rfl ?_ | refine r_then ?_ | refine r_block ?_ | refine s_nil ?_ | refine c_true rfl ?_ | refine c_false rfl ?_ | refine s_pur (p_move rfl) rfl ?_ | refine s_pur (p_assign rfl) rfl ?_ | refine s_pur (p_nil rfl) rfl ?_ | refine s_pur (p_pick_t rfl rfl) rfl ?_ | refine s_pur (p_pick_f rfl rfl) rfl ?_ | refine s_pur (p_lssT rfl rfl (by omega)) rfl ?_ | refine s_pur (p_lssF rfl rfl (by omega)) rfl ?_ | refine s_pur (p_leqT rfl rfl (by omega)) rfl ?_ | refine s_pur (p_leqF rfl rfl (by omega)) rfl ?_ | refine s_pur (p_gtrT rfl rfl (by omega)) rfl ?_ | refine s_pur (p_gtrF rfl rfl (by omega)) rfl ?_ | refine s_pur (p_geqT rfl rfl (by omega)) rfl ?_ | refine s_pur (p_geqF rfl rfl (by omega)) rfl ?_ | refine s_pur (p_eqlT rfl rfl (by omega)) rfl ?_ | refine s_pur (p_eqlF rfl rfl (by omega)) rfl ?_ | refine s_pur (p_neqT rfl rfl (by omega)) rfl ?_ | refine s_pur (p_neqF rfl rfl (by omega)) rfl ?_)
    refine cut [(1, .slice va nv vc), (5, .int .i64 4), (6, .int .i64 np), (7, .slice (some ⟨lb, 0, none⟩) np cL), (8, .slice (some ⟨mb, 0, none⟩) np cM), (10, .slice (some ⟨nb, 0, none⟩) np np), (12, .slice (some ⟨hh.size, 0, none⟩) nv nv), (13, .slice (some ⟨hh.size + 1, 0, none⟩) nv nv), (14, .slice (some ⟨hh.size + 2, 0, none⟩) nv nv), (15, .int .i64 k), (18, u)] (by repeat (first | exact Sub.nil | refine Sub.cons rfl ?_)) ?_
    exact tail r u lor owr nnr

set_option maxHeartbeats 8000000 in
theorem partC {h hh : Heap} {np nv lb mb nb cL cM vc : Nat} {va : Option Addr} {xb : Nat → Nat} {PL : Nat → Int} {PM : Nat → Bool} {IA : Nat → Option Addr} {Mi IC : Nat → Nat} {Z : Nat → Nat → Nat}
    (D : BF h hh np lb mb nb xb PL PM) (hvi : VisIn h va nv IA Mi IC Z) (hnv : nv ≤ 65536) {w0 : World} {R : Value → Heap → Prop} (hR : ∀ h', Low h.size h h' → R (.bool true) h') :
    V.Fin 327 w0 (CW Yba.prog (V.sub (Yba.f3.body.getD .skip) [1, 1, 1, 1, 1, 1, 1, 1, 1, 1]) (bodyPost Yba.prog Yba.f3 (PostR w0 R))) [(1, .slice va nv vc), (5, .int .i64 4), (6, .int .i64 np), (7, .slice (some ⟨lb, 0, none⟩) np cL), (8, .slice (some ⟨mb, 0, none⟩) np cM), (10, .slice (some ⟨nb, 0, none⟩) np np)] hh := by
  have hnp := D.hnp
  obtain ⟨i47, hi47, hz47, hs47, hb47⟩ := info47
  obtain ⟨i53, hi53, hz53, hs53, hb53⟩ := info53
  refine c_mid [(1, .slice va nv vc), (5, .int .i64 4), (6, .int .i64 np), (7, .slice (some ⟨lb, 0, none⟩) np cL), (8, .slice (some ⟨mb, 0, none⟩) np cM), (10, .slice (some ⟨nb, 0, none⟩) np np), (12, .slice (some ⟨hh.size, 0, none⟩) nv nv)] (fun x => Low hh.size hh x ∧ x.size = hh.size + 1 ∧ PtrAt x hh.size 47 nv 0 (fun _ => 0)) ?_ ?_
  · repeat (first | refine c_seq ?_ | refine c_region ?_ | refine c_block ?_ | refine c_skip ?_ | refine c_exit ?_ | refine c_ret ?_ | refine n_then ?_ | refine n_block ?_ | refine x_then ?_ | refine x_block_eq ?_ | refine x_block_ne rfl ?_ | refine r_then ?_ | refine r_block ?_ | refine s_nil ?_ | refine c_true rfl ?_ | refine c_false rfl ?_ | refine s_pur (p_move rfl) rfl ?_ | refine s_pur (p_assign rfl) rfl ?_ | refine s_pur (p_nil rfl) rfl ?_ | refine s_pur (p_pick_t rfl rfl) rfl ?_ | refine s_pur (p_pick_f rfl rfl) rfl ?_ | refine s_pur (p_len rfl Yba.underlying23) rfl ?_ | refine s_pur (p_idx1 rfl rfl rfl (by omega) Yba.underlying23 Yba.sizeOf46) rfl ?_)
    refine s_eff (e_make rfl rfl Yba.underlying42 hi47 hz47 (Nat.le_refl _) (by rw [hb47]; omega) (by omega)) rfl ?_
    rintro _ x ⟨rfl, nx⟩
    repeat (first | refine c_seq ?_ | refine c_region ?_ | refine c_block ?_ | refine c_skip ?_ | refine c_exit ?_ | refine c_ret ?_ | refine n_then ?_ | refine n_block ?_ | refine x_then ?_ | refine x_block_eq ?_ | refine x_block_ne rfl ?_ | refine r_then ?_ | refine r_block ?_ | refine s_nil ?_ | refine c_true rfl ?_ | refine c_false rfl ?_ | refine s_pur (p_move rfl) rfl ?_ | refine s_pur (p_assign rfl) rfl ?_ | refine s_pur (p_nil rfl) rfl ?_ | refine s_pur (p_pick_t rfl rfl) rfl ?_ | refine s_pur (p_pick_f rfl rfl) rfl ?_)
    exact m_done ⟨(Low.refl _ _).new nx (Nat.le_refl _), nx.size, _, nx.at_, by simp [madeCells, hs47], fun i hi => by omega⟩ (by repeat (first | exact Sub.nil | refine Sub.cons rfl ?_))
  rintro r1 ⟨lo1, sz1, w1⟩
  refine c_mid [(1, .slice va nv vc), (5, .int .i64 4), (6, .int .i64 np), (7, .slice (some ⟨lb, 0, none⟩) np cL), (8, .slice (some ⟨mb, 0, none⟩) np cM), (10, .slice (some ⟨nb, 0, none⟩) np np), (12, .slice (some ⟨hh.size, 0, none⟩) nv nv), (13, .slice (some ⟨hh.size + 1, 0, none⟩) nv nv)] (fun x => Low hh.size hh x ∧ x.size = hh.size + 2 ∧ PtrAt x hh.size 47 nv 0 (fun _ => 0) ∧ PtrAt x (hh.size + 1) 47 nv 0 (fun _ => 0)) ?_ ?_
  · repeat (first | refine c_seq ?_ | refine c_region ?_ | refine c_block ?_ | refine c_skip ?_ | refine c_exit ?_ | refine c_ret ?_ | refine n_then ?_ | refine n_block ?_ | refine x_then ?_ | refine x_block_eq ?_ | refine x_block_ne rfl ?_ | refine r_then ?_ | refine r_block ?_ | refine s_nil ?_ | refine c_true rfl ?_ | refine c_false rfl ?_ | refine s_pur (p_move rfl) rfl ?_ | refine s_pur (p_assign rfl) rfl ?_ | refine s_pur (p_nil rfl) rfl ?_ | refine s_pur (p_pick_t rfl rfl) rfl ?_ | refine s_pur (p_pick_f rfl rfl) rfl ?_ | refine s_pur (p_len rfl Yba.underlying23) rfl ?_ | refine s_pur (p_idx1 rfl rfl rfl (by omega) Yba.underlying23 Yba.sizeOf46) rfl ?_)
    refine s_eff (e_make rfl rfl Yba.underlying42 hi47 hz47 (Nat.le_refl _) (by rw [hb47]; omega) (by omega)) rfl ?_
    rintro _ x ⟨rfl, nx⟩
    repeat (first | refine c_seq ?_ | refine c_region ?_ | refine c_block ?_ | refine c_skip ?_ | refine c_exit ?_ | refine c_ret ?_ | refine n_then ?_ | refine n_block ?_ | refine x_then ?_ | refine x_block_eq ?_ | refine x_block_ne rfl ?_ | refine r_then ?_ | refine r_block ?_ | refine s_nil ?_ | refine c_true rfl ?_ | refine c_false rfl ?_ | refine s_pur (p_move rfl) rfl ?_ | refine s_pur (p_assign rfl) rfl ?_ | refine s_pur (p_nil rfl) rfl ?_ | refine s_pur (p_pick_t rfl rfl) rfl ?_ | refine s_pur (p_pick_f rfl rfl) rfl ?_)
    rw [sz1]
    exact m_done ⟨lo1.new nx (by omega), by have := nx.size; omega, w1.keep (nx.other _ (by omega)), _, sz1 ▸ nx.at_, by simp [madeCells, hs47], fun i hi => by omega⟩ (by repeat (first | exact Sub.nil | refine Sub.cons rfl ?_))
  rintro r2 ⟨lo2, sz2, w2, f2⟩
  refine c_mid [(1, .slice va nv vc), (5, .int .i64 4), (6, .int .i64 np), (7, .slice (some ⟨lb, 0, none⟩) np cL), (8, .slice (some ⟨mb, 0, none⟩) np cM), (10, .slice (some ⟨nb, 0, none⟩) np np), (12, .slice (some ⟨hh.size, 0, none⟩) nv nv), (13, .slice (some ⟨hh.size + 1, 0, none⟩) nv nv), (14, .slice (some ⟨hh.size + 2, 0, none⟩) nv nv)] (fun x => LI hh x nv 0 (fun _ => 0) xb PL PM (fun i => pkOf np (Z i) (Mi i))) ?_ ?_
  · repeat (first | refine c_seq ?_ | refine c_region ?_ | refine c_block ?_ | refine c_skip ?_ | refine c_exit ?_ | refine c_ret ?_ | refine n_then ?_ | refine n_block ?_ | refine x_then ?_ | refine x_block_eq ?_ | refine x_block_ne rfl ?_ | refine r_then ?_ | refine r_block ?_ | refine s_nil ?_ | refine c_true rfl ?_ | refine c_false rfl ?_ | refine s_pur (p_move rfl) rfl ?_ | refine s_pur (p_assign rfl) rfl ?_ | refine s_pur (p_nil rfl) rfl ?_ | refine s_pur (p_pick_t rfl rfl) rfl ?_ | refine s_pur (p_pick_f rfl rfl) rfl ?_ | refine s_pur (p_len rfl Yba.underlying23) rfl ?_ | refine s_pur (p_idx1 rfl rfl rfl (by omega) Yba.underlying23 Yba.sizeOf46) rfl ?_)
    refine s_eff (e_make rfl rfl Yba.underlying43 hi53 hz53 (Nat.le_refl _) (by rw [hb53]; omega) (by omega)) rfl ?_
    rintro _ x ⟨rfl, nx⟩
    repeat (first | refine c_seq ?_ | refine c_region ?_ | refine c_block ?_ | refine c_skip ?_ | refine c_exit ?_ | refine c_ret ?_ | refine n_then ?_ | refine n_block ?_ | refine x_then ?_ | refine x_block_eq ?_ | refine x_block_ne rfl ?_ | refine r_then ?_ | refine r_block ?_ | refine s_nil ?_ | refine c_true rfl ?_ | refine c_false rfl ?_ | refine s_pur (p_move rfl) rfl ?_ | refine s_pur (p_assign rfl) rfl ?_ | refine s_pur (p_nil rfl) rfl ?_ | refine s_pur (p_pick_t rfl rfl) rfl ?_ | refine s_pur (p_pick_f rfl rfl) rfl ?_)
    rw [sz2]
    refine m_done ⟨lo2.new nx (by omega), w2.keep (nx.other _ (by omega)), f2.keep (nx.other _ (by omega)), ⟨_, sz2 ▸ nx.at_, by simp [madeCells, hs53], fun i hi t ht => ?_⟩, fun i hi => by omega, by have := nx.size; omega⟩ (by repeat (first | exact Sub.nil | refine Sub.cons rfl ?_))
    rw [made5 _ _ (by rw [hs53]; omega)]
    simp
  rintro r3 I3
  refine c_seq ?_
  repeat (first | refine c_seq ?_ | refine c_region ?_ | refine c_block ?_ | refine c_skip ?_ | refine c_exit ?_ | refine c_ret ?_ | refine n_then ?_ | refine n_block ?_ | refine x_then ?_ | refine x_block_eq ?_ | refine x_block_ne rfl ?_ | refine r_then ?_ | refine r_block ?_ | refine s_nil ?_ | refine c_true rfl ?_ | refine c_false rfl ?_ | refine s_pur (p_move rfl) rfl ?_ | refine s_pur (p_assign rfl) rfl ?_ | refine s_pur (p_nil rfl) rfl ?_ | refine s_pur (p_pick_t rfl rfl) rfl ?_ | refine s_pur (p_pick_f rfl rfl) rfl ?_)
  refine c_loop (fun x : Nat × (Nat → Nat) => [(1, .slice va nv vc), (5, .int .i64 4), (6, .int .i64 np), (7, .slice (some ⟨lb, 0, none⟩) np cL), (8, .slice (some ⟨mb, 0, none⟩) np cM), (10, .slice (some ⟨nb, 0, none⟩) np np), (12, .slice (some ⟨hh.size, 0, none⟩) nv nv), (13, .slice (some ⟨hh.size + 1, 0, none⟩) nv nv), (14, .slice (some ⟨hh.size + 2, 0, none⟩) nv nv), (15, .int .i64 x.1)]) (fun x y => x.1 ≤ nv ∧ LI hh y nv x.1 x.2 xb PL PM (fun i => pkOf np (Z i) (Mi i))) (fun x => nv - x.1) (0, fun _ => 0) ⟨by omega, I3⟩ (by repeat (first | exact Sub.nil | refine Sub.cons rfl ?_)) ?_
  rintro ⟨k, vb⟩ q ⟨hk, I⟩
  simp only at hk I
  refine cut [(1, .slice va nv vc), (5, .int .i64 4), (6, .int .i64 np), (7, .slice (some ⟨lb, 0, none⟩) np cL), (8, .slice (some ⟨mb, 0, none⟩) np cM), (10, .slice (some ⟨nb, 0, none⟩) np np), (12, .slice (some ⟨hh.size, 0, none⟩) nv nv), (13, .slice (some ⟨hh.size + 1, 0, none⟩) nv nv), (14, .slice (some ⟨hh.size + 2, 0, none⟩) nv nv), (15, .int .i64 k)] Sub.refl ?_
  by_cases hlt : k < nv
  · refine c_seq ?_
    refine c_seq ?_
    repeat (first | refine c_region ?_ | refine c_block ?_ | refine c_skip ?_ | refine c_exit ?_ | refine c_ret ?_ | refine n_then ?_ | refine n_block ?_ | refine x_then ?_ | refine x_block_eq ?_ | refine x_block_ne rfl ?_ | refine r_then ?_ | refine r_block ?_ | refine s_nil ?_ | refine c_true rfl ?_ | refine c_false rfl ?_ | refine s_pur (p_move rfl) rfl ?_ | refine s_pur (p_assign rfl) rfl ?_ | refine s_pur (p_nil rfl) rfl ?_ | refine s_pur (p_pick_t rfl rfl) rfl ?_ | refine s_pur (p_pick_f rfl rfl) rfl ?_ | refine s_pur (p_len rfl Yba.underlying23) rfl ?_ | refine s_pur (p_idx1 rfl rfl rfl (by omega) Yba.underlying23 Yba.sizeOf46) rfl ?_ | refine s_pur (p_lssT rfl rfl (by omega)) rfl ?_ | refine s_pur (p_lssF rfl rfl (by omega)) rfl ?_ | refine s_pur (p_leqT rfl rfl (by omega)) rfl ?_ | refine s_pur (p_leqF rfl rfl (by omega)) rfl ?_ | refine s_pur (p_gtrT rfl rfl (by omega)) rfl ?_ | refine s_pur (p_gtrF rfl rfl (by omega)) rfl ?_ | refine s_pur (p_geqT rfl rfl (by omega)) rfl ?_ | refine s_pur (p_geqF rfl rfl (by omega)) rfl ?_ | refine s_pur (p_eqlT rfl rfl (by omega)) rfl ?_ | refine s_pur (p_eqlF rfl rfl (by omega)) rfl ?_ | refine s_pur (p_neqT rfl rfl (by omega)) rfl ?_ | refine s_pur (p_neqF rfl rfl (by omega)) rfl ?_)
    refine c_seq ?_
    refine c_block ?_
    refine cut [(1, .slice va nv vc), (5, .int .i64 4), (6, .int .i64 np), (7, .slice (some ⟨lb, 0, none⟩) np cL), (8, .slice (some ⟨mb, 0, none⟩) np cM), (10, .slice (some ⟨nb, 0, none⟩) np np), (12, .slice (some ⟨hh.size, 0, none⟩) nv nv), (13, .slice (some ⟨hh.size + 1, 0, none⟩) nv nv), (14, .slice (some ⟨hh.size + 2, 0, none⟩) nv nv), (15, .int .i64 k)] (by repeat (first | exact Sub.nil | refine Sub.cons rfl ?_)) ?_
    refine round D hvi hnv hlt I ?_
    intro q' vb' l' I' hs
    refine cut _ hs ?_
    repeat (first | refine c_seq ?_ | refine c_region ?_ | refine c_block ?_ | refine c_skip ?_ | refine c_exit ?_ | refine c_ret ?_ | refine n_then ?_ | refine n_block ?_ | refine x_then ?_ | refine x_block_eq ?_ | refine x_block_ne rfl ?_ | refine r_then ?_ | refine r_block ?_ | refine s_nil ?_ | refine c_true rfl ?_ | refine c_false rfl ?_ | refine s_pur (p_move rfl) rfl ?_ | refine s_pur (p_assign rfl) rfl ?_ | refine s_pur (p_nil rfl) rfl ?_ | refine s_pur (p_pick_t rfl rfl) rfl ?_ | refine s_pur (p_pick_f rfl rfl) rfl ?_ | refine s_pur (p_add rfl rfl rfl (by omega) (by omega)) rfl ?_)
    exact c_next (k + 1, vb') ⟨hlt, I'⟩ (by repeat (first | exact Sub.nil | refine Sub.cons rfl ?_)) (by simp only; omega)
  · have : k = nv := by omega
    subst this
    refine c_seq ?_
    refine c_seq ?_
    repeat (first | refine c_region ?_ | refine c_block ?_ | refine c_skip ?_ | refine c_exit ?_ | refine c_ret ?_ | refine n_then ?_ | refine n_block ?_ | refine x_then ?_ | refine x_block_eq ?_ | refine x_block_ne rfl ?_ | refine r_then ?_ | refine r_block ?_ | refine s_nil ?_ | refine c_true rfl ?_ | refine c_false rfl ?_ | refine s_pur (p_move rfl) rfl ?_ | refine s_pur (p_assign rfl) rfl ?_ | refine s_pur (p_nil rfl) rfl ?_ | refine s_pur (p_pick_t rfl rfl) rfl ?_ | refine s_pur (p_pick_f rfl rfl) rfl ?_ | refine s_pur (p_len rfl Yba.underlying23) rfl ?_ | refine s_pur (p_idx1 rfl rfl rfl (by omega) Yba.underlying23 Yba.sizeOf46) rfl ?_ | refine s_pur (p_lssT rfl rfl (by omega)) rfl ?_ | refine s_pur (p_lssF rfl rfl (by omega)) rfl ?_ | refine s_pur (p_leqT rfl rfl (by omega)) rfl ?_ | refine s_pur (p_leqF rfl rfl (by omega)) rfl ?_ | refine s_pur (p_gtrT rfl rfl (by omega)) rfl ?_ | refine s_pur (p_gtrF rfl rfl (by omega)) rfl ?_ | refine s_pur (p_geqT rfl rfl (by omega)) rfl ?_ | refine s_pur (p_geqF rfl rfl (by omega)) rfl ?_ | refine s_pur (p_eqlT rfl rfl (by omega)) rfl ?_ | refine s_pur (p_eqlF rfl rfl (by omega)) rfl ?_ | refine s_pur (p_neqT rfl rfl (by omega)) rfl ?_ | refine s_pur (p_neqF rfl rfl (by omega)) rfl ?_)
    have hpl : ∀ i, 1 ≤ (pkOf np (Z i) (Mi i)).length ∧ (pkOf np (Z i) (Mi i)).length ≤ 4 := fun i => pkOf_len _ _ _
    have Dq := D.next I.low
    refine cut [(6, .int .i64 np), (7, .slice (some ⟨lb, 0, none⟩) np cL), (8, .slice (some ⟨mb, 0, none⟩) np cM), (10, .slice (some ⟨nb, 0, none⟩) np np), (12, .slice (some ⟨hh.size, 0, none⟩) k k), (13, .slice (some ⟨hh.size + 1, 0, none⟩) k k), (14, .slice (some ⟨hh.size + 2, 0, none⟩) k k)] (by repeat (first | exact Sub.nil | refine Sub.cons rfl ?_)) ?_
    refine partD (L := fun i j => PL ((pkOf np (Z i) (Mi i)).getD j 0)) (M := fun i j => PM ((pkOf np (Z i) (Mi i)).getD j 0)) (len := fun i => (pkOf np (Z i) (Mi i)).length) (row := fun i => rowOf PL PM (pkOf np (Z i) (Mi i))) (vb := vb)
      ⟨Dq.low, Dq.lk, Dq.mm, Dq.nt, fun i hi => I.w.hc i hi, fun i hi => I.f.hc i hi, ?_, ?_, rfl, hnp, hnv, D.h1⟩ hR
    · intro i hi c hc5
      obtain ⟨cr, h1, h2, h3⟩ := I.r
      rw [hc_of h1, Nat.zero_add, h3 i hi c hc5]
      simp only [hi, if_true]
    · intro i hi
      refine ⟨?_, hpl i⟩
      obtain ⟨_, nb', _, e1, e2⟩ := I.v i hi
      refine ⟨nb', fun j => xb ((pkOf np (Z i) (Mi i)).getD j 0), e1, fun j hj => ⟨e2 j hj, ?_⟩⟩
      have hin : (pkOf np (Z i) (Mi i)).getD j 0 < np := by rw [getD_ltN _ j hj]; exact pkOf_lt _ _ _ D.h1 _ (List.getElem_mem _)
      exact ⟨(Dq.nt _ hin).2.1, (Dq.nt _ hin).2.2⟩
end Go.Proofs.Ybulkdisg
