/-
  E3: lobby.crowded.
-/
import Derived.Test.YbulkdisgE2
namespace Go.Proofs.Ybulkdisg
set_option linter.unusedSimpArgs false
set_option linter.unusedVariables false
set_option linter.unnecessarySimpa false
open Go Go.RowKit V
set_option maxRecDepth 100000

/-- The first of those whose row is the greatest. -/
def bestTo (r : Nat → Nat → Int) : Nat → Option Nat
  | 0 => none
  | k + 1 => match bestTo r k with
    | none => some k
    | some b => if gtF (r k) (r b) 5 0 then some k else some b
theorem bestTo_lt (r : Nat → Nat → Int) : ∀ k b, bestTo r k = some b → b < k
  | 0, b, h => by simp [bestTo] at h
  | k + 1, b, h => by
    unfold bestTo at h
    split at h
    · simp at h; omega
    · rename_i b' hb
      have := bestTo_lt r k b' hb
      split at h <;> simp at h <;> omega
theorem bestTo_none (r : Nat → Nat → Int) (k : Nat) (h : bestTo r k = none) : k = 0 := by
  cases k with
  | zero => rfl
  | succ k =>
    unfold bestTo at h
    split at h
    · cases h
    · split at h <;> cases h
theorem p_pickb {P : Program} {l : Env} {h : Heap} {ty : TypeId} {c y : Operand} {b : Bool} (hc : ev l c = some (.bool false)) (hy : ev l y = some (.bool b)) : Pur P (.pick c (.const (.bool true)) y) ty l h (.bool b) := p_pick_f hc hy

set_option maxHeartbeats 4000000 in
theorem crowded_ok (h : Heap) (lb wb n : Nat) (vb : Nat → Nat) (L : Nat → Nat → Int) (M : Nat → Nat → Bool) (len : Nat → Nat) (hl : hc h lb 2 = some (.slice (some ⟨wb, 0, none⟩) n n)) (hw : ∀ i, i < n → hc h wb i = some (.pointer (some ⟨vb i, 0, none⟩)))
    (hv : ∀ i, i < n → Vis h (vb i) (L i) (M i) (len i) ∧ 1 ≤ len i ∧ len i ≤ 4) (hn : n ≤ 65536) :
    CallsH Yba.prog 5 #[.pointer (some ⟨lb, 0, none⟩)] h (fun u h' => u = .pointer ((bestTo (fun i => rowC (L i) (M i) (len i)) n).map fun b => ⟨vb b, 0, none⟩) ∧ Low h.size h h') := by
  refine calls_of [(0, .pointer (some ⟨lb, 0, none⟩))] Yba.func5 rfl Yba.ntmps5 (by simp) (.cons rfl .nil) ?_
  intro w0 hw0
  generalize hr : (fun i => rowC (L i) (M i) (len i)) = r
  have hri : ∀ i, rowC (L i) (M i) (len i) = r i := fun i => by rw [← hr]
  refine c_mid [(0, .pointer (some ⟨lb, 0, none⟩))] (fun q => h = q) ?_ ?_
  · repeat (first | refine c_seq ?_ | refine c_region ?_ | refine c_block ?_ | refine c_skip ?_ | refine c_exit ?_ | refine c_ret ?_ | refine n_then ?_ | refine n_block ?_ | refine x_then ?_ | refine x_block_eq ?_ | refine x_block_ne rfl ?_ | refine r_then ?_ | refine r_block ?_ | refine s_nil ?_ | refine c_true rfl ?_ | refine c_false rfl ?_ | refine s_pur (p_move rfl) rfl ?_ | refine s_pur (p_assign rfl) rfl ?_ | refine s_pur (p_nil rfl) rfl ?_ | refine s_pur (p_pick_t rfl rfl) rfl ?_ | refine s_pur (p_pick_f rfl rfl) rfl ?_)
    exact m_done rfl (by repeat (first | exact Sub.nil | refine Sub.cons rfl ?_))
  rintro _ rfl
  refine c_mid [(0, .pointer (some ⟨lb, 0, none⟩)), (3, .pointer none)] (fun q => h = q) ?_ ?_
  · repeat (first | refine c_seq ?_ | refine c_region ?_ | refine c_block ?_ | refine c_skip ?_ | refine c_exit ?_ | refine c_ret ?_ | refine n_then ?_ | refine n_block ?_ | refine x_then ?_ | refine x_block_eq ?_ | refine x_block_ne rfl ?_ | refine r_then ?_ | refine r_block ?_ | refine s_nil ?_ | refine c_true rfl ?_ | refine c_false rfl ?_ | refine s_pur (p_move rfl) rfl ?_ | refine s_pur (p_assign rfl) rfl ?_ | refine s_pur (p_nil rfl) rfl ?_ | refine s_pur (p_pick_t rfl rfl) rfl ?_ | refine s_pur (p_pick_f rfl rfl) rfl ?_)
    exact m_done rfl (by repeat (first | exact Sub.nil | refine Sub.cons rfl ?_))
  rintro _ rfl
  refine c_mid [(0, .pointer (some ⟨lb, 0, none⟩)), (3, .pointer none), (4, .pointer (some ⟨h.size, 0, none⟩))] (fun q => New h q (.cells (arr5 (fun _ => 0)).toArray 71)) ?_ ?_
  · refine c_region ?_
    refine s_eff (e_alloc Yba.zeroValue71) rfl ?_
    rintro _ q ⟨rfl, hnq⟩
    repeat (first | refine c_seq ?_ | refine c_region ?_ | refine c_block ?_ | refine c_skip ?_ | refine c_exit ?_ | refine c_ret ?_ | refine n_then ?_ | refine n_block ?_ | refine x_then ?_ | refine x_block_eq ?_ | refine x_block_ne rfl ?_ | refine r_then ?_ | refine r_block ?_ | refine s_nil ?_ | refine c_true rfl ?_ | refine c_false rfl ?_ | refine s_pur (p_move rfl) rfl ?_ | refine s_pur (p_assign rfl) rfl ?_ | refine s_pur (p_nil rfl) rfl ?_ | refine s_pur (p_pick_t rfl rfl) rfl ?_ | refine s_pur (p_pick_f rfl rfl) rfl ?_)
    exact m_done hnq (by repeat (first | exact Sub.nil | refine Sub.cons rfl ?_))
  rintro hA nA
  have loA : Low h.size h hA := (Low.refl _ _).new nA (Nat.le_refl _)
  have n1 := hc0 (low_hc loA hl)
  refine c_mid [(3, .pointer ((bestTo r n).map fun b => ⟨vb b, 0, none⟩))] (fun q => Low h.size h q) ?_ ?_
  · repeat (first | refine c_seq ?_ | refine c_region ?_ | refine c_block ?_ | refine c_skip ?_ | refine c_exit ?_ | refine c_ret ?_ | refine n_then ?_ | refine n_block ?_ | refine x_then ?_ | refine x_block_eq ?_ | refine x_block_ne rfl ?_ | refine r_then ?_ | refine r_block ?_ | refine s_nil ?_ | refine c_true rfl ?_ | refine c_false rfl ?_ | refine s_pur (p_move rfl) rfl ?_ | refine s_pur (p_assign rfl) rfl ?_ | refine s_pur (p_nil rfl) rfl ?_ | refine s_pur (p_pick_t rfl rfl) rfl ?_ | refine s_pur (p_pick_f rfl rfl) rfl ?_ | refine s_pur (p_len rfl Yba.underlying42) rfl ?_ | refine s_pur (p_idx1 rfl rfl rfl (by omega) Yba.underlying42 Yba.sizeOf47) rfl ?_ | refine s_pur (p_fld (off := 2) rfl Yba.underlying68 rfl Yba.sizeOf42 rfl) rfl ?_ | refine s_pur (p_load rfl Yba.isAgg42 (by assumption)) rfl ?_)
    refine c_loop (fun x : Nat => [(3, .pointer ((bestTo r x).map fun b => ⟨vb b, 0, none⟩)), (4, .pointer (some ⟨h.size, 0, none⟩)), (11, .slice (some ⟨wb, 0, none⟩) n n), (12, .int .i64 n), (13, .int .i64 x)])
      (fun x q => x ≤ n ∧ Low h.size h q ∧ ∃ m, q[h.size]? = some (.cells (arr5 m).toArray 71 (0, 0)) ∧ ∀ b, bestTo r x = some b → m = r b) (fun x => n - x) 0
      ⟨by omega, loA, _, nA.at_, fun b hb => by simp [bestTo] at hb⟩ (by repeat (first | exact Sub.nil | refine Sub.cons rfl ?_)) ?_
    rintro k q ⟨hk, lo, m, cm, hm⟩
    by_cases hlt : k < n
    · obtain ⟨vis, hl1, hl4⟩ := hv k hlt
      have k1 := hc0 (low_hc lo (hw k hlt))
      have hcr := crowding_ok q (vb k) (len k) (L k) (M k) (vis.low lo) hl1 hl4
      rw [hri k] at hcr
      repeat (first | refine c_seq ?_ | refine c_region ?_ | refine c_block ?_ | refine c_skip ?_ | refine c_exit ?_ | refine c_ret ?_ | refine n_then ?_ | refine n_block ?_ | refine x_then ?_ | refine x_block_eq ?_ | refine x_block_ne rfl ?_ | refine r_then ?_ | refine r_block ?_ | refine s_nil ?_ | refine c_true rfl ?_ | refine c_false rfl ?_ | refine s_pur (p_move rfl) rfl ?_ | refine s_pur (p_assign rfl) rfl ?_ | refine s_pur (p_nil rfl) rfl ?_ | refine s_pur (p_pick_t rfl rfl) rfl ?_ | refine s_pur (p_pick_f rfl rfl) rfl ?_ | refine s_pur (p_len rfl Yba.underlying42) rfl ?_ | refine s_pur (p_idx1 rfl rfl rfl (by omega) Yba.underlying42 Yba.sizeOf47) rfl ?_ | refine s_pur (p_load rfl Yba.isAgg47 (by assumption)) rfl ?_ | refine s_pur (p_lssT rfl rfl (by omega)) rfl ?_ | refine s_pur (p_lssF rfl rfl (by omega)) rfl ?_ | refine s_pur (p_leqT rfl rfl (by omega)) rfl ?_ | refine s_pur (p_leqF rfl rfl (by omega)) rfl ?_ | refine s_pur (p_gtrT rfl rfl (by omega)) rfl ?_ | refine s_pur (p_gtrF rfl rfl (by omega)) rfl ?_ | refine s_pur (p_geqT rfl rfl (by omega)) rfl ?_ | refine s_pur (p_geqF rfl rfl (by omega)) rfl ?_ | refine s_pur (p_eqlT rfl rfl (by omega)) rfl ?_ | refine s_pur (p_eqlF rfl rfl (by omega)) rfl ?_ | refine s_pur (p_neqT rfl rfl (by omega)) rfl ?_ | refine s_pur (p_neqF rfl rfl (by omega)) rfl ?_)
      refine s_call Yba.call6 rfl rfl hcr ?_
      rintro _ q1 ⟨rfl, lo1⟩
      have sq1 := lo1.size
      have sq0 := lt_of_get cm
      refine s_eff (e_alloc Yba.zeroValue71) rfl ?_
      rintro _ q2 ⟨rfl, n2⟩
      have sq2 := n2.size
      refine s_eff0 (e_storeAll (vs := arr5 (r k)) rfl rfl Yba.sizeOf71 rfl n2.at_ rfl (arr5_one _)) ?_
      rintro _ q3 u3
      have sq3 := u3.size
      have cm3 : q3[h.size]? = some (.cells (arr5 m).toArray 71 (0, 0)) := by
        rw [u3.other _ (by omega), n2.other _ (by omega), lo1.same _ sq0]; exact cm
      have lo3 : Low h.size h q3 := ((lo.then lo1).new n2 (by have := lo.size; omega)).upd u3 (by have := lo.size; omega)
      have hcmp := sliceCompare_ok q3 q1.size h.size (r k) m (fun j hj => by rw [hc_of u3.at_, Nat.zero_add]; simpa using arr5_get (r k) j hj) (fun j hj => by rw [hc_of cm3, Nat.zero_add]; simpa using arr5_get m j hj)
      have hsucc : bestTo r (k + 1) = match bestTo r k with | none => some k | some b => if gtF (r k) (r b) 5 0 then some k else some b := rfl
      repeat (first | refine c_seq ?_ | refine c_region ?_ | refine c_block ?_ | refine c_skip ?_ | refine c_exit ?_ | refine c_ret ?_ | refine n_then ?_ | refine n_block ?_ | refine x_then ?_ | refine x_block_eq ?_ | refine x_block_ne rfl ?_ | refine r_then ?_ | refine r_block ?_ | refine s_nil ?_ | refine c_true rfl ?_ | refine c_false rfl ?_ | refine s_pur (p_move rfl) rfl ?_ | refine s_pur (p_assign rfl) rfl ?_ | refine s_pur (p_nil rfl) rfl ?_ | refine s_pur (p_pick_t rfl rfl) rfl ?_ | refine s_pur (p_pick_f rfl rfl) rfl ?_)
      refine c_held followsM rfl ?_
      refine h_any 0 rfl (by kernel_rfl) rfl (fun _ => p_move rfl) rfl ?_
      refine h_any 1 rfl (by kernel_rfl) rfl (fun _ => p_pnil rfl rfl Yba.underlying47) rfl ?_
      refine h_any 2 rfl (by kernel_rfl) rfl (fun _ => p_move rfl) rfl ?_
      cases hb : bestTo r k with
      | none =>
        rw [hb] at hsucc
        simp only at hsucc
        refine h_skip_g 3 rfl (by kernel_rfl) rfl rfl rfl rfl ?_
        refine h_skip_g 4 rfl (by kernel_rfl) rfl rfl rfl rfl ?_
        refine h_skip_g 5 rfl (by kernel_rfl) rfl rfl rfl rfl ?_
        refine h_skip_g 6 rfl (by kernel_rfl) rfl rfl rfl rfl ?_
        refine h_any 7 rfl (by kernel_rfl) rfl (fun _ => p_pick_t rfl rfl) rfl ?_
        refine h_done (by kernel_rfl) ?_
        repeat (first | refine c_seq ?_ | refine c_region ?_ | refine c_block ?_ | refine c_skip ?_ | refine c_exit ?_ | refine c_ret ?_ | refine n_then ?_ | refine n_block ?_ | refine x_then ?_ | refine x_block_eq ?_ | refine x_block_ne rfl ?_ | refine r_then ?_ | refine r_block ?_ | refine s_nil ?_ | refine c_true rfl ?_ | refine c_false rfl ?_ | refine s_pur (p_move rfl) rfl ?_ | refine s_pur (p_assign rfl) rfl ?_ | refine s_pur (p_nil rfl) rfl ?_ | refine s_pur (p_pick_t rfl rfl) rfl ?_ | refine s_pur (p_pick_f rfl rfl) rfl ?_)
        refine c_held followsM rfl ?_
        refine h_any 0 rfl (by kernel_rfl) rfl (fun _ => p_move rfl) rfl ?_
        refine h_any 2 rfl (by kernel_rfl) rfl (fun _ => p_assign rfl) rfl ?_
        refine h_take 1 rfl (by kernel_rfl) rfl (p_loadA (vs := arr5 (r k)) rfl Yba.isAgg71 Yba.sizeOf71 rfl (fun j hj => by rw [hc_of u3.at_, Nat.zero_add]; simp)) rfl ?_
        refine h_eff0 3 rfl (by kernel_rfl) rfl (e_storeAll (vs := arr5 (r k)) rfl rfl Yba.sizeOf71 rfl cm3 rfl (arr5_one _)) ?_
        rintro _ q4 u4
        refine h_done (by kernel_rfl) ?_
        repeat (first | refine c_seq ?_ | refine c_region ?_ | refine c_block ?_ | refine c_skip ?_ | refine c_exit ?_ | refine c_ret ?_ | refine n_then ?_ | refine n_block ?_ | refine x_then ?_ | refine x_block_eq ?_ | refine x_block_ne rfl ?_ | refine r_then ?_ | refine r_block ?_ | refine s_nil ?_ | refine c_true rfl ?_ | refine c_false rfl ?_ | refine s_pur (p_move rfl) rfl ?_ | refine s_pur (p_assign rfl) rfl ?_ | refine s_pur (p_nil rfl) rfl ?_ | refine s_pur (p_pick_t rfl rfl) rfl ?_ | refine s_pur (p_pick_f rfl rfl) rfl ?_ | refine s_pur (p_add rfl rfl rfl (by omega) (by omega)) rfl ?_)
        exact c_next (k + 1) ⟨hlt, lo3.upd u4 (Nat.le_refl _), r k, u4.at_, fun b hb' => by rw [hsucc] at hb'; cases hb'; rfl⟩ (.cons' rfl (by rw [hsucc]; rfl) (by repeat (first | exact Sub.nil | refine Sub.cons rfl ?_))) (by omega)
      | some b =>
        rw [hb] at hsucc
        simp only at hsucc
        have hmb := hm b hb
        subst hmb
        refine h_any_g 3 rfl (by kernel_rfl) rfl rfl (fun _ => p_sliceArr rfl Yba.underlying71 Yba.sizeOf3) rfl ?_
        refine h_any_g 4 rfl (by kernel_rfl) rfl rfl (fun _ => p_sliceArr rfl Yba.underlying71 Yba.sizeOf3) rfl ?_
        refine h_call_g 5 rfl (by kernel_rfl) rfl rfl Yba.call7 rfl rfl hcmp ?_
        rintro _ _ ⟨rfl, rfl⟩
        refine h_any_g 6 rfl (by kernel_rfl) rfl rfl (fun _ => p_gtr rfl rfl) rfl ?_
        rw [cmpF_gt]
        refine h_any 7 rfl (by kernel_rfl) rfl (fun _ => p_pickb rfl rfl) rfl ?_
        refine h_done (by kernel_rfl) ?_
        cases hg : gtF (r k) (r b) 5 0 with
        | true =>
          rw [hg, if_pos rfl] at hsucc
          repeat (first | refine c_seq ?_ | refine c_region ?_ | refine c_block ?_ | refine c_skip ?_ | refine c_exit ?_ | refine c_ret ?_ | refine n_then ?_ | refine n_block ?_ | refine x_then ?_ | refine x_block_eq ?_ | refine x_block_ne rfl ?_ | refine r_then ?_ | refine r_block ?_ | refine s_nil ?_ | refine c_true rfl ?_ | refine c_false rfl ?_ | refine s_pur (p_move rfl) rfl ?_ | refine s_pur (p_assign rfl) rfl ?_ | refine s_pur (p_nil rfl) rfl ?_ | refine s_pur (p_pick_t rfl rfl) rfl ?_ | refine s_pur (p_pick_f rfl rfl) rfl ?_)
          refine c_held followsM rfl ?_
          refine h_any 0 rfl (by kernel_rfl) rfl (fun _ => p_move rfl) rfl ?_
          refine h_any 2 rfl (by kernel_rfl) rfl (fun _ => p_assign rfl) rfl ?_
          refine h_take 1 rfl (by kernel_rfl) rfl (p_loadA (vs := arr5 (r k)) rfl Yba.isAgg71 Yba.sizeOf71 rfl (fun j hj => by rw [hc_of u3.at_, Nat.zero_add]; simp)) rfl ?_
          refine h_eff0 3 rfl (by kernel_rfl) rfl (e_storeAll (vs := arr5 (r k)) rfl rfl Yba.sizeOf71 rfl cm3 rfl (arr5_one _)) ?_
          rintro _ q4 u4
          refine h_done (by kernel_rfl) ?_
          repeat (first | refine c_seq ?_ | refine c_region ?_ | refine c_block ?_ | refine c_skip ?_ | refine c_exit ?_ | refine c_ret ?_ | refine n_then ?_ | refine n_block ?_ | refine x_then ?_ | refine x_block_eq ?_ | refine x_block_ne rfl ?_ | refine r_then ?_ | refine r_block ?_ | refine s_nil ?_ | refine c_true rfl ?_ | refine c_false rfl ?_ | refine s_pur (p_move rfl) rfl ?_ | refine s_pur (p_assign rfl) rfl ?_ | refine s_pur (p_nil rfl) rfl ?_ | refine s_pur (p_pick_t rfl rfl) rfl ?_ | refine s_pur (p_pick_f rfl rfl) rfl ?_ | refine s_pur (p_add rfl rfl rfl (by omega) (by omega)) rfl ?_)
          exact c_next (k + 1) ⟨hlt, lo3.upd u4 (Nat.le_refl _), r k, u4.at_, fun b hb' => by rw [hsucc] at hb'; cases hb'; rfl⟩ (.cons' rfl (by rw [hsucc]; rfl) (by repeat (first | exact Sub.nil | refine Sub.cons rfl ?_))) (by omega)
        | false =>
          rw [hg, if_neg (by simp)] at hsucc
          repeat (first | refine c_seq ?_ | refine c_region ?_ | refine c_block ?_ | refine c_skip ?_ | refine c_exit ?_ | refine c_ret ?_ | refine n_then ?_ | refine n_block ?_ | refine x_then ?_ | refine x_block_eq ?_ | refine x_block_ne rfl ?_ | refine r_then ?_ | refine r_block ?_ | refine s_nil ?_ | refine c_true rfl ?_ | refine c_false rfl ?_ | refine s_pur (p_move rfl) rfl ?_ | refine s_pur (p_assign rfl) rfl ?_ | refine s_pur (p_nil rfl) rfl ?_ | refine s_pur (p_pick_t rfl rfl) rfl ?_ | refine s_pur (p_pick_f rfl rfl) rfl ?_ | refine s_pur (p_add rfl rfl rfl (by omega) (by omega)) rfl ?_)
          exact c_next (k + 1) ⟨hlt, lo3, r b, cm3, fun b' hb' => by rw [hsucc] at hb'; cases hb'; rfl⟩ (.cons' rfl (by rw [hsucc]) (by repeat (first | exact Sub.nil | refine Sub.cons rfl ?_))) (by omega)
    · have : k = n := by omega
      subst this
      repeat (first | refine c_seq ?_ | refine c_region ?_ | refine c_block ?_ | refine c_skip ?_ | refine c_exit ?_ | refine c_ret ?_ | refine n_then ?_ | refine n_block ?_ | refine x_then ?_ | refine x_block_eq ?_ | refine x_block_ne rfl ?_ | refine r_then ?_ | refine r_block ?_ | refine s_nil ?_ | refine c_true rfl ?_ | refine c_false rfl ?_ | refine s_pur (p_move rfl) rfl ?_ | refine s_pur (p_assign rfl) rfl ?_ | refine s_pur (p_nil rfl) rfl ?_ | refine s_pur (p_pick_t rfl rfl) rfl ?_ | refine s_pur (p_pick_f rfl rfl) rfl ?_ | refine s_pur (p_lssT rfl rfl (by omega)) rfl ?_ | refine s_pur (p_lssF rfl rfl (by omega)) rfl ?_ | refine s_pur (p_leqT rfl rfl (by omega)) rfl ?_ | refine s_pur (p_leqF rfl rfl (by omega)) rfl ?_ | refine s_pur (p_gtrT rfl rfl (by omega)) rfl ?_ | refine s_pur (p_gtrF rfl rfl (by omega)) rfl ?_ | refine s_pur (p_geqT rfl rfl (by omega)) rfl ?_ | refine s_pur (p_geqF rfl rfl (by omega)) rfl ?_ | refine s_pur (p_eqlT rfl rfl (by omega)) rfl ?_ | refine s_pur (p_eqlF rfl rfl (by omega)) rfl ?_ | refine s_pur (p_neqT rfl rfl (by omega)) rfl ?_ | refine s_pur (p_neqF rfl rfl (by omega)) rfl ?_)
      exact m_done lo (by repeat (first | exact Sub.nil | refine Sub.cons rfl ?_))
  rintro hB loB
  repeat (first | refine c_seq ?_ | refine c_region ?_ | refine c_block ?_ | refine c_skip ?_ | refine c_exit ?_ | refine c_ret ?_ | refine n_then ?_ | refine n_block ?_ | refine x_then ?_ | refine x_block_eq ?_ | refine x_block_ne rfl ?_ | refine r_then ?_ | refine r_block ?_ | refine s_nil ?_ | refine c_true rfl ?_ | refine c_false rfl ?_ | refine s_pur (p_move rfl) rfl ?_ | refine s_pur (p_assign rfl) rfl ?_ | refine s_pur (p_nil rfl) rfl ?_ | refine s_pur (p_pick_t rfl rfl) rfl ?_ | refine s_pur (p_pick_f rfl rfl) rfl ?_)
  exact ret1 Yba.results5 rfl ⟨rfl, loB⟩
end Go.Proofs.Ybulkdisg
