/-
  B12: roster.sum.
-/
import Derived.Test.YbulkdirsB11
namespace Go.Proofs.Ybulkdirs
set_option linter.unusedSimpArgs false
set_option linter.unusedVariables false
set_option linter.unnecessarySimpa false
open Go Go.RowKit V
set_option maxRecDepth 100000

/-- The holdings where they lie: participant, grant, shares, line. -/
def HoldIn (h : Heap) (va : Option Addr) (n : Nat) (P G : Nat → Value) (S : Nat → Int) (L : Nat → Value) : Prop :=
  ∀ i, i < n → ∃ b o, va = some ⟨b, o, none⟩ ∧ b < h.size ∧ ∀ t, t < 4 → hc h b (o + i * 4 + t) = [P i, G i, .int .i64 (S i), L i][t]?
def Plain (v : Value) : Prop := v.oneCell' = true

def sumTo (S : Nat → Int) : Nat → Int
  | 0 => 0
  | k + 1 => sumTo S k + S k
theorem sumTo_le (S : Nat → Int) (hS : ∀ i, -9223372036854775808 ≤ S i ∧ S i ≤ 9223372036854775807) : ∀ k, (sumTo S k).natAbs ≤ k * 9223372036854775808
  | 0 => by simp [sumTo]
  | k + 1 => by
    have h1 := sumTo_le S hS k
    have h2 := hS k
    unfold sumTo
    omega
theorem low_hc {h h' : Heap} {b o : Nat} {v : Value} (hl : Low h.size h h') (e : hc h b o = some v) : hc h' b o = some v := by rw [hc_congr (hl.same b (lt_of_hc e))]; exact e
theorem V.Low.then {h h1 h2 : Heap} (a : Low h.size h h1) (b : Low h1.size h1 h2) : Low h.size h h2 := a.trans (b.mono a.size)

theorem zv_new {h h' : Heap} {base : Nat} (hn : New h h' (.cells #[.bool false, .slice none 0 0] 32)) : ZV h' base h.size 0 (.slice none 0 0) :=
  ⟨by rw [hn.at_]; rfl, ⟨⟨by simp [dg, wds], .inl ⟨rfl, rfl⟩⟩, by simp [B]⟩⟩
theorem ZV.keep {h h' : Heap} {base ib : Nat} {z : Int} {nv : Value} (hz : ZV h base ib z nv) (h1 : h'[ib]? = h[ib]?) (h2 : ∀ k, nv.ownBlock = some k → h'[k]? = h[k]?) : ZV h' base ib z nv :=
  ⟨by rw [h1]; exact hz.1, ⟨hz.2.1.keep fun k _ _ hk => h2 k hk, hz.2.2⟩⟩

theorem four_one {p g l : Value} {x : Int} (hp : p.oneCell' = true ∧ g.oneCell' = true ∧ l.oneCell' = true) : ∀ v ∈ [p, g, .int .i64 x, l], v.oneCell' = true := by
  intro v hv
  simp only [List.mem_cons, List.not_mem_nil, or_false] at hv
  rcases hv with e | e | e | e <;> subst e
  · exact hp.1
  · exact hp.2.1
  · rfl
  · exact hp.2.2
theorem nv_lt {h : Heap} {base v : Nat} {u : Value} (hn : NV h base u v) {g : Nat} (hg : u.ownBlock = some g) : base ≤ g ∧ g < h.size := ⟨hn.1.base g hg, hn.1.lt g hg⟩

set_option maxHeartbeats 4000000 in
theorem sum_ok (h : Heap) (va : Option Addr) (n vc : Nat) (P G L : Nat → Value) (S : Nat → Int) (hv : HoldIn h va n P G S L) (hS : ∀ i, -9223372036854775808 ≤ S i ∧ S i ≤ 9223372036854775807) (hP : ∀ i, i < n → (P i).oneCell' = true ∧ (G i).oneCell' = true ∧ (L i).oneCell' = true) (hn : n ≤ 1048576) :
    CallsH Yba.prog 4 #[.slice va n vc] h (fun u h' => u = .pointer (some ⟨h.size, 0, none⟩) ∧ Low h.size h h' ∧ ∃ nv, ZV h' h.size h.size (sumTo S n) nv) := by
  refine calls_of [(0, .slice va n vc)] Yba.func4 rfl Yba.ntmps4 (by simp) (.cons rfl .nil) ?_
  intro w0 hw0
  repeat (first | refine c_seq ?_ | refine c_region ?_ | refine c_block ?_ | refine c_skip ?_ | refine c_exit ?_ | refine c_ret ?_ | refine n_then ?_ | refine n_block ?_ | refine x_then ?_ | refine x_block_eq ?_ | refine x_block_ne rfl ?_ | refine r_then ?_ | refine r_block ?_ | refine s_nil ?_ | refine c_true rfl ?_ | refine c_false rfl ?_ | refine s_pur (p_move rfl) rfl ?_ | refine s_pur (p_assign rfl) rfl ?_ | refine s_pur (p_nil rfl) rfl ?_ | refine s_pur (p_pick_t rfl rfl) rfl ?_ | refine s_pur (p_pick_f rfl rfl) rfl ?_)
  refine s_eff (e_alloc Yba.zeroValue32) rfl ?_
  rintro _ h1 ⟨rfl, n1⟩
  refine s_eff (e_alloc Yba.zeroValue32) rfl ?_
  rintro _ h2 ⟨rfl, n2⟩
  have s1 := n1.size
  have s2 := n2.size
  rw [s1]
  have zT : ZV h2 h.size h.size 0 (.slice none 0 0) := (zv_new n1).keep (n2.other _ (by omega)) (fun k hk => by simp [Value.ownBlock] at hk)
  have zS : ZV h2 h.size (h.size + 1) 0 (.slice none 0 0) := by have := zv_new (base := h.size) n2; rw [s1] at this; exact this
  have lo2 : Low h.size h h2 := ((Low.refl _ _).new n1 (Nat.le_refl _)).new n2 (by omega)
  repeat (first | refine c_seq ?_ | refine c_region ?_ | refine c_block ?_ | refine c_skip ?_ | refine c_exit ?_ | refine c_ret ?_ | refine n_then ?_ | refine n_block ?_ | refine x_then ?_ | refine x_block_eq ?_ | refine x_block_ne rfl ?_ | refine r_then ?_ | refine r_block ?_ | refine s_nil ?_ | refine c_true rfl ?_ | refine c_false rfl ?_ | refine s_pur (p_move rfl) rfl ?_ | refine s_pur (p_assign rfl) rfl ?_ | refine s_pur (p_nil rfl) rfl ?_ | refine s_pur (p_pick_t rfl rfl) rfl ?_ | refine s_pur (p_pick_f rfl rfl) rfl ?_ | refine s_pur (p_len rfl Yba.underlying22) rfl ?_ | refine s_pur (p_idx rfl rfl rfl (by omega) Yba.underlying22 Yba.sizeOf27) rfl ?_)
  refine c_loop (fun x : Nat × Value × Value × Int => [(3, .pointer (some ⟨h.size, 0, none⟩)), (4, .pointer (some ⟨h.size + 1, 0, none⟩)), (9, .slice va n vc), (10, .int .i64 n), (11, .int .i64 x.1)])
    (fun x q => x.1 ≤ n ∧ Low h.size h q ∧ ZV q h.size h.size (sumTo S x.1) x.2.1 ∧ ZV q h.size (h.size + 1) x.2.2.2 x.2.2.1 ∧ (∀ g, x.2.1.ownBlock = some g → x.2.2.1.ownBlock ≠ some g)) (fun x => n - x.1) (0, .slice none 0 0, .slice none 0 0, 0)
    ⟨by omega, lo2, zT, zS, fun g hg => by simp [Value.ownBlock] at hg⟩ (by repeat (first | exact Sub.nil | refine Sub.cons rfl ?_)) ?_
  rintro ⟨k, nT, nS, sh⟩ q ⟨hk, lo, z1, z2, sep⟩
  simp only at hk z1 z2 sep
  refine cut [(3, .pointer (some ⟨h.size, 0, none⟩)), (4, .pointer (some ⟨h.size + 1, 0, none⟩)), (9, .slice va n vc), (10, .int .i64 n), (11, .int .i64 k)] Sub.refl ?_
  by_cases hlt : k < n
  · obtain ⟨b, o, rfl, hb, hcell⟩ := hv k hlt
    have sq := lo.size
    have hp := hP k hlt
    have ld : ∀ j, j < 4 → hc q b (o + k * 4 + j) = [P k, G k, .int .i64 (S k), L k][j]? := fun j hj => by rw [hc_congr (lo.same b hb)]; exact hcell j hj
    repeat (first | refine c_seq ?_ | refine c_region ?_ | refine c_block ?_ | refine c_skip ?_ | refine c_exit ?_ | refine c_ret ?_ | refine n_then ?_ | refine n_block ?_ | refine x_then ?_ | refine x_block_eq ?_ | refine x_block_ne rfl ?_ | refine r_then ?_ | refine r_block ?_ | refine s_nil ?_ | refine c_true rfl ?_ | refine c_false rfl ?_ | refine s_pur (p_move rfl) rfl ?_ | refine s_pur (p_assign rfl) rfl ?_ | refine s_pur (p_nil rfl) rfl ?_ | refine s_pur (p_pick_t rfl rfl) rfl ?_ | refine s_pur (p_pick_f rfl rfl) rfl ?_ | refine s_pur (p_len rfl Yba.underlying22) rfl ?_ | refine s_pur (p_idx rfl rfl rfl (by omega) Yba.underlying22 Yba.sizeOf27) rfl ?_ | refine s_pur (p_loadA (vs := [P k, G k, .int .i64 (S k), L k]) rfl Yba.isAgg27 Yba.sizeOf27 rfl ld) rfl ?_ | refine s_pur (p_lssT rfl rfl (by omega)) rfl ?_ | refine s_pur (p_lssF rfl rfl (by omega)) rfl ?_ | refine s_pur (p_leqT rfl rfl (by omega)) rfl ?_ | refine s_pur (p_leqF rfl rfl (by omega)) rfl ?_ | refine s_pur (p_gtrT rfl rfl (by omega)) rfl ?_ | refine s_pur (p_gtrF rfl rfl (by omega)) rfl ?_ | refine s_pur (p_geqT rfl rfl (by omega)) rfl ?_ | refine s_pur (p_geqF rfl rfl (by omega)) rfl ?_ | refine s_pur (p_eqlT rfl rfl (by omega)) rfl ?_ | refine s_pur (p_eqlF rfl rfl (by omega)) rfl ?_ | refine s_pur (p_neqT rfl rfl (by omega)) rfl ?_ | refine s_pur (p_neqF rfl rfl (by omega)) rfl ?_)
    refine s_eff (e_alloc Yba.zeroValue27) rfl ?_
    rintro _ q1 ⟨rfl, n3⟩
    refine s_eff0 (e_storeAll (vs := [P k, G k, .int .i64 (S k), L k]) rfl rfl Yba.sizeOf27 rfl n3.at_ rfl (four_one hp)) ?_
    rintro _ q2 u2
    have s3 := n3.size
    have s4 := u2.size
    have oldq : ∀ g, g < q.size → q2[g]? = q[g]? := fun g hg => by rw [u2.other g (by omega), n3.other g hg]
    have y1 : ZV q2 h.size h.size (sumTo S k) nT := z1.keep (oldq _ (lt_of_get z1.1)) (fun g hg => oldq g (nv_lt z1.2 hg).2)
    have y2 : ZV q2 h.size (h.size + 1) sh nS := z2.keep (oldq _ (lt_of_get z2.1)) (fun g hg => oldq g (nv_lt z2.2 hg).2)
    have ldS : hc q2 q.size (0 + 2) = some (.int .i64 (S k)) := (hc_of u2.at_).trans rfl
    have e1 := nv_ne y1.2 y1.1
    have e2 := nv_ne y2.2 y2.1
    have e3 := nv_ne y1.2 y2.1
    have e4 := nv_ne y2.2 y1.1
    repeat (first | refine c_seq ?_ | refine c_region ?_ | refine c_block ?_ | refine c_skip ?_ | refine c_exit ?_ | refine c_ret ?_ | refine n_then ?_ | refine n_block ?_ | refine x_then ?_ | refine x_block_eq ?_ | refine x_block_ne rfl ?_ | refine r_then ?_ | refine r_block ?_ | refine s_nil ?_ | refine c_true rfl ?_ | refine c_false rfl ?_ | refine s_pur (p_move rfl) rfl ?_ | refine s_pur (p_assign rfl) rfl ?_ | refine s_pur (p_nil rfl) rfl ?_ | refine s_pur (p_pick_t rfl rfl) rfl ?_ | refine s_pur (p_pick_f rfl rfl) rfl ?_ | refine s_pur (p_fld (off := 2) rfl Yba.underlying27 rfl Yba.sizeOf2 rfl) rfl ?_ | refine s_pur (p_load rfl Yba.isAgg2 (by assumption)) rfl ?_)
    refine s_call Yba.call8 rfl rfl (setInt64_ok q2 h.size (h.size + 1) sh (S k) nS y2 (by omega) (hS k).1 (hS k).2) ?_
    rintro _ q3 ⟨rfl, nS', r3⟩
    have s5 := r3.size
    have w1 : ZV q3 h.size h.size (sumTo S k) nT := y1.keep (r3.other _ (by omega) (by omega) (fun e => e4 e)) (fun g hg => r3.other g (nv_lt y1.2 hg).2 (fun e => e3 (e ▸ hg)) (fun e => sep g hg e))
    have sep' : ∀ g, nT.ownBlock = some g → nS'.ownBlock ≠ some g := by
      intro g hg e
      rcases r3.own with o | o
      · exact sep g hg (o ▸ e)
      · rw [o] at e
        simp at e
        have := (nv_lt y1.2 hg).2
        omega
    have hsum := sumTo_le S hS k
    have hSk := hS k
    refine s_call Yba.call7 rfl rfl (intAdd_ok q3 h.size h.size (h.size + 1) (sumTo S k) (S k) nT nS' w1 r3.zv (by omega) (by omega) (by simp only [B]; omega)) ?_
    rintro _ q4 ⟨rfl, nT', r4⟩
    have s6 := r4.size
    have f3 := nv_ne w1.2 r3.zv.1
    have f4 := nv_ne r3.zv.2 w1.1
    have w2 : ZV q4 h.size (h.size + 1) (S k) nS' := r3.zv.keep (r4.other _ (lt_of_get r3.zv.1) (by omega) (fun e => f3 e)) (fun g hg => r4.other g (nv_lt r3.zv.2 hg).2 (fun e => f4 (e ▸ hg)) (fun e => sep' g e hg))
    repeat (first | refine c_seq ?_ | refine c_region ?_ | refine c_block ?_ | refine c_skip ?_ | refine c_exit ?_ | refine c_ret ?_ | refine n_then ?_ | refine n_block ?_ | refine x_then ?_ | refine x_block_eq ?_ | refine x_block_ne rfl ?_ | refine r_then ?_ | refine r_block ?_ | refine s_nil ?_ | refine c_true rfl ?_ | refine c_false rfl ?_ | refine s_pur (p_move rfl) rfl ?_ | refine s_pur (p_assign rfl) rfl ?_ | refine s_pur (p_nil rfl) rfl ?_ | refine s_pur (p_pick_t rfl rfl) rfl ?_ | refine s_pur (p_pick_f rfl rfl) rfl ?_ | refine s_pur (p_add rfl rfl rfl (by omega) (by omega)) rfl ?_)
    refine c_next (k + 1, nT', nS', S k) ⟨hlt, ⟨by omega, fun g hg => ?_⟩, r4.zv, w2, ?_⟩ (by repeat (first | exact Sub.nil | refine Sub.cons rfl ?_)) (by simp only; omega)
    · rw [r4.other g (by omega) (by omega) (fun e => by have := (nv_lt w1.2 e).1; omega), r3.other g (by omega) (by omega) (fun e => by have := (nv_lt y2.2 e).1; omega), oldq g (by omega)]
      exact lo.same g hg
    · intro g hg e
      simp only at hg e
      rcases r4.own with o | o
      · exact sep' g (o ▸ hg) e
      · rw [o] at hg
        simp at hg
        have := (nv_lt r3.zv.2 e).2
        omega
  · have : k = n := by omega
    subst this
    repeat (first | refine c_seq ?_ | refine c_region ?_ | refine c_block ?_ | refine c_skip ?_ | refine c_exit ?_ | refine c_ret ?_ | refine n_then ?_ | refine n_block ?_ | refine x_then ?_ | refine x_block_eq ?_ | refine x_block_ne rfl ?_ | refine r_then ?_ | refine r_block ?_ | refine s_nil ?_ | refine c_true rfl ?_ | refine c_false rfl ?_ | refine s_pur (p_move rfl) rfl ?_ | refine s_pur (p_assign rfl) rfl ?_ | refine s_pur (p_nil rfl) rfl ?_ | refine s_pur (p_pick_t rfl rfl) rfl ?_ | refine s_pur (p_pick_f rfl rfl) rfl ?_ | refine s_pur (p_lssT rfl rfl (by omega)) rfl ?_ | refine s_pur (p_lssF rfl rfl (by omega)) rfl ?_ | refine s_pur (p_leqT rfl rfl (by omega)) rfl ?_ | refine s_pur (p_leqF rfl rfl (by omega)) rfl ?_ | refine s_pur (p_gtrT rfl rfl (by omega)) rfl ?_ | refine s_pur (p_gtrF rfl rfl (by omega)) rfl ?_ | refine s_pur (p_geqT rfl rfl (by omega)) rfl ?_ | refine s_pur (p_geqF rfl rfl (by omega)) rfl ?_ | refine s_pur (p_eqlT rfl rfl (by omega)) rfl ?_ | refine s_pur (p_eqlF rfl rfl (by omega)) rfl ?_ | refine s_pur (p_neqT rfl rfl (by omega)) rfl ?_ | refine s_pur (p_neqF rfl rfl (by omega)) rfl ?_)
    exact ret1 Yba.results4 rfl ⟨rfl, lo, nT, z1⟩
end Go.Proofs.Ybulkdirs
