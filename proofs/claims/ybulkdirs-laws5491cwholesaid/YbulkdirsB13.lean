/-
  B13: roster.zzs5491cmodel.
-/
import Derived.Test.YbulkdirsB13p
namespace Go.Proofs.Ybulkdirs
set_option linter.unusedSimpArgs false
set_option linter.unusedVariables false
set_option linter.unnecessarySimpa false
open Go Go.RowKit V
set_option maxRecDepth 100000

theorem wrapU (e : Int) : IntKind.u64.wrap e = ((e % 18446744073709551616).toNat : Int) := by
  simp only [IntKind.wrap, IntKind.bits, IntKind.signed]; simp; omega

/-- The number in the two words. -/
theorem tc_pos {z : Int} (h : z.natAbs < 170141183460469231731687303715884105728) (h0 : 0 ≤ z) : tc z = z.natAbs ∧ tc z / B / 9223372036854775808 = 0 := by
  unfold tc
  rw [Int.emod_eq_of_lt h0 (by simp only [M2]; omega)]
  simp only [B]
  omega
theorem tc_neg {z : Int} (h : z.natAbs < 170141183460469231731687303715884105728) (h0 : z < 0) : tc z / B / 9223372036854775808 = 1 ∧
    ((B - 1 - tc z / B) + 0 + ((B - 1 - tc z % B) + 1 + 0) / B) % B * B + ((B - 1 - tc z % B) + 1 + 0) % B = z.natAbs := by
  have e : z % M2 = z + M2 := by rw [← Int.add_emod_right]; exact Int.emod_eq_of_lt (by simp only [M2] at *; omega) (by omega)
  unfold tc
  rw [e]
  obtain ⟨n, hn⟩ : ∃ n : Nat, z = -(n : Int) := ⟨z.natAbs, by omega⟩
  subst hn
  have e2 : (-(n : Int)).natAbs = n := by omega
  rw [e2] at *
  simp only [M2, B] at *
  have e3 : (-(n : Int) + 340282366920938463463374607431768211456).toNat = 340282366920938463463374607431768211456 - n := by omega
  rw [e3]
  omega
/-- An Int kept through a call that turns another. -/
theorem IRes.keepZ {h h' : Heap} {base ib jb : Nat} {nv nv' n2 : Value} {z y : Int} (r : IRes h h' base ib nv z nv') (h1 : h[ib]? ≠ none) (hy : ZV h base jb y n2) (hne : jb ≠ ib) (e1 : nv.ownBlock ≠ some jb) (e2 : n2.ownBlock ≠ some ib) (sep : ∀ g, nv.ownBlock = some g → n2.ownBlock ≠ some g) : ZV h' base jb y n2 :=
  hy.keep (r.other jb (lt_of_get hy.1) hne e1) (fun g hg => r.other g (nv_lt hy.2 hg).2 (fun e => e2 (e ▸ hg)) (fun e => sep g e hg))

set_option maxHeartbeats 4000000 in
theorem modelTail (h : Heap) (HI LO : Nat) (ng : Bool) (z : Int) (hHI : HI < B) (hLO : LO < B) (hng : ng = decide (z < 0)) (hz : z.natAbs = HI * B + LO) {w0 : World} {R : Value → Heap → Prop}
    (hR : ∀ h', Low h.size h h' → (∃ nv, ZV h' h.size h.size z nv) → R (.pointer (some ⟨h.size, 0, none⟩)) h') :
    V.Fin 73 w0 (CW Yba.prog (V.sub (Yba.f6.body.getD .skip) [1, 1, 1, 1, 1]) (bodyPost Yba.prog Yba.f6 (PostR w0 R))) [(3, .int .u64 HI), (4, .int .u64 LO), (9, .bool ng)] h := by
  refine c_seq ?_
  repeat (first | refine c_region ?_ | refine c_block ?_ | refine c_skip ?_ | refine c_exit ?_ | refine c_ret ?_ | refine n_then ?_ | refine n_block ?_ | refine x_then ?_ | refine x_block_eq ?_ | refine x_block_ne rfl ?_ | refine r_then ?_ | refine r_block ?_ | refine s_nil ?_ | refine c_true rfl ?_ | refine c_false rfl ?_ | refine s_pur (p_move rfl) rfl ?_ | refine s_pur (p_assign rfl) rfl ?_ | refine s_pur (p_nil rfl) rfl ?_ | refine s_pur (p_pick_t rfl rfl) rfl ?_ | refine s_pur (p_pick_f rfl rfl) rfl ?_)
  refine s_eff (e_alloc Yba.zeroValue32) rfl ?_
  rintro _ h1 ⟨rfl, n1⟩
  have s1 := n1.size
  have z1 : ZV h1 h.size h.size 0 (.slice none 0 0) := zv_new n1
  have lo1 : Low h.size h h1 := (Low.refl _ _).new n1 (Nat.le_refl _)
  repeat (first | refine c_region ?_ | refine c_block ?_ | refine c_skip ?_ | refine c_exit ?_ | refine c_ret ?_ | refine n_then ?_ | refine n_block ?_ | refine x_then ?_ | refine x_block_eq ?_ | refine x_block_ne rfl ?_ | refine r_then ?_ | refine r_block ?_ | refine s_nil ?_ | refine c_true rfl ?_ | refine c_false rfl ?_ | refine s_pur (p_move rfl) rfl ?_ | refine s_pur (p_assign rfl) rfl ?_ | refine s_pur (p_nil rfl) rfl ?_ | refine s_pur (p_pick_t rfl rfl) rfl ?_ | refine s_pur (p_pick_f rfl rfl) rfl ?_)
  refine s_call Yba.call17 rfl rfl (setUintI_ok h1 h.size h.size HI 0 _ z1 (by omega) hHI) ?_
  rintro _ h2 ⟨rfl, nv2, r2⟩
  have s2 := r2.size
  have lo2 : Low h.size h h2 := ⟨by omega, fun k hk => by rw [r2.other k (by omega) (by omega) (fun e => by simp [Value.ownBlock] at e)]; exact lo1.same k hk⟩
  repeat (first | refine c_region ?_ | refine c_block ?_ | refine c_skip ?_ | refine c_exit ?_ | refine c_ret ?_ | refine n_then ?_ | refine n_block ?_ | refine x_then ?_ | refine x_block_eq ?_ | refine x_block_ne rfl ?_ | refine r_then ?_ | refine r_block ?_ | refine s_nil ?_ | refine c_true rfl ?_ | refine c_false rfl ?_ | refine s_pur (p_move rfl) rfl ?_ | refine s_pur (p_assign rfl) rfl ?_ | refine s_pur (p_nil rfl) rfl ?_ | refine s_pur (p_pick_t rfl rfl) rfl ?_ | refine s_pur (p_pick_f rfl rfl) rfl ?_)
  refine c_seq ?_
  repeat (first | refine c_region ?_ | refine c_block ?_ | refine c_skip ?_ | refine c_exit ?_ | refine c_ret ?_ | refine n_then ?_ | refine n_block ?_ | refine x_then ?_ | refine x_block_eq ?_ | refine x_block_ne rfl ?_ | refine r_then ?_ | refine r_block ?_ | refine s_nil ?_ | refine c_true rfl ?_ | refine c_false rfl ?_ | refine s_pur (p_move rfl) rfl ?_ | refine s_pur (p_assign rfl) rfl ?_ | refine s_pur (p_nil rfl) rfl ?_ | refine s_pur (p_pick_t rfl rfl) rfl ?_ | refine s_pur (p_pick_f rfl rfl) rfl ?_)
  refine s_call Yba.call18 rfl rfl (intLsh_ok h2 h.size h.size HI nv2 r2.zv (by omega) hHI) ?_
  rintro _ h3 ⟨rfl, nv3, r3⟩
  have s3 := r3.size
  have lo3 : Low h.size h h3 := ⟨by omega, fun k hk => by rw [r3.other k (by omega) (by omega) (fun e => by have := (nv_lt r2.zv.2 e).1; omega)]; exact lo2.same k hk⟩
  repeat (first | refine c_region ?_ | refine c_block ?_ | refine c_skip ?_ | refine c_exit ?_ | refine c_ret ?_ | refine n_then ?_ | refine n_block ?_ | refine x_then ?_ | refine x_block_eq ?_ | refine x_block_ne rfl ?_ | refine r_then ?_ | refine r_block ?_ | refine s_nil ?_ | refine c_true rfl ?_ | refine c_false rfl ?_ | refine s_pur (p_move rfl) rfl ?_ | refine s_pur (p_assign rfl) rfl ?_ | refine s_pur (p_nil rfl) rfl ?_ | refine s_pur (p_pick_t rfl rfl) rfl ?_ | refine s_pur (p_pick_f rfl rfl) rfl ?_)
  refine c_seq ?_
  repeat (first | refine c_region ?_ | refine c_block ?_ | refine c_skip ?_ | refine c_exit ?_ | refine c_ret ?_ | refine n_then ?_ | refine n_block ?_ | refine x_then ?_ | refine x_block_eq ?_ | refine x_block_ne rfl ?_ | refine r_then ?_ | refine r_block ?_ | refine s_nil ?_ | refine c_true rfl ?_ | refine c_false rfl ?_ | refine s_pur (p_move rfl) rfl ?_ | refine s_pur (p_assign rfl) rfl ?_ | refine s_pur (p_nil rfl) rfl ?_ | refine s_pur (p_pick_t rfl rfl) rfl ?_ | refine s_pur (p_pick_f rfl rfl) rfl ?_)
  refine s_eff (e_alloc Yba.zeroValue32) rfl ?_
  rintro _ h4 ⟨rfl, n4⟩
  have s4 := n4.size
  have z4 : ZV h4 h.size h3.size 0 (.slice none 0 0) := zv_new n4
  have y4 : ZV h4 h.size h.size ((HI * B : Nat) : Int) nv3 := r3.zv.keep (n4.other _ (lt_of_get r3.zv.1)) (fun g hg => n4.other g (nv_lt r3.zv.2 hg).2)
  have lo4 : Low h.size h h4 := lo3.new n4 (by omega)
  have hib : h.size < h3.size := lt_of_get r3.zv.1
  repeat (first | refine c_region ?_ | refine c_block ?_ | refine c_skip ?_ | refine c_exit ?_ | refine c_ret ?_ | refine n_then ?_ | refine n_block ?_ | refine x_then ?_ | refine x_block_eq ?_ | refine x_block_ne rfl ?_ | refine r_then ?_ | refine r_block ?_ | refine s_nil ?_ | refine c_true rfl ?_ | refine c_false rfl ?_ | refine s_pur (p_move rfl) rfl ?_ | refine s_pur (p_assign rfl) rfl ?_ | refine s_pur (p_nil rfl) rfl ?_ | refine s_pur (p_pick_t rfl rfl) rfl ?_ | refine s_pur (p_pick_f rfl rfl) rfl ?_)
  refine s_call Yba.call17 rfl rfl (setUintI_ok h4 h.size h3.size LO 0 _ z4 (by omega) hLO) ?_
  rintro _ h5 ⟨rfl, nv5, r5⟩
  have s5 := r5.size
  have e5 := nv_ne y4.2 z4.1
  have y5 : ZV h5 h.size h.size ((HI * B : Nat) : Int) nv3 := r5.keepZ (by rw [z4.1]; simp) y4 (by omega) (by simp [Value.ownBlock]) e5 (fun g hg => by simp [Value.ownBlock] at hg)
  have lo5 : Low h.size h h5 := ⟨by omega, fun k hk => by rw [r5.other k (by omega) (by omega) (fun e => by simp [Value.ownBlock] at e)]; exact lo4.same k hk⟩
  have hsum : ((HI * B : Nat) : Int) + (LO : Int) = ((HI * B + LO : Nat) : Int) := by omega
  have hadd := intAdd_ok h5 h.size h.size h3.size ((HI * B : Nat) : Int) (LO : Int) nv3 nv5 y5 r5.zv (by omega) (by omega) (by simp only [B] at *; omega)
  rw [hsum] at hadd
  refine s_call Yba.call7 rfl rfl hadd ?_
  rintro _ h6 ⟨rfl, nv6, r6⟩
  have s6 := r6.size
  have lo6 : Low h.size h h6 := ⟨by omega, fun k hk => by rw [r6.other k (by omega) (by omega) (fun e => by have := (nv_lt y5.2 e).1; omega)]; exact lo5.same k hk⟩
  rw [← hz] at r6
  cases ng with
  | false =>
    have hz0 : 0 ≤ z := by have : ¬ z < 0 := by simpa using hng.symm
                           omega
    have ez : ((z.natAbs : Nat) : Int) = z := by omega
    rw [ez] at r6
    repeat (first | refine c_seq ?_ | refine c_region ?_ | refine c_block ?_ | refine c_skip ?_ | refine c_exit ?_ | refine c_ret ?_ | refine n_then ?_ | refine n_block ?_ | refine x_then ?_ | refine x_block_eq ?_ | refine x_block_ne rfl ?_ | refine r_then ?_ | refine r_block ?_ | refine s_nil ?_ | refine c_true rfl ?_ | refine c_false rfl ?_ | refine s_pur (p_move rfl) rfl ?_ | refine s_pur (p_assign rfl) rfl ?_ | refine s_pur (p_nil rfl) rfl ?_ | refine s_pur (p_pick_t rfl rfl) rfl ?_ | refine s_pur (p_pick_f rfl rfl) rfl ?_)
    exact ret1 Yba.results6 rfl (hR h6 lo6 ⟨nv6, r6.zv⟩)
  | true =>
    have hz0 : z < 0 := by simpa using hng.symm
    repeat (first | refine c_seq ?_ | refine c_region ?_ | refine c_block ?_ | refine c_skip ?_ | refine c_exit ?_ | refine c_ret ?_ | refine n_then ?_ | refine n_block ?_ | refine x_then ?_ | refine x_block_eq ?_ | refine x_block_ne rfl ?_ | refine r_then ?_ | refine r_block ?_ | refine s_nil ?_ | refine c_true rfl ?_ | refine c_false rfl ?_ | refine s_pur (p_move rfl) rfl ?_ | refine s_pur (p_assign rfl) rfl ?_ | refine s_pur (p_nil rfl) rfl ?_ | refine s_pur (p_pick_t rfl rfl) rfl ?_ | refine s_pur (p_pick_f rfl rfl) rfl ?_)
    refine s_call Yba.call19 rfl rfl (intNeg_ok h6 h.size h.size _ nv6 r6.zv) ?_
    rintro _ h7 ⟨rfl, r7⟩
    have s7 := r7.size
    have ez : -((z.natAbs : Nat) : Int) = z := by omega
    rw [ez] at r7
    repeat (first | refine c_seq ?_ | refine c_region ?_ | refine c_block ?_ | refine c_skip ?_ | refine c_exit ?_ | refine c_ret ?_ | refine n_then ?_ | refine n_block ?_ | refine x_then ?_ | refine x_block_eq ?_ | refine x_block_ne rfl ?_ | refine r_then ?_ | refine r_block ?_ | refine s_nil ?_ | refine c_true rfl ?_ | refine c_false rfl ?_ | refine s_pur (p_move rfl) rfl ?_ | refine s_pur (p_assign rfl) rfl ?_ | refine s_pur (p_nil rfl) rfl ?_ | refine s_pur (p_pick_t rfl rfl) rfl ?_ | refine s_pur (p_pick_f rfl rfl) rfl ?_)
    exact ret1 Yba.results6 rfl (hR h7 ⟨by omega, fun k hk => by rw [r7.other k (by omega) (by omega) (fun e => by have := (nv_lt r6.zv.2 e).1; omega)]; exact lo6.same k hk⟩ ⟨nv6, r7.zv⟩)
end Go.Proofs.Ybulkdirs
