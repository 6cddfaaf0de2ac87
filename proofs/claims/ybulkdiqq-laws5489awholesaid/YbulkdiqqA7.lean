/-
  A7: crossings.order, whole.
-/
import Derived.Test.YbulkdiqqA6
namespace Go.Proofs.Ybulkdiqq
set_option linter.unusedSimpArgs false
set_option linter.unusedVariables false
open Go Go.RowKit V Flt Srt
set_option maxRecDepth 100000

theorem cArr_set5 (c0 c1 c2 xv yv bx by_ c7 c8 c9 c10 c11 c12 u : Value) : (cArr c0 c1 c2 xv yv bx by_ c7 c8 c9 c10 c11 c12).setIfInBounds 5 u = cArr c0 c1 c2 xv yv u by_ c7 c8 c9 c10 c11 c12 := rfl
theorem cArr_set6 (c0 c1 c2 xv yv bx by_ c7 c8 c9 c10 c11 c12 u : Value) : (cArr c0 c1 c2 xv yv bx by_ c7 c8 c9 c10 c11 c12).setIfInBounds 6 u = cArr c0 c1 c2 xv yv bx u c7 c8 c9 c10 c11 c12 := rfl

/-- x[:0] of a slice of the call's own. -/
theorem V.Owns.cut0 {h : Heap} {base : Nat} {g n c : Nat} {xs : List Value} (ho : Owns h base 3 1 (.slice (some ⟨g, 0, none⟩) n c) n xs) : Owns h base 3 1 (.slice (some ⟨g, 0, none⟩) 0 c) 0 [] := by
  rcases ho.shape with ⟨hv, hn⟩ | ⟨g', cap, cur, hv, hb, hg, hnc, hm, hs, ht⟩
  · simp at hv
  · simp only [Value.slice.injEq, Option.some.injEq, Addr.mk.injEq, true_and, and_true] at hv
    obtain ⟨rfl, rfl⟩ := hv
    exact ⟨by simp, .inr ⟨g, c, cur, rfl, hb, hg, by omega, hm, hs, by simp⟩⟩
theorem V.Owns.capn {h : Heap} {base : Nat} {g n c : Nat} {xs : List Value} (ho : Owns h base 3 1 (.slice (some ⟨g, 0, none⟩) n c) n xs) : n ≤ c := by
  rcases ho.shape with ⟨hv, hn⟩ | ⟨g', cap, cur, hv, hb, hg, hnc, hm, hs, ht⟩
  · simp at hv
  · simp only [Value.slice.injEq, Option.some.injEq, Addr.mk.injEq, true_and, and_true] at hv
    obtain ⟨rfl, rfl⟩ := hv
    exact hnc

set_option maxHeartbeats 4000000 in
theorem order_ok (h : Heap) (base bc bw n gx gy cx cy : Nat) (pr : Nat → Bool) (p : Int) (b0 b1 : List Nat) (KX KY : Nat → Int) (c0 c1 c2 xv yv c7 c8 c9 c10 c11 c12 : Value)
    (hC : h[bc]? = some (.cells (cArr c0 c1 c2 xv yv (.slice (some ⟨gx, 0, none⟩) b0.length cx) (.slice (some ⟨gy, 0, none⟩) b1.length cy) c7 c8 c9 c10 c11 c12) 45 (0, 0)))
    (hw : ∀ i, i < n → hc h bw (0 + i * 12 + 3) = some (.bool (pr i)))
    (ox : Owns h base 3 1 (.slice (some ⟨gx, 0, none⟩) b0.length cx) b0.length (ints (nats b0))) (oy : Owns h base 3 1 (.slice (some ⟨gy, 0, none⟩) b1.length cy) b1.length (ints (nats b1)))
    (hbx : bc ≠ gx) (hby : bc ≠ gy) (hxy : gx ≠ gy) (hw1 : bw ≠ bc) (hw2 : bw ≠ gx) (hw3 : bw ≠ gy) (hbase : base ≤ h.size)
    (hxv : SlF h xv n KX) (hyv : SlF h yv n KY) (hxo : ∀ k, xv.ownBlock = some k → k < h.size ∧ k ≠ bc ∧ k ≠ gx ∧ k ≠ gy) (hyo : ∀ k, yv.ownBlock = some k → k < h.size ∧ k ≠ bc ∧ k ≠ gx ∧ k ≠ gy)
    (hm0 : ∀ x ∈ b0, x < n) (hm1 : ∀ x ∈ b1, x < n) (hl0 : b0.length ≤ 1000) (hl1 : b1.length ≤ 1000) (hn : n ≤ 1000) :
    CallsH Yba.prog 11 #[.pointer (some ⟨bc, 0, none⟩), .slice (some ⟨bw, 0, none⟩) n n, .int .i64 p] h
      (fun _ h' => ∃ zx zy u v, zx.Perm (if sameTo pr b0 p b0.length then b0 else indOf pr n) ∧ Asc KX zx zx.length ∧ zy.Perm (if sameTo pr b0 p b0.length then b1 else indOf pr n) ∧ Asc KY zy zy.length ∧
        Tail h h' base bc n KX KY c0 c1 c2 xv yv c7 c8 c9 c10 c11 c12 gx gy zx zy u v) := by
  have hbc := lt_of_get hC
  have hgx := ox.lt gx rfl
  have hgy := oy.lt gy rfl
  refine calls_of [(0, .pointer (some ⟨bc, 0, none⟩)), (1, .slice (some ⟨bw, 0, none⟩) n n), (2, .int .i64 p)] Yba.func11 rfl Yba.ntmps11 (by simp) (.cons rfl (.cons rfl (.cons rfl .nil))) ?_
  intro w0 hw0
  refine c_mid [(0, .pointer (some ⟨bc, 0, none⟩)), (1, .slice (some ⟨bw, 0, none⟩) n n), (6, .bool (sameTo pr b0 p 0))] (fun hh => h = hh) ?_ ?_
  · repeat (first | refine c_seq ?_ | refine c_region ?_ | refine c_block ?_ | refine c_skip ?_ | refine c_exit ?_ | refine c_ret ?_ | refine n_then ?_ | refine n_block ?_ | refine x_then ?_ | refine x_block_eq ?_ | refine x_block_ne rfl ?_ | refine r_then ?_ | refine r_block ?_ | refine s_nil ?_ | refine c_true rfl ?_ | refine c_false rfl ?_ | refine s_pur (p_move rfl) rfl ?_ | refine s_pur (p_assign rfl) rfl ?_ | refine s_pur (p_nil rfl) rfl ?_ | refine s_pur (p_pick_t rfl rfl) rfl ?_ | refine s_pur (p_pick_f rfl rfl) rfl ?_ | refine s_pur (p_len rfl Yba.underlying23) rfl ?_ | refine s_pur (p_idx1 rfl rfl rfl (by omega) Yba.underlying23 Yba.sizeOf3) rfl ?_ | refine s_pur (p_fld (off := 5) rfl Yba.underlying45 rfl Yba.sizeOf23 rfl) rfl ?_ | refine s_pur (p_load rfl Yba.isAgg23 ((hc_of hC).trans rfl)) rfl ?_ | refine s_pur (p_lss rfl rfl) rfl ?_ | refine s_pur (p_leq rfl rfl) rfl ?_ | refine s_pur (p_gtr rfl rfl) rfl ?_ | refine s_pur (p_geq rfl rfl) rfl ?_ | refine s_pur (p_eql rfl rfl) rfl ?_ | refine s_pur (p_neq rfl rfl) rfl ?_)
    exact m_done rfl (.cons rfl (.cons rfl (.cons' rfl (by simp [sameTo]) .nil)))
  rintro _ rfl
  refine c_mid [(0, .pointer (some ⟨bc, 0, none⟩)), (1, .slice (some ⟨bw, 0, none⟩) n n), (6, .bool (sameTo pr b0 p b0.length))] (fun hh => h = hh) ?_ ?_
  · repeat (first | refine c_seq ?_ | refine c_region ?_ | refine c_block ?_ | refine c_skip ?_ | refine c_exit ?_ | refine c_ret ?_ | refine n_then ?_ | refine n_block ?_ | refine x_then ?_ | refine x_block_eq ?_ | refine x_block_ne rfl ?_ | refine r_then ?_ | refine r_block ?_ | refine s_nil ?_ | refine c_true rfl ?_ | refine c_false rfl ?_ | refine s_pur (p_move rfl) rfl ?_ | refine s_pur (p_assign rfl) rfl ?_ | refine s_pur (p_nil rfl) rfl ?_ | refine s_pur (p_pick_t rfl rfl) rfl ?_ | refine s_pur (p_pick_f rfl rfl) rfl ?_ | refine s_pur (p_len rfl Yba.underlying23) rfl ?_ | refine s_pur (p_idx1 rfl rfl rfl (by omega) Yba.underlying23 Yba.sizeOf3) rfl ?_ | refine s_pur (p_fld (off := 5) rfl Yba.underlying45 rfl Yba.sizeOf23 rfl) rfl ?_ | refine s_pur (p_load rfl Yba.isAgg23 ((hc_of hC).trans rfl)) rfl ?_ | refine s_pur (p_lss rfl rfl) rfl ?_ | refine s_pur (p_leq rfl rfl) rfl ?_ | refine s_pur (p_gtr rfl rfl) rfl ?_ | refine s_pur (p_geq rfl rfl) rfl ?_ | refine s_pur (p_eql rfl rfl) rfl ?_ | refine s_pur (p_neq rfl rfl) rfl ?_)
    refine c_loop (fun x : Nat => [(0, .pointer (some ⟨bc, 0, none⟩)), (1, .slice (some ⟨bw, 0, none⟩) n n), (6, .bool (sameTo pr b0 p x)), (20, .slice (some ⟨gx, 0, none⟩) b0.length cx), (21, .int .i64 b0.length), (22, .int .i64 x)])
      (fun x hh => x ≤ b0.length ∧ h = hh) (fun x => b0.length - x) 0 ⟨by omega, rfl⟩ (.cons rfl (.cons rfl (.cons rfl (.cons rfl (.cons rfl (.cons rfl .nil)))))) ?_
    rintro k _ ⟨hk, rfl⟩
    by_cases hlt : k < b0.length
    · have l1 : hc h gx (0 + k) = some (.int .i64 ((b0.getD k 0 : Nat) : Int)) := by rw [Nat.zero_add]; exact ox.cell rfl (ints_get b0 k hlt)
      have hi : b0.getD k 0 < n := by rw [getD_lt b0 k hlt]; exact hm0 _ (List.getElem_mem _)
      have hs := sameTo_succ pr b0 p k hlt
      generalize b0.getD k 0 = i at l1 hi hs
      have l2 := hw i hi
      generalize sameTo pr b0 p k = b at hs
      cases b
      · repeat (first | refine c_seq ?_ | refine c_region ?_ | refine c_block ?_ | refine c_skip ?_ | refine c_exit ?_ | refine c_ret ?_ | refine n_then ?_ | refine n_block ?_ | refine x_then ?_ | refine x_block_eq ?_ | refine x_block_ne rfl ?_ | refine r_then ?_ | refine r_block ?_ | refine s_nil ?_ | refine c_true rfl ?_ | refine c_false rfl ?_ | refine s_pur (p_move rfl) rfl ?_ | refine s_pur (p_assign rfl) rfl ?_ | refine s_pur (p_nil rfl) rfl ?_ | refine s_pur (p_pick_t rfl rfl) rfl ?_ | refine s_pur (p_pick_f rfl rfl) rfl ?_ | refine s_pur (p_len rfl Yba.underlying23) rfl ?_ | refine s_pur (p_idx1 rfl rfl rfl (by omega) Yba.underlying23 Yba.sizeOf3) rfl ?_ | refine s_pur (p_len rfl Yba.underlying26) rfl ?_ | refine s_pur (p_idx rfl rfl rfl (by omega) Yba.underlying26 Yba.sizeOf33) rfl ?_ | refine s_pur (p_fld (off := 3) rfl Yba.underlying33 rfl Yba.sizeOf4 rfl) rfl ?_ | refine s_pur (p_load rfl Yba.isAgg3 (by assumption)) rfl ?_ | refine s_pur (p_load rfl Yba.isAgg4 (by assumption)) rfl ?_ | refine s_pur (p_lssT rfl rfl (by omega)) rfl ?_ | refine s_pur (p_lssF rfl rfl (by omega)) rfl ?_ | refine s_pur (p_leqT rfl rfl (by omega)) rfl ?_ | refine s_pur (p_leqF rfl rfl (by omega)) rfl ?_ | refine s_pur (p_gtrT rfl rfl (by omega)) rfl ?_ | refine s_pur (p_gtrF rfl rfl (by omega)) rfl ?_ | refine s_pur (p_geqT rfl rfl (by omega)) rfl ?_ | refine s_pur (p_geqF rfl rfl (by omega)) rfl ?_ | refine s_pur (p_eqlT rfl rfl (by omega)) rfl ?_ | refine s_pur (p_eqlF rfl rfl (by omega)) rfl ?_ | refine s_pur (p_neqT rfl rfl (by omega)) rfl ?_ | refine s_pur (p_neqF rfl rfl (by omega)) rfl ?_ | refine s_pur (p_add rfl rfl rfl (by omega) (by omega)) rfl ?_ | refine s_skip rfl rfl rfl ?_ | refine s_skip' rfl rfl rfl ?_ | refine s_pur_g rfl (p_move rfl) rfl ?_ | refine s_pur_g rfl (p_assign rfl) rfl ?_ | refine s_pur_g rfl (p_nil rfl) rfl ?_ | refine s_pur_g rfl (p_pick_t rfl rfl) rfl ?_ | refine s_pur_g rfl (p_pick_f rfl rfl) rfl ?_ | refine s_pur_g rfl (p_len rfl Yba.underlying23) rfl ?_ | refine s_pur_g rfl (p_idx1 rfl rfl rfl (by omega) Yba.underlying23 Yba.sizeOf3) rfl ?_ | refine s_pur_g rfl (p_len rfl Yba.underlying26) rfl ?_ | refine s_pur_g rfl (p_idx rfl rfl rfl (by omega) Yba.underlying26 Yba.sizeOf33) rfl ?_ | refine s_pur_g rfl (p_fld (off := 3) rfl Yba.underlying33 rfl Yba.sizeOf4 rfl) rfl ?_ | refine s_pur_g rfl (p_load rfl Yba.isAgg3 (by assumption)) rfl ?_ | refine s_pur_g rfl (p_load rfl Yba.isAgg4 (by assumption)) rfl ?_ | refine s_pur_g rfl (p_lssT rfl rfl (by omega)) rfl ?_ | refine s_pur_g rfl (p_lssF rfl rfl (by omega)) rfl ?_ | refine s_pur_g rfl (p_leqT rfl rfl (by omega)) rfl ?_ | refine s_pur_g rfl (p_leqF rfl rfl (by omega)) rfl ?_ | refine s_pur_g rfl (p_gtrT rfl rfl (by omega)) rfl ?_ | refine s_pur_g rfl (p_gtrF rfl rfl (by omega)) rfl ?_ | refine s_pur_g rfl (p_geqT rfl rfl (by omega)) rfl ?_ | refine s_pur_g rfl (p_geqF rfl rfl (by omega)) rfl ?_ | refine s_pur_g rfl (p_eqlT rfl rfl (by omega)) rfl ?_ | refine s_pur_g rfl (p_eqlF rfl rfl (by omega)) rfl ?_ | refine s_pur_g rfl (p_neqT rfl rfl (by omega)) rfl ?_ | refine s_pur_g rfl (p_neqF rfl rfl (by omega)) rfl ?_ | refine s_pur_g rfl (p_add rfl rfl rfl (by omega) (by omega)) rfl ?_)
        exact c_next (k + 1) ⟨hlt, rfl⟩ (.cons rfl (.cons rfl (.cons' rfl (by rw [hs]; rfl) (.cons rfl (.cons rfl (.cons rfl .nil)))))) (by omega)
      · repeat (first | refine c_seq ?_ | refine c_region ?_ | refine c_block ?_ | refine c_skip ?_ | refine c_exit ?_ | refine c_ret ?_ | refine n_then ?_ | refine n_block ?_ | refine x_then ?_ | refine x_block_eq ?_ | refine x_block_ne rfl ?_ | refine r_then ?_ | refine r_block ?_ | refine s_nil ?_ | refine c_true rfl ?_ | refine c_false rfl ?_ | refine s_pur (p_move rfl) rfl ?_ | refine s_pur (p_assign rfl) rfl ?_ | refine s_pur (p_nil rfl) rfl ?_ | refine s_pur (p_pick_t rfl rfl) rfl ?_ | refine s_pur (p_pick_f rfl rfl) rfl ?_ | refine s_pur (p_len rfl Yba.underlying23) rfl ?_ | refine s_pur (p_idx1 rfl rfl rfl (by omega) Yba.underlying23 Yba.sizeOf3) rfl ?_ | refine s_pur (p_len rfl Yba.underlying26) rfl ?_ | refine s_pur (p_idx rfl rfl rfl (by omega) Yba.underlying26 Yba.sizeOf33) rfl ?_ | refine s_pur (p_fld (off := 3) rfl Yba.underlying33 rfl Yba.sizeOf4 rfl) rfl ?_ | refine s_pur (p_load rfl Yba.isAgg3 (by assumption)) rfl ?_ | refine s_pur (p_load rfl Yba.isAgg4 (by assumption)) rfl ?_ | refine s_pur (p_lssT rfl rfl (by omega)) rfl ?_ | refine s_pur (p_lssF rfl rfl (by omega)) rfl ?_ | refine s_pur (p_leqT rfl rfl (by omega)) rfl ?_ | refine s_pur (p_leqF rfl rfl (by omega)) rfl ?_ | refine s_pur (p_gtrT rfl rfl (by omega)) rfl ?_ | refine s_pur (p_gtrF rfl rfl (by omega)) rfl ?_ | refine s_pur (p_geqT rfl rfl (by omega)) rfl ?_ | refine s_pur (p_geqF rfl rfl (by omega)) rfl ?_ | refine s_pur (p_eqlT rfl rfl (by omega)) rfl ?_ | refine s_pur (p_eqlF rfl rfl (by omega)) rfl ?_ | refine s_pur (p_neqT rfl rfl (by omega)) rfl ?_ | refine s_pur (p_neqF rfl rfl (by omega)) rfl ?_ | refine s_pur (p_add rfl rfl rfl (by omega) (by omega)) rfl ?_ | refine s_skip rfl rfl rfl ?_ | refine s_skip' rfl rfl rfl ?_ | refine s_pur_g rfl (p_move rfl) rfl ?_ | refine s_pur_g rfl (p_assign rfl) rfl ?_ | refine s_pur_g rfl (p_nil rfl) rfl ?_ | refine s_pur_g rfl (p_pick_t rfl rfl) rfl ?_ | refine s_pur_g rfl (p_pick_f rfl rfl) rfl ?_ | refine s_pur_g rfl (p_len rfl Yba.underlying23) rfl ?_ | refine s_pur_g rfl (p_idx1 rfl rfl rfl (by omega) Yba.underlying23 Yba.sizeOf3) rfl ?_ | refine s_pur_g rfl (p_len rfl Yba.underlying26) rfl ?_ | refine s_pur_g rfl (p_idx rfl rfl rfl (by omega) Yba.underlying26 Yba.sizeOf33) rfl ?_ | refine s_pur_g rfl (p_fld (off := 3) rfl Yba.underlying33 rfl Yba.sizeOf4 rfl) rfl ?_ | refine s_pur_g rfl (p_load rfl Yba.isAgg3 (by assumption)) rfl ?_ | refine s_pur_g rfl (p_load rfl Yba.isAgg4 (by assumption)) rfl ?_ | refine s_pur_g rfl (p_lssT rfl rfl (by omega)) rfl ?_ | refine s_pur_g rfl (p_lssF rfl rfl (by omega)) rfl ?_ | refine s_pur_g rfl (p_leqT rfl rfl (by omega)) rfl ?_ | refine s_pur_g rfl (p_leqF rfl rfl (by omega)) rfl ?_ | refine s_pur_g rfl (p_gtrT rfl rfl (by omega)) rfl ?_ | refine s_pur_g rfl (p_gtrF rfl rfl (by omega)) rfl ?_ | refine s_pur_g rfl (p_geqT rfl rfl (by omega)) rfl ?_ | refine s_pur_g rfl (p_geqF rfl rfl (by omega)) rfl ?_ | refine s_pur_g rfl (p_eqlT rfl rfl (by omega)) rfl ?_ | refine s_pur_g rfl (p_eqlF rfl rfl (by omega)) rfl ?_ | refine s_pur_g rfl (p_neqT rfl rfl (by omega)) rfl ?_ | refine s_pur_g rfl (p_neqF rfl rfl (by omega)) rfl ?_ | refine s_pur_g rfl (p_add rfl rfl rfl (by omega) (by omega)) rfl ?_)
        exact c_next (k + 1) ⟨hlt, rfl⟩ (.cons rfl (.cons rfl (.cons' rfl (by rw [hs]; rfl) (.cons rfl (.cons rfl (.cons rfl .nil)))))) (by omega)
    · have : k = b0.length := by omega
      subst this
      repeat (first | refine c_seq ?_ | refine c_region ?_ | refine c_block ?_ | refine c_skip ?_ | refine c_exit ?_ | refine c_ret ?_ | refine n_then ?_ | refine n_block ?_ | refine x_then ?_ | refine x_block_eq ?_ | refine x_block_ne rfl ?_ | refine r_then ?_ | refine r_block ?_ | refine s_nil ?_ | refine c_true rfl ?_ | refine c_false rfl ?_ | refine s_pur (p_move rfl) rfl ?_ | refine s_pur (p_assign rfl) rfl ?_ | refine s_pur (p_nil rfl) rfl ?_ | refine s_pur (p_pick_t rfl rfl) rfl ?_ | refine s_pur (p_pick_f rfl rfl) rfl ?_ | refine s_pur (p_lssT rfl rfl (by omega)) rfl ?_ | refine s_pur (p_lssF rfl rfl (by omega)) rfl ?_ | refine s_pur (p_leqT rfl rfl (by omega)) rfl ?_ | refine s_pur (p_leqF rfl rfl (by omega)) rfl ?_ | refine s_pur (p_gtrT rfl rfl (by omega)) rfl ?_ | refine s_pur (p_gtrF rfl rfl (by omega)) rfl ?_ | refine s_pur (p_geqT rfl rfl (by omega)) rfl ?_ | refine s_pur (p_geqF rfl rfl (by omega)) rfl ?_ | refine s_pur (p_eqlT rfl rfl (by omega)) rfl ?_ | refine s_pur (p_eqlF rfl rfl (by omega)) rfl ?_ | refine s_pur (p_neqT rfl rfl (by omega)) rfl ?_ | refine s_pur (p_neqF rfl rfl (by omega)) rfl ?_)
      exact m_done rfl (.cons rfl (.cons rfl (.cons rfl .nil)))
  rintro _ rfl
  have tailed : ∀ hh mx my u v, (mx = if sameTo pr b0 p b0.length then b0 else indOf pr n) → (my = if sameTo pr b0 p b0.length then b1 else indOf pr n) → Tail h hh base bc n KX KY c0 c1 c2 xv yv c7 c8 c9 c10 c11 c12 gx gy mx my u v →
      V.Fin 97 w0 (CW Yba.prog (V.sub (Yba.f11.body.getD .skip) [1, 1, 1]) (bodyPost Yba.prog Yba.f11 (PostR w0 fun _ h' => ∃ zx zy u v, zx.Perm (if sameTo pr b0 p b0.length then b0 else indOf pr n) ∧ Asc KX zx zx.length ∧ zy.Perm (if sameTo pr b0 p b0.length then b1 else indOf pr n) ∧ Asc KY zy zy.length ∧
        Tail h h' base bc n KX KY c0 c1 c2 xv yv c7 c8 c9 c10 c11 c12 gx gy zx zy u v))) [(0, .pointer (some ⟨bc, 0, none⟩))] hh := by
    intro hh mx my u v emx emy T
    have hmxl : ∀ x ∈ mx, x < n := by rw [emx]; split; exact hm0; exact indOf_lt pr n
    have hmyl : ∀ x ∈ my, x < n := by rw [emy]; split; exact hm1; exact indOf_lt pr n
    have hmx2 : mx.length ≤ 1000 := by rw [emx]; split; exact hl0; exact Nat.le_trans (indOf_length_le pr n) hn
    have hmy2 : my.length ≤ 1000 := by rw [emy]; split; exact hl1; exact Nat.le_trans (indOf_length_le pr n) hn
    refine tail_ok T hbc hbx hby hxv hyv hxo hyo hmxl hmyl hmx2 hmy2 ?_
    intro h' zx zy px ax py ay T'
    exact ⟨zx, zy, u, v, emx ▸ px, ax, emy ▸ py, ay, T'⟩
  refine c_mid [(0, .pointer (some ⟨bc, 0, none⟩))] (fun hh => ∃ mx my u v, (mx = if sameTo pr b0 p b0.length then b0 else indOf pr n) ∧ (my = if sameTo pr b0 p b0.length then b1 else indOf pr n) ∧ Tail h hh base bc n KX KY c0 c1 c2 xv yv c7 c8 c9 c10 c11 c12 gx gy mx my u v) ?_ (fun hh ⟨mx, my, u, v, e1, e2, T⟩ => tailed hh mx my u v e1 e2 T)
  clear tailed
  generalize hsame : sameTo pr b0 p b0.length = same
  cases same
  · -- the nodes present, listed anew
    simp only [Bool.false_eq_true, if_false]
    repeat (first | refine c_seq ?_ | refine c_region ?_ | refine c_block ?_ | refine c_skip ?_ | refine c_exit ?_ | refine c_ret ?_ | refine n_then ?_ | refine n_block ?_ | refine x_then ?_ | refine x_block_eq ?_ | refine x_block_ne rfl ?_ | refine r_then ?_ | refine r_block ?_ | refine s_nil ?_ | refine c_true rfl ?_ | refine c_false rfl ?_ | refine s_pur (p_move rfl) rfl ?_ | refine s_pur (p_assign rfl) rfl ?_ | refine s_pur (p_nil rfl) rfl ?_ | refine s_pur (p_pick_t rfl rfl) rfl ?_ | refine s_pur (p_pick_f rfl rfl) rfl ?_ | refine s_pur (p_fld (off := 5) rfl Yba.underlying45 rfl Yba.sizeOf23 rfl) rfl ?_ | refine s_pur (p_not rfl) rfl ?_ | refine s_pur (p_load rfl Yba.isAgg23 ((hc_of hC).trans rfl)) rfl ?_ | refine s_pur (p_reslice (m := 0) rfl rfl (by omega) Yba.underlying23 Yba.sizeOf3) rfl ?_)
    refine s_eff0 (e_store rfl rfl rfl Yba.sizeOf23 hC (by rw [cArr_size]; omega)) ?_
    rintro _ h1 hu1
    have hu1' : Upd h h1 bc (.cells (cArr c0 c1 c2 xv yv (.slice (some ⟨gx, 0, none⟩) 0 cx) (.slice (some ⟨gy, 0, none⟩) b1.length cy) c7 c8 c9 c10 c11 c12) 45 (0, 0)) := hu1
    clear hu1
    repeat (first | refine c_seq ?_ | refine c_region ?_ | refine c_block ?_ | refine c_skip ?_ | refine c_exit ?_ | refine c_ret ?_ | refine n_then ?_ | refine n_block ?_ | refine x_then ?_ | refine x_block_eq ?_ | refine x_block_ne rfl ?_ | refine r_then ?_ | refine r_block ?_ | refine s_nil ?_ | refine c_true rfl ?_ | refine c_false rfl ?_ | refine s_pur (p_move rfl) rfl ?_ | refine s_pur (p_assign rfl) rfl ?_ | refine s_pur (p_nil rfl) rfl ?_ | refine s_pur (p_pick_t rfl rfl) rfl ?_ | refine s_pur (p_pick_f rfl rfl) rfl ?_ | refine s_pur (p_len rfl Yba.underlying26) rfl ?_ | refine s_pur (p_idx rfl rfl rfl (by omega) Yba.underlying26 Yba.sizeOf33) rfl ?_)
    refine c_loop (fun x : Nat × Value => [(0, .pointer (some ⟨bc, 0, none⟩)), (1, .slice (some ⟨bw, 0, none⟩) n n), (46, .int .i64 n), (47, .int .i64 x.1)])
      (fun x hh => x.1 ≤ n ∧ Owns hh base 3 1 x.2 (indOf pr x.1).length (ints (nats (indOf pr x.1))) ∧ hh[bc]? = some (.cells (cArr c0 c1 c2 xv yv x.2 (.slice (some ⟨gy, 0, none⟩) b1.length cy) c7 c8 c9 c10 c11 c12) 45 (0, 0)) ∧
        h.size ≤ hh.size ∧ (∀ q, q < h.size → q ≠ bc → q ≠ gx → hh[q]? = h[q]?) ∧ (∀ q, x.2.ownBlock = some q → q = gx ∨ h.size ≤ q) ∧ ¬ x.2 = .slice none 0 0)
      (fun x => n - x.1) (0, .slice (some ⟨gx, 0, none⟩) 0 cx)
      ⟨by simp, ox.cut0.keep (fun k _ _ hk => hu1'.other k (by simp [Value.ownBlock] at hk; omega)), hu1'.at_, by have := hu1'.size; omega, fun q _ hq _ => hu1'.other q hq, fun q hq => by simp [Value.ownBlock] at hq; omega, by simp⟩
      (.cons rfl (.cons rfl (.cons rfl (.cons rfl .nil)))) ?_
    rintro ⟨k, u⟩ hr ⟨hk, ou, hcb, hsz, hoth, huo, hnn⟩
    simp only at hk ou hcb huo hnn
    refine cut [(0, .pointer (some ⟨bc, 0, none⟩)), (1, .slice (some ⟨bw, 0, none⟩) n n), (46, .int .i64 n), (47, .int .i64 k)] Sub.refl ?_
    have hle := indOf_length_le pr k
    by_cases hlt : k < n
    · have l1 := hw k hlt
      rw [← hc_congr (hoth bw (lt_of_hc l1) hw1 hw2)] at l1
      have hsucc := indOf_succ pr k
      by_cases hp : pr k = true
      · rw [hp] at l1
        rw [hp, if_pos rfl] at hsucc
        repeat (first | refine c_seq ?_ | refine c_region ?_ | refine c_block ?_ | refine c_skip ?_ | refine c_exit ?_ | refine c_ret ?_ | refine n_then ?_ | refine n_block ?_ | refine x_then ?_ | refine x_block_eq ?_ | refine x_block_ne rfl ?_ | refine r_then ?_ | refine r_block ?_ | refine s_nil ?_ | refine c_true rfl ?_ | refine c_false rfl ?_ | refine s_pur (p_move rfl) rfl ?_ | refine s_pur (p_assign rfl) rfl ?_ | refine s_pur (p_nil rfl) rfl ?_ | refine s_pur (p_pick_t rfl rfl) rfl ?_ | refine s_pur (p_pick_f rfl rfl) rfl ?_ | refine s_pur (p_len rfl Yba.underlying26) rfl ?_ | refine s_pur (p_idx rfl rfl rfl (by omega) Yba.underlying26 Yba.sizeOf33) rfl ?_ | refine s_pur (p_fld (off := 3) rfl Yba.underlying33 rfl Yba.sizeOf4 rfl) rfl ?_ | refine s_pur (p_load rfl Yba.isAgg4 (by assumption)) rfl ?_ | refine s_pur (p_fld (off := 5) rfl Yba.underlying45 rfl Yba.sizeOf23 rfl) rfl ?_ | refine s_pur (p_load rfl Yba.isAgg23 ((hc_of hcb).trans rfl)) rfl ?_ | refine s_pur (p_lssT rfl rfl (by omega)) rfl ?_ | refine s_pur (p_lssF rfl rfl (by omega)) rfl ?_ | refine s_pur (p_leqT rfl rfl (by omega)) rfl ?_ | refine s_pur (p_leqF rfl rfl (by omega)) rfl ?_ | refine s_pur (p_gtrT rfl rfl (by omega)) rfl ?_ | refine s_pur (p_gtrF rfl rfl (by omega)) rfl ?_ | refine s_pur (p_geqT rfl rfl (by omega)) rfl ?_ | refine s_pur (p_geqF rfl rfl (by omega)) rfl ?_ | refine s_pur (p_eqlT rfl rfl (by omega)) rfl ?_ | refine s_pur (p_eqlF rfl rfl (by omega)) rfl ?_ | refine s_pur (p_neqT rfl rfl (by omega)) rfl ?_ | refine s_pur (p_neqF rfl rfl (by omega)) rfl ?_)
        refine s_eff (e_slice1 rfl Yba.underlying23 Yba.sizeOf3 Yba.zeroValue3 rfl) rfl ?_
        rintro _ hA ⟨rfl, hnA⟩
        refine s_eff (app23 rfl rfl (ou.new hnA) (by rw [hc_of hnA.at_]; rfl) (by omega) (by have := hnA.size; omega)) rfl ?_
        rintro v' hB ⟨oB, gB, nnB, ownB⟩
        have bcu : ∀ q, u.ownBlock = some q → q ≠ bc := fun q hq e => by rcases huo q hq with r | r <;> omega
        have hcbA : hA[bc]? = some (.cells (cArr c0 c1 c2 xv yv u (.slice (some ⟨gy, 0, none⟩) b1.length cy) c7 c8 c9 c10 c11 c12) 45 (0, 0)) := by rw [hnA.other bc (by omega)]; exact hcb
        have hcbB : hB[bc]? = some (.cells (cArr c0 c1 c2 xv yv u (.slice (some ⟨gy, 0, none⟩) b1.length cy) c7 c8 c9 c10 c11 c12) 45 (0, 0)) := by
          rw [gB.other bc (by have := hnA.size; omega) (fun e => bcu bc e.symm rfl)]; exact hcbA
        repeat (first | refine c_seq ?_ | refine c_region ?_ | refine c_block ?_ | refine c_skip ?_ | refine c_exit ?_ | refine c_ret ?_ | refine n_then ?_ | refine n_block ?_ | refine x_then ?_ | refine x_block_eq ?_ | refine x_block_ne rfl ?_ | refine r_then ?_ | refine r_block ?_ | refine s_nil ?_ | refine c_true rfl ?_ | refine c_false rfl ?_ | refine s_pur (p_move rfl) rfl ?_ | refine s_pur (p_assign rfl) rfl ?_ | refine s_pur (p_nil rfl) rfl ?_ | refine s_pur (p_pick_t rfl rfl) rfl ?_ | refine s_pur (p_pick_f rfl rfl) rfl ?_ | refine s_pur (p_fld (off := 5) rfl Yba.underlying45 rfl Yba.sizeOf23 rfl) rfl ?_)
        refine s_eff0 (e_store rfl rfl (by rcases oB.slice with ⟨a, c, rfl, _⟩; rfl) Yba.sizeOf23 hcbB (by rw [cArr_size]; omega)) ?_
        rintro _ hD huD
        have huD' : Upd hB hD bc (.cells (cArr c0 c1 c2 xv yv v' (.slice (some ⟨gy, 0, none⟩) b1.length cy) c7 c8 c9 c10 c11 c12) 45 (0, 0)) := huD
        clear huD
        have vo : ∀ q, v'.ownBlock = some q → q = gx ∨ h.size ≤ q := fun q hq => by
          rcases ownB with e | e
          · exact huo q (e ▸ hq)
          · rw [e] at hq; simp at hq; have := hnA.size; omega
        repeat (first | refine c_seq ?_ | refine c_region ?_ | refine c_block ?_ | refine c_skip ?_ | refine c_exit ?_ | refine c_ret ?_ | refine n_then ?_ | refine n_block ?_ | refine x_then ?_ | refine x_block_eq ?_ | refine x_block_ne rfl ?_ | refine r_then ?_ | refine r_block ?_ | refine s_nil ?_ | refine c_true rfl ?_ | refine c_false rfl ?_ | refine s_pur (p_move rfl) rfl ?_ | refine s_pur (p_assign rfl) rfl ?_ | refine s_pur (p_nil rfl) rfl ?_ | refine s_pur (p_pick_t rfl rfl) rfl ?_ | refine s_pur (p_pick_f rfl rfl) rfl ?_ | refine s_pur (p_add rfl rfl rfl (by omega) (by omega)) rfl ?_)
        refine c_next (k + 1, v') ⟨hlt, ?_, huD'.at_, by have := hnA.size; have := gB.size; have := huD'.size; omega, ?_, vo, nnB⟩ (.cons rfl (.cons rfl (.cons rfl (.cons rfl .nil)))) (by simp only; omega)
        · have o2 := oB.keep (h' := hD) (fun q _ _ hq => huD'.other q (fun e => by rcases vo q hq with r | r <;> omega))
          simp only
          rw [hsucc, List.length_append]
          have e3 : ints (nats (indOf pr k ++ [k])) = ints (nats (indOf pr k)) ++ [.int .i64 (k : Int)] := by simp [ints, nats]
          rw [e3]
          exact o2
        · intro q h1 h2 h3
          rw [huD'.other q h2, gB.other q (by have := hnA.size; omega) (fun e => by rcases huo q e.symm with r | r <;> omega), hnA.other q (by omega)]
          exact hoth q h1 h2 h3
      · have hp' : pr k = false := by simpa using hp
        rw [hp'] at l1
        rw [hp', if_neg (by simp), List.append_nil] at hsucc
        repeat (first | refine c_seq ?_ | refine c_region ?_ | refine c_block ?_ | refine c_skip ?_ | refine c_exit ?_ | refine c_ret ?_ | refine n_then ?_ | refine n_block ?_ | refine x_then ?_ | refine x_block_eq ?_ | refine x_block_ne rfl ?_ | refine r_then ?_ | refine r_block ?_ | refine s_nil ?_ | refine c_true rfl ?_ | refine c_false rfl ?_ | refine s_pur (p_move rfl) rfl ?_ | refine s_pur (p_assign rfl) rfl ?_ | refine s_pur (p_nil rfl) rfl ?_ | refine s_pur (p_pick_t rfl rfl) rfl ?_ | refine s_pur (p_pick_f rfl rfl) rfl ?_ | refine s_pur (p_len rfl Yba.underlying26) rfl ?_ | refine s_pur (p_idx rfl rfl rfl (by omega) Yba.underlying26 Yba.sizeOf33) rfl ?_ | refine s_pur (p_fld (off := 3) rfl Yba.underlying33 rfl Yba.sizeOf4 rfl) rfl ?_ | refine s_pur (p_load rfl Yba.isAgg4 (by assumption)) rfl ?_ | refine s_pur (p_lssT rfl rfl (by omega)) rfl ?_ | refine s_pur (p_lssF rfl rfl (by omega)) rfl ?_ | refine s_pur (p_leqT rfl rfl (by omega)) rfl ?_ | refine s_pur (p_leqF rfl rfl (by omega)) rfl ?_ | refine s_pur (p_gtrT rfl rfl (by omega)) rfl ?_ | refine s_pur (p_gtrF rfl rfl (by omega)) rfl ?_ | refine s_pur (p_geqT rfl rfl (by omega)) rfl ?_ | refine s_pur (p_geqF rfl rfl (by omega)) rfl ?_ | refine s_pur (p_eqlT rfl rfl (by omega)) rfl ?_ | refine s_pur (p_eqlF rfl rfl (by omega)) rfl ?_ | refine s_pur (p_neqT rfl rfl (by omega)) rfl ?_ | refine s_pur (p_neqF rfl rfl (by omega)) rfl ?_ | refine s_pur (p_add rfl rfl rfl (by omega) (by omega)) rfl ?_)
        refine c_next (k + 1, u) ⟨hlt, ?_, hcb, hsz, hoth, huo, hnn⟩ (.cons rfl (.cons rfl (.cons rfl (.cons rfl .nil)))) (by simp only; omega)
        simp only
        rw [hsucc]; exact ou
    · have : k = n := by omega
      subst this
      obtain ⟨ua, uc, rfl, _⟩ : ∃ ua uc, u = .slice ua (indOf pr k).length uc ∧ True := by
        rcases ou.slice with ⟨a, c, e, _⟩
        exact ⟨a, c, e, trivial⟩
      obtain ⟨ug, rfl⟩ : ∃ g, ua = some ⟨g, 0, none⟩ := by
        rcases ou.shape with ⟨e, _⟩ | ⟨g, cap, cur, e, _⟩
        · exact absurd e hnn
        · simp only [Value.slice.injEq] at e; exact ⟨g, e.1⟩
      have oyh : Owns hr base 3 1 (.slice (some ⟨gy, 0, none⟩) b1.length cy) b1.length (ints (nats b1)) := oy.keep fun q _ hq e => by
        simp [Value.ownBlock] at e
        exact hoth q hq (by omega) (by omega)
      have hug := ou.lt ug rfl
      have hug2 := huo ug rfl
      obtain ⟨i, hi, hz, hs, hby'⟩ := info3
      repeat (first | refine c_seq ?_ | refine c_region ?_ | refine c_block ?_ | refine c_skip ?_ | refine c_exit ?_ | refine c_ret ?_ | refine n_then ?_ | refine n_block ?_ | refine x_then ?_ | refine x_block_eq ?_ | refine x_block_ne rfl ?_ | refine r_then ?_ | refine r_block ?_ | refine s_nil ?_ | refine c_true rfl ?_ | refine c_false rfl ?_ | refine s_pur (p_move rfl) rfl ?_ | refine s_pur (p_assign rfl) rfl ?_ | refine s_pur (p_nil rfl) rfl ?_ | refine s_pur (p_pick_t rfl rfl) rfl ?_ | refine s_pur (p_pick_f rfl rfl) rfl ?_ | refine s_pur (p_lssT rfl rfl (by omega)) rfl ?_ | refine s_pur (p_lssF rfl rfl (by omega)) rfl ?_ | refine s_pur (p_leqT rfl rfl (by omega)) rfl ?_ | refine s_pur (p_leqF rfl rfl (by omega)) rfl ?_ | refine s_pur (p_gtrT rfl rfl (by omega)) rfl ?_ | refine s_pur (p_gtrF rfl rfl (by omega)) rfl ?_ | refine s_pur (p_geqT rfl rfl (by omega)) rfl ?_ | refine s_pur (p_geqF rfl rfl (by omega)) rfl ?_ | refine s_pur (p_eqlT rfl rfl (by omega)) rfl ?_ | refine s_pur (p_eqlF rfl rfl (by omega)) rfl ?_ | refine s_pur (p_neqT rfl rfl (by omega)) rfl ?_ | refine s_pur (p_neqF rfl rfl (by omega)) rfl ?_)
      refine c_held followsM rfl ?_
      refine h_any 0 rfl (by kernel_rfl) rfl (fun _ => p_move rfl) rfl ?_
      refine h_any 1 rfl (by kernel_rfl) rfl (fun _ => p_move rfl) rfl ?_
      refine h_any 2 rfl (by kernel_rfl) rfl (fun _ => p_nil rfl) rfl ?_
      refine h_any 3 rfl (by kernel_rfl) rfl (fun _ => p_fld rfl Yba.underlying45 rfl Yba.sizeOf23 rfl) rfl ?_
      refine h_any 6 rfl (by kernel_rfl) rfl (fun _ => p_move rfl) rfl ?_
      refine h_any 7 rfl (by kernel_rfl) rfl (fun _ => p_nil rfl) rfl ?_
      refine h_any 8 rfl (by kernel_rfl) rfl (fun _ => p_fld rfl Yba.underlying45 rfl Yba.sizeOf23 rfl) rfl ?_
      refine h_take 4 rfl (by kernel_rfl) rfl (p_load rfl Yba.isAgg23 ((hc_of hcb).trans rfl)) rfl ?_
      refine h_any 5 rfl (by kernel_rfl) rfl (fun _ => p_reslice (m := 0) rfl rfl (by omega) Yba.underlying23 Yba.sizeOf3) rfl ?_
      refine h_take 9 rfl (by kernel_rfl) rfl (p_load rfl Yba.isAgg23 ((hc_of hcb).trans rfl)) rfl ?_
      refine h_eff 10 rfl (by kernel_rfl) rfl (e_append rfl rfl Yba.underlying23 hi hz hs hby' rfl (by omega) oyh.cut0 (news := ints (nats (indOf pr k))) (by simp [ints, nats]) ?_ ?_ (by simp only [maxLen]; omega) (by omega) (by omega)) rfl ?_
      · intro j u hj
        rw [add_none, cell_hc, Nat.zero_add]
        exact ou.cell rfl hj
      · intro u hu
        simp only [ints, List.mem_map] at hu
        obtain ⟨_, _, rfl⟩ := hu
        rfl
      rintro v' h2 ⟨o2, g2, _, own2⟩
      have hcb2 : h2[bc]? = some (.cells (cArr c0 c1 c2 xv yv (.slice (some ⟨ug, 0, none⟩) (indOf pr k).length uc) (.slice (some ⟨gy, 0, none⟩) b1.length cy) c7 c8 c9 c10 c11 c12) 45 (0, 0)) := by
        have hne : some bc ≠ (Value.ownBlock (.slice (some ⟨gy, 0, none⟩) 0 cy)) := by
          skip
          intro e; simp [Value.ownBlock] at e; omega
        have := g2.other bc (by omega) hne
        rw [this]; exact hcb
      refine h_any 11 rfl (by kernel_rfl) rfl (fun _ => p_nil rfl) rfl ?_
      refine h_any 12 rfl (by kernel_rfl) rfl (fun _ => p_fld (off := 6) rfl Yba.underlying45 rfl Yba.sizeOf23 rfl) rfl ?_
      refine h_eff0 13 rfl (by kernel_rfl) rfl (e_store rfl rfl (by rcases o2.slice with ⟨a, c, rfl, _⟩; rfl) Yba.sizeOf23 hcb2 (by rw [cArr_size]; omega)) ?_
      rintro _ h3 hu3
      have hu3' : Upd h2 h3 bc (.cells (cArr c0 c1 c2 xv yv (.slice (some ⟨ug, 0, none⟩) (indOf pr k).length uc) v' c7 c8 c9 c10 c11 c12) 45 (0, 0)) := hu3
      clear hu3
      have vo : ∀ q, v'.ownBlock = some q → q = gy ∨ q = hr.size := fun q hq => by
        rcases own2 with e | e
        · rw [e] at hq; simp [Value.ownBlock] at hq; exact .inl hq.symm
        · rw [e] at hq; simp at hq; exact .inr hq.symm
      refine h_done (by kernel_rfl) ?_
      repeat (first | refine c_seq ?_ | refine c_region ?_ | refine c_block ?_ | refine c_skip ?_ | refine c_exit ?_ | refine c_ret ?_ | refine n_then ?_ | refine n_block ?_ | refine x_then ?_ | refine x_block_eq ?_ | refine x_block_ne rfl ?_ | refine r_then ?_ | refine r_block ?_ | refine s_nil ?_ | refine c_true rfl ?_ | refine c_false rfl ?_ | refine s_pur (p_move rfl) rfl ?_ | refine s_pur (p_assign rfl) rfl ?_ | refine s_pur (p_nil rfl) rfl ?_ | refine s_pur (p_pick_t rfl rfl) rfl ?_ | refine s_pur (p_pick_f rfl rfl) rfl ?_)
      refine m_done ⟨indOf pr k, indOf pr k, _, v', rfl, rfl, ⟨hu3'.at_, ?_, ?_, ?_, ?_, ?_, ?_, ?_⟩⟩ (.cons rfl .nil)
      · refine (ou.keep (h' := h2) fun q _ hq e => ?_).keep fun q _ hq e => ?_
        · simp [Value.ownBlock] at e
          have hne : some q ≠ (Value.ownBlock (.slice (some ⟨gy, 0, none⟩) 0 cy)) := by
            skip
            intro e; simp [Value.ownBlock] at e; omega
          exact g2.other q hq hne
        · simp [Value.ownBlock] at e
          exact hu3'.other q (by omega)
      · have := o2.keep (h' := h3) fun q _ hq e => hu3'.other q (by rcases vo q e with r | r <;> omega)
        simpa using this
      · have := g2.size; have := hu3'.size; omega
      · intro q h1 h2' h3' h4
        have hne : some q ≠ (Value.ownBlock (.slice (some ⟨gy, 0, none⟩) 0 cy)) := by
          skip
          intro e; simp [Value.ownBlock] at e; omega
        rw [hu3'.other q h2', g2.other q (by omega) hne]
        exact hoth q h1 h2' h3'
      · exact huo
      · intro q hq; rcases vo q hq with r | r <;> omega
      · intro q hq e
        simp [Value.ownBlock] at hq
        rcases vo q e with r | r <;> omega
  · simp only [if_true]
    repeat (first | refine c_seq ?_ | refine c_region ?_ | refine c_block ?_ | refine c_skip ?_ | refine c_exit ?_ | refine c_ret ?_ | refine n_then ?_ | refine n_block ?_ | refine x_then ?_ | refine x_block_eq ?_ | refine x_block_ne rfl ?_ | refine r_then ?_ | refine r_block ?_ | refine s_nil ?_ | refine c_true rfl ?_ | refine c_false rfl ?_ | refine s_pur (p_move rfl) rfl ?_ | refine s_pur (p_assign rfl) rfl ?_ | refine s_pur (p_nil rfl) rfl ?_ | refine s_pur (p_pick_t rfl rfl) rfl ?_ | refine s_pur (p_pick_f rfl rfl) rfl ?_ | refine s_pur (p_not rfl) rfl ?_)
    refine m_done ⟨b0, b1, _, _, rfl, rfl, ⟨hC, ox, oy, Nat.le_refl _, fun _ _ _ _ _ => rfl, ?_, ?_, ?_⟩⟩ (.cons rfl .nil)
    · intro k hk; simp [Value.ownBlock] at hk; omega
    · intro k hk; simp [Value.ownBlock] at hk; omega
    · intro k hk e; simp [Value.ownBlock] at hk e; omega
end Go.Proofs.Ybulkdiqq
