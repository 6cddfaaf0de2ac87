/-
  D5: (*deliveries).push.
-/
import Derived.Test.YbulkdiqqD5p
import Derived.Test.YbulkdiqqPick
namespace Go.Proofs.Ybulkdiqq
set_option linter.unusedSimpArgs false
set_option linter.unusedVariables false
set_option linter.unnecessarySimpa false
open Go Go.RowKit V
set_option maxRecDepth 100000

theorem V.p_quoN {P : Program} {l : Env} {h : Heap} {ty : TypeId} {x y : Operand} {t t2 : TypeId} {a b c : Nat} (hx : ev l x = some (.int .i64 (a : Int))) (hy : ev l y = some (.int .i64 (b : Int))) (h0 : 0 < b) (hc : a / b = c) (h2 : c ≤ 9223372036854775807) :
    Pur P (.binOp .quo t x y t2) ty l h (.int .i64 (c : Int)) := by
  refine ⟨fun ρ w d p af g hρ hw => ?_⟩
  have h0' : ¬ (b : Int) = 0 := by omega
  have e : (a : Int).tdiv b = (c : Int) := by rw [Int.tdiv_eq_ediv_of_nonneg (by omega), ← hc]; simp
  have hwr := wrap64_eq (n := (c : Int)) (by omega) (by omega)
  have hq : (Op.intDiv .quo .i64 (a : Int) (b : Int)).run P w = .ok (.int .i64 (c : Int)) w := by
    unfold Op.intDiv
    rw [if_neg h0', e]
    simp only [hwr]
    rfl
  simp [execOp, hρ _ _ hx, hρ _ _ hy, eqGuard, binOp, hq]

/-- A region's operations. -/
def rops : Code → Array Oper
  | .region _ ops _ => ops
  | _ => #[]

theorem app80' {l : Env} {h : Heap} {ty : TypeId} {x y : Operand} {base n b : Nat} {v : Value} {d : Dlv} {xs : List Value} (hx : ev l x = some v) (hy : ev l y = some (.slice (some ⟨b, 0, none⟩) 1 1))
    (hown : Owns h base 80 21 v n xs) (hb : h[b]? = some (.cells (dl d).toArray 80 (0, 0))) (hn : n ≤ 1048576) (hbase : base ≤ h.size) :
    Eff Yba.prog (.call { callee := .builtin .append, args := #[x, y], argTypes := #[68, 68] }) ty l h
      (fun v' h' => Owns h' base 80 21 v' (n + 1) (xs ++ dl d) ∧ Grow h h' v.ownBlock ∧ ¬ v' = .slice none 0 0 ∧ (v'.ownBlock = v.ownBlock ∨ v'.ownBlock = some h.size)) := by
  obtain ⟨i, hi, hz, hs, hby⟩ := info80
  have := e_append (P := Yba.prog) (ty := ty) hx hy Yba.underlying68 hi hz hs hby rfl (by omega) hown (news := dl d) rfl (by
    intro j u hj
    rw [add_none, cell_hc]
    show hc h b (0 + j) = _
    rw [hc_of hb]
    simpa using hj) (dl_one d) (by simp only [maxLen]; omega) (by omega) hbase
  refine ⟨fun ρ w dd p af g hρ hw => ?_⟩
  obtain ⟨v', w', hr, ⟨h2, h3, h4, h5⟩, rest⟩ := this.out ρ w dd p af g hρ hw
  exact ⟨v', w', hr, ⟨h2, h3, fun e => by have := h4.1 e; omega, h5⟩, rest⟩

/-- The row once d has been appended. -/
def Pushed (h : Heap) (B rb g n : Nat) (f : Nat → Dlv) (d : Dlv) (q : Heap) : Prop :=
  q[h.size]? = some (.cells (dl d).toArray 80 (0, 0)) ∧ h.size < q.size ∧ Blk q rb 25 104 ∧ (∀ o, o ≠ 5 → hc q rb o = hc h rb o) ∧ (∀ k, k < h.size → k ≠ rb → k ≠ g → q[k]? = h[k]?) ∧
      ∃ g' m, hc q rb 5 = some (.slice (some ⟨g', 0, none⟩) (n + 1) m) ∧ B ≤ g' ∧ n + 1 ≤ m ∧ (g' = g ∨ h.size < g') ∧ DRow q g' (n + 1) m (upd f n d)

set_option maxHeartbeats 8000000 in
theorem push_tail {h h1 q : Heap} {B rb g n : Nat} {f : Nat → Dlv} {d : Dlv} {w0 : World} {Q : Exit → Act → World → Prop} (bk : Blk h rb 25 104) (r : DRow h g n n f) (hn : n ≤ 65536) (hB : B ≤ g) (n1 : New h h1 (.cells (dl d).toArray 80)) (nq : New h1 q (.cells (dl d).toArray 80))
    (hK : ∀ x, Pushed h B rb g n f d x → V.Fin 43 w0 (XW Q .normal) [(0, .pointer (some ⟨rb, 5, none⟩)), (3, .pointer (some ⟨h.size, 0, none⟩))] x) :
    V.Fin 43 w0 (HW Yba.prog (rops (V.sub (Yba.f46.body.getD .skip) [1, 0])) Q 3 #[true, true, true, true, true, true, false, false, false]) [(0, .pointer (some ⟨rb, 5, none⟩)), (3, .pointer (some ⟨h.size, 0, none⟩)), (7, .pointer (some ⟨rb, 5, none⟩)), (10, .slice (some ⟨g, 0, none⟩) n n), (12, .slice (some ⟨h1.size, 0, none⟩) 1 1)] q := by
  have hrg : rb ≠ g := by
    obtain ⟨c, h1, _⟩ := bk
    obtain ⟨c', h2, _⟩ := r
    rintro rfl
    rw [h1] at h2
    simp at h2
  have k1 := Kp.of n1
  have s1 := n1.size
  have kq := Kp.of nq
  have sq := nq.size
  have blt := bk.lt
  have glt := r.lt
  have ow : Owns q B 80 21 (.slice (some ⟨g, 0, none⟩) n n) n (rowD n f) := ((r.keep (k1.same g r.lt)).keep (kq.same g (by omega))).owns (Nat.le_refl _) (by omega) hB
  refine h_eff 6 rfl (by kernel_rfl) rfl (app80' (base := B) rfl rfl ow nq.at_ (by omega) (by omega)) rfl ?_
  rintro v q2 ⟨ow2, g2, hnn, hwh⟩
  have e2 : rowD (n + 1) (upd f n d) = rowD n f ++ dl d := by
    simp only [rowD]
    rw [rowD_congr (f' := f) (fun i hi => by unfold upd; rw [if_neg (by omega)])]
    simp [upd]
  rw [← e2] at ow2
  obtain ⟨g', m, rfl, hBg, hnm, r2⟩ := DRow.of ow2 hnn
  have oth : ∀ k, k < q.size → k ≠ g → q2[k]? = q[k]? := fun k hk hne => g2.other k hk (fun e => hne (by simp [Value.ownBlock] at e; exact e))
  have bk2 : Blk q2 rb 25 104 := ((bk.keep (k1.same rb bk.lt)).keep (kq.same rb (by omega))).keep (oth rb (by omega) hrg)
  have hd2 : q2[h.size]? = some (.cells (dl d).toArray 80 (0, 0)) := by rw [oth _ (by omega) (by omega)]; exact kq.get n1.at_
  refine h_any 7 rfl (by kernel_rfl) rfl (fun _ => p_nil rfl) rfl ?_
  refine h_eff0 8 rfl (by kernel_rfl) rfl (e_wr rfl rfl rfl Yba.sizeOf68 bk2 (by omega)) ?_
  intro _ q3 w3
  have hgr : g' ≠ rb := by
    obtain ⟨c, h1, _⟩ := bk2
    obtain ⟨c', h2, _⟩ := r2
    rintro rfl
    rw [h1] at h2
    simp at h2
  have hgd : g' = g ∨ h.size < g' := by
    simp [Value.ownBlock] at hwh
    omega
  have sz3 := w3.size
  have sz2 := g2.size
  refine h_done (by kernel_rfl) ?_
  refine cut [(0, .pointer (some ⟨rb, 5, none⟩)), (3, .pointer (some ⟨h.size, 0, none⟩))] (by repeat (first | exact Sub.nil | refine Sub.cons rfl ?_)) (hK q3 ⟨by rw [w3.other _ (by omega)]; exact hd2, by omega, w3.blk _ _ _ bk2, fun o ho => ?_, fun k hk h1 h2 => ?_, g', m, w3.at_, hBg, hnm, hgd, r2.keep (w3.other _ hgr)⟩)
  · rw [w3.cell rb o (fun e => ho e.2), hc_congr (oth rb (by omega) hrg), hc_congr (kq.same rb (by omega)), hc_congr (k1.same rb bk.lt)]
  · rw [w3.other k h1, oth k (by omega) h2, kq.same k (by omega), k1.same k hk]

set_option maxHeartbeats 8000000 in
theorem push_ok (h : Heap) (B rb g n : Nat) (f : Nat → Dlv) (d : Dlv) (bk : Blk h rb 25 104) (hw5 : hc h rb 5 = some (.slice (some ⟨g, 0, none⟩) n n)) (r : DRow h g n n f) (hn : n ≤ 65536) (hB : B ≤ g) :
    CallsH Yba.prog 46 #[.pointer (some ⟨rb, 5, none⟩), .agg (dl d).toArray] h (fun u h' => u = .tuple #[] ∧ h.size ≤ h'.size ∧ Blk h' rb 25 104 ∧ (∀ o, o ≠ 5 → hc h' rb o = hc h rb o) ∧ (∀ k, k < h.size → k ≠ rb → k ≠ g → h'[k]? = h[k]?) ∧
      ∃ g' m, hc h' rb 5 = some (.slice (some ⟨g', 0, none⟩) (n + 1) m) ∧ B ≤ g' ∧ n + 1 ≤ m ∧ DRow h' g' (n + 1) m (sift (upd f n d) d n)) := by
  refine calls_of (N := 43) [(0, .pointer (some ⟨rb, 5, none⟩)), (1, .agg (dl d).toArray)] Yba.func46 rfl rfl (by simp) (by repeat (first | exact ArgsAre.nil | refine ArgsAre.cons rfl ?_)) ?_
  intro w0 _
  refine c_mid [(0, .pointer (some ⟨rb, 5, none⟩)), (3, .pointer (some ⟨h.size, 0, none⟩))] (fun q => New h q (.cells (dl d).toArray 80)) ?_ ?_
  · repeat (first | refine c_seq ?_ | refine c_region ?_ | refine c_block ?_ | refine c_skip ?_ | refine c_exit ?_ | refine c_ret ?_ | refine n_then ?_ | refine n_block ?_ | refine x_then ?_ | refine x_block_eq ?_ | refine x_block_ne rfl ?_ | refine r_then ?_ | refine r_block ?_ | refine s_nil ?_ | refine c_true rfl ?_ | refine c_false rfl ?_ | refine s_pur (p_move rfl) rfl ?_ | refine s_pur (p_assign rfl) rfl ?_ | refine s_pur (p_nil rfl) rfl ?_ | refine s_pur (p_pick_t rfl rfl) rfl ?_ | refine s_pur (p_pick_f rfl rfl) rfl ?_)
    refine s_eff (e_box rfl) rfl ?_
    rintro _ q ⟨rfl, nq⟩
    repeat (first | refine c_seq ?_ | refine c_region ?_ | refine c_block ?_ | refine c_skip ?_ | refine c_exit ?_ | refine c_ret ?_ | refine n_then ?_ | refine n_block ?_ | refine x_then ?_ | refine x_block_eq ?_ | refine x_block_ne rfl ?_ | refine r_then ?_ | refine r_block ?_ | refine s_nil ?_ | refine c_true rfl ?_ | refine c_false rfl ?_ | refine s_pur (p_move rfl) rfl ?_ | refine s_pur (p_assign rfl) rfl ?_ | refine s_pur (p_nil rfl) rfl ?_ | refine s_pur (p_pick_t rfl rfl) rfl ?_ | refine s_pur (p_pick_f rfl rfl) rfl ?_)
    exact m_done nq (by repeat (first | exact Sub.nil | refine Sub.cons rfl ?_))
  intro h1 n1
  have k1 := Kp.of n1
  have s1 := n1.size
  have hd1 : h1[h.size]? = some (.cells (dl d).toArray 80 (0, 0)) := n1.at_
  have l5 : hc h1 rb 5 = some (.slice (some ⟨g, 0, none⟩) n n) := k1.cell hw5
  have ldd : ∀ q : Heap, q[h.size]? = some (.cells (dl d).toArray 80 (0, 0)) → ∀ t, t < 21 → hc q h.size (0 + t) = (dl d)[t]? := fun q hq t ht => by rw [hc_of hq, Nat.zero_add]; simp
  refine c_mid [(0, .pointer (some ⟨rb, 5, none⟩)), (3, .pointer (some ⟨h.size, 0, none⟩))] (fun q => Pushed h B rb g n f d q) ?_ ?_
  · refine c_held followsM rfl ?_
    refine h_any 0 rfl (by kernel_rfl) rfl (fun _ => p_move rfl) rfl ?_
    refine h_any 1 rfl (by kernel_rfl) rfl (fun _ => p_move rfl) rfl ?_
    refine h_any 2 rfl (by kernel_rfl) rfl (fun _ => p_nil rfl) rfl ?_
    refine h_take 4 rfl (by kernel_rfl) rfl (p_loadA (vs := dl d) rfl Yba.isAgg80 Yba.sizeOf80 rfl (ldd h1 hd1)) rfl ?_
    refine h_pick2 3 5 (by kernel_rfl) ?_ ?_
    · refine o_pur rfl rfl (p_load rfl Yba.isAgg68 l5) rfl ?_
      refine h_eff 5 rfl (by kernel_rfl) (listed' := #[true, true, true, true, true, true, false, false, false]) (by kernel_rfl) (e_one80 rfl) rfl ?_
      rintro _ q ⟨rfl, nq⟩
      refine cut [(0, .pointer (some ⟨rb, 5, none⟩)), (3, .pointer (some ⟨h.size, 0, none⟩)), (7, .pointer (some ⟨rb, 5, none⟩)), (10, .slice (some ⟨g, 0, none⟩) n n), (12, .slice (some ⟨h1.size, 0, none⟩) 1 1)] (by repeat (first | exact Sub.nil | refine Sub.cons rfl ?_)) ?_
      refine push_tail bk r hn hB n1 nq ?_
      intro x hx
      repeat (first | refine c_seq ?_ | refine c_region ?_ | refine c_block ?_ | refine c_skip ?_ | refine c_exit ?_ | refine c_ret ?_ | refine n_then ?_ | refine n_block ?_ | refine x_then ?_ | refine x_block_eq ?_ | refine x_block_ne rfl ?_ | refine r_then ?_ | refine r_block ?_ | refine s_nil ?_ | refine c_true rfl ?_ | refine c_false rfl ?_ | refine s_pur (p_move rfl) rfl ?_ | refine s_pur (p_assign rfl) rfl ?_ | refine s_pur (p_nil rfl) rfl ?_ | refine s_pur (p_pick_t rfl rfl) rfl ?_ | refine s_pur (p_pick_f rfl rfl) rfl ?_)
      exact m_done hx (by repeat (first | exact Sub.nil | refine Sub.cons rfl ?_))
    · refine o_eff rfl rfl (e_one80 rfl) rfl ?_
      rintro _ q ⟨rfl, nq⟩
      refine h_take 3 rfl (by kernel_rfl) (listed' := #[true, true, true, true, true, true, false, false, false]) (by kernel_rfl) (p_load rfl Yba.isAgg68 ((Kp.of nq).cell l5)) rfl ?_
      refine cut [(0, .pointer (some ⟨rb, 5, none⟩)), (3, .pointer (some ⟨h.size, 0, none⟩)), (7, .pointer (some ⟨rb, 5, none⟩)), (10, .slice (some ⟨g, 0, none⟩) n n), (12, .slice (some ⟨h1.size, 0, none⟩) 1 1)] (by repeat (first | exact Sub.nil | refine Sub.cons rfl ?_)) ?_
      refine push_tail bk r hn hB n1 nq ?_
      intro x hx
      repeat (first | refine c_seq ?_ | refine c_region ?_ | refine c_block ?_ | refine c_skip ?_ | refine c_exit ?_ | refine c_ret ?_ | refine n_then ?_ | refine n_block ?_ | refine x_then ?_ | refine x_block_eq ?_ | refine x_block_ne rfl ?_ | refine r_then ?_ | refine r_block ?_ | refine s_nil ?_ | refine c_true rfl ?_ | refine c_false rfl ?_ | refine s_pur (p_move rfl) rfl ?_ | refine s_pur (p_assign rfl) rfl ?_ | refine s_pur (p_nil rfl) rfl ?_ | refine s_pur (p_pick_t rfl rfl) rfl ?_ | refine s_pur (p_pick_f rfl rfl) rfl ?_)
      exact m_done hx (by repeat (first | exact Sub.nil | refine Sub.cons rfl ?_))
  rintro q ⟨hdq, hsq, bkq, hcq, hoq, g', m, h5, hBg, hnm, hgw, rq⟩
  have hgd : g' ≠ h.size := by have := r.lt; omega
  have hgr : g' ≠ rb := by
    obtain ⟨c, h1, _⟩ := bkq
    obtain ⟨c', h2, _⟩ := rq
    rintro rfl
    rw [h1] at h2
    simp at h2
  refine c_mid [(3, .pointer (some ⟨h.size, 0, none⟩)), (4, .slice (some ⟨g', 0, none⟩) (n + 1) m)] (fun x => q = x) ?_ ?_
  · repeat (first | refine c_seq ?_ | refine c_region ?_ | refine c_block ?_ | refine c_skip ?_ | refine c_exit ?_ | refine c_ret ?_ | refine n_then ?_ | refine n_block ?_ | refine x_then ?_ | refine x_block_eq ?_ | refine x_block_ne rfl ?_ | refine r_then ?_ | refine r_block ?_ | refine s_nil ?_ | refine c_true rfl ?_ | refine c_false rfl ?_ | refine s_pur (p_move rfl) rfl ?_ | refine s_pur (p_assign rfl) rfl ?_ | refine s_pur (p_nil rfl) rfl ?_ | refine s_pur (p_pick_t rfl rfl) rfl ?_ | refine s_pur (p_pick_f rfl rfl) rfl ?_ | refine s_pur (p_load rfl Yba.isAgg68 (by assumption)) rfl ?_)
    exact m_done rfl (by repeat (first | exact Sub.nil | refine Sub.cons rfl ?_))
  rintro _ rfl
  refine c_mid [(3, .pointer (some ⟨h.size, 0, none⟩)), (4, .slice (some ⟨g', 0, none⟩) (n + 1) m), (5, .int .i64 (n : Int))] (fun x => q = x) ?_ ?_
  · repeat (first | refine c_seq ?_ | refine c_region ?_ | refine c_block ?_ | refine c_skip ?_ | refine c_exit ?_ | refine c_ret ?_ | refine n_then ?_ | refine n_block ?_ | refine x_then ?_ | refine x_block_eq ?_ | refine x_block_ne rfl ?_ | refine r_then ?_ | refine r_block ?_ | refine s_nil ?_ | refine c_true rfl ?_ | refine c_false rfl ?_ | refine s_pur (p_move rfl) rfl ?_ | refine s_pur (p_assign rfl) rfl ?_ | refine s_pur (p_nil rfl) rfl ?_ | refine s_pur (p_pick_t rfl rfl) rfl ?_ | refine s_pur (p_pick_f rfl rfl) rfl ?_ | refine s_pur (p_len rfl Yba.underlying68) rfl ?_ | refine s_pur (p_idx rfl rfl rfl (by omega) Yba.underlying68 Yba.sizeOf80) rfl ?_ | refine s_pur (p_sub (c := (n : Int)) rfl rfl (by omega) (by omega) (by omega)) rfl ?_)
    exact m_done rfl (by repeat (first | exact Sub.nil | refine Sub.cons rfl ?_))
  rintro _ rfl
  -- the loop
  refine c_seq ?_
  refine c_block ?_
  refine c_loop (fun x : Nat × (Nat → Dlv) => [(3, .pointer (some ⟨h.size, 0, none⟩)), (4, .slice (some ⟨g', 0, none⟩) (n + 1) m), (5, .int .i64 (x.1 : Int))])
    (fun x y => x.1 ≤ n ∧ DRow y g' (n + 1) m x.2 ∧ sift x.2 d x.1 = sift (upd f n d) d n ∧ y.size = q.size ∧ ∀ k, k ≠ g' → y[k]? = q[k]?) (fun x => x.1) (n, upd f n d) ⟨Nat.le_refl _, rq, rfl, rfl, fun _ _ => rfl⟩ (by repeat (first | exact Sub.nil | refine Sub.cons rfl ?_)) ?_
  rintro ⟨i, F⟩ y ⟨hi, ry, hs, hys, hyo⟩
  simp only at hi ry hs
  refine cut [(3, .pointer (some ⟨h.size, 0, none⟩)), (4, .slice (some ⟨g', 0, none⟩) (n + 1) m), (5, .int .i64 (i : Int))] Sub.refl ?_
  have hdy : y[h.size]? = some (.cells (dl d).toArray 80 (0, 0)) := by rw [hyo _ (fun e => hgd e.symm)]; exact hdq
  have ldy := ldd y hdy
  have done : ∀ z, DRow z g' (n + 1) m (sift (upd f n d) d n) → z.size = q.size → (∀ k, k ≠ g' → z[k]? = q[k]?) → (h.size ≤ z.size ∧ Blk z rb 25 104 ∧ (∀ o, o ≠ 5 → hc z rb o = hc h rb o) ∧ (∀ k, k < h.size → k ≠ rb → k ≠ g → z[k]? = h[k]?) ∧
      ∃ g' m, hc z rb 5 = some (.slice (some ⟨g', 0, none⟩) (n + 1) m) ∧ B ≤ g' ∧ n + 1 ≤ m ∧ DRow z g' (n + 1) m (sift (upd f n d) d n)) := by
    intro z rz sz oz
    refine ⟨by omega, bkq.keep (oz rb hgr.symm), fun o ho => by rw [hc_congr (oz rb hgr.symm)]; exact hcq o ho, fun k hk h1 h2 => ?_, g', m, by rw [hc_congr (oz rb hgr.symm)]; exact h5, hBg, hnm, rz⟩
    rw [oz k (by omega)]; exact hoq k hk h1 h2
  by_cases h0 : i = 0
  · subst h0
    repeat (first | refine c_seq ?_ | refine c_region ?_ | refine c_block ?_ | refine c_skip ?_ | refine c_exit ?_ | refine c_ret ?_ | refine n_then ?_ | refine n_block ?_ | refine x_then ?_ | refine x_block_eq ?_ | refine x_block_ne rfl ?_ | refine r_then ?_ | refine r_block ?_ | refine s_nil ?_ | refine c_true rfl ?_ | refine c_false rfl ?_ | refine s_pur (p_move rfl) rfl ?_ | refine s_pur (p_assign rfl) rfl ?_ | refine s_pur (p_nil rfl) rfl ?_ | refine s_pur (p_pick_t rfl rfl) rfl ?_ | refine s_pur (p_pick_f rfl rfl) rfl ?_ | refine s_pur (p_len rfl Yba.underlying68) rfl ?_ | refine s_pur (p_idx rfl rfl rfl (by omega) Yba.underlying68 Yba.sizeOf80) rfl ?_ | refine s_pur (p_loadA (vs := dl d) rfl Yba.isAgg80 Yba.sizeOf80 rfl ldy) rfl ?_ | refine s_pur (p_lssT rfl rfl (by omega)) rfl ?_ | refine s_pur (p_lssF rfl rfl (by omega)) rfl ?_ | refine s_pur (p_leqT rfl rfl (by omega)) rfl ?_ | refine s_pur (p_leqF rfl rfl (by omega)) rfl ?_ | refine s_pur (p_gtrT rfl rfl (by omega)) rfl ?_ | refine s_pur (p_gtrF rfl rfl (by omega)) rfl ?_ | refine s_pur (p_geqT rfl rfl (by omega)) rfl ?_ | refine s_pur (p_geqF rfl rfl (by omega)) rfl ?_ | refine s_pur (p_eqlT rfl rfl (by omega)) rfl ?_ | refine s_pur (p_eqlF rfl rfl (by omega)) rfl ?_ | refine s_pur (p_neqT rfl rfl (by omega)) rfl ?_ | refine s_pur (p_neqF rfl rfl (by omega)) rfl ?_)
    refine s_eff0 (e_setD rfl rfl ry (by omega)) ?_
    rintro _ z ⟨rz, _, sz, oz⟩
    repeat (first | refine c_seq ?_ | refine c_region ?_ | refine c_block ?_ | refine c_skip ?_ | refine c_exit ?_ | refine c_ret ?_ | refine n_then ?_ | refine n_block ?_ | refine x_then ?_ | refine x_block_eq ?_ | refine x_block_ne rfl ?_ | refine r_then ?_ | refine r_block ?_ | refine s_nil ?_ | refine c_true rfl ?_ | refine c_false rfl ?_ | refine s_pur (p_move rfl) rfl ?_ | refine s_pur (p_assign rfl) rfl ?_ | refine s_pur (p_nil rfl) rfl ?_ | refine s_pur (p_pick_t rfl rfl) rfl ?_ | refine s_pur (p_pick_f rfl rfl) rfl ?_)
    exact end0 Yba.results46 ⟨rfl, done z (by rw [← hs, sift_zero]; exact rz) (by omega) (fun k hk => by rw [oz k hk, hyo k hk])⟩
  have hup : (i - 1) / 2 < i := by omega
  have cu := ry.cell (show (i - 1) / 2 < n + 1 by omega)
  have y0 : hc y g' (0 + (i - 1) / 2 * 21 + 0) = some (.int .i64 (F ((i - 1) / 2)).1) := cu 0 (by omega)
  have y1 : hc y g' (0 + (i - 1) / 2 * 21 + 1) = some (.int .u64 (F ((i - 1) / 2)).2.1) := cu 1 (by omega)
  have x0 : hc y h.size (0 + 0) = some (.int .i64 d.1) := by rw [hc_of hdy]; rfl
  have x1 : hc y h.size (0 + 1) = some (.int .u64 d.2.1) := by rw [hc_of hdy]; rfl
  refine c_mid [(3, .pointer (some ⟨h.size, 0, none⟩)), (4, .slice (some ⟨g', 0, none⟩) (n + 1) m), (5, .int .i64 (i : Int))] (fun x => y = x) ?_ ?_
  · repeat (first | refine c_seq ?_ | refine c_region ?_ | refine c_block ?_ | refine c_skip ?_ | refine c_exit ?_ | refine c_ret ?_ | refine n_then ?_ | refine n_block ?_ | refine x_then ?_ | refine x_block_eq ?_ | refine x_block_ne rfl ?_ | refine r_then ?_ | refine r_block ?_ | refine s_nil ?_ | refine c_true rfl ?_ | refine c_false rfl ?_ | refine s_pur (p_move rfl) rfl ?_ | refine s_pur (p_assign rfl) rfl ?_ | refine s_pur (p_nil rfl) rfl ?_ | refine s_pur (p_pick_t rfl rfl) rfl ?_ | refine s_pur (p_pick_f rfl rfl) rfl ?_ | refine s_pur (p_lssT rfl rfl (by omega)) rfl ?_ | refine s_pur (p_lssF rfl rfl (by omega)) rfl ?_ | refine s_pur (p_leqT rfl rfl (by omega)) rfl ?_ | refine s_pur (p_leqF rfl rfl (by omega)) rfl ?_ | refine s_pur (p_gtrT rfl rfl (by omega)) rfl ?_ | refine s_pur (p_gtrF rfl rfl (by omega)) rfl ?_ | refine s_pur (p_geqT rfl rfl (by omega)) rfl ?_ | refine s_pur (p_geqF rfl rfl (by omega)) rfl ?_ | refine s_pur (p_eqlT rfl rfl (by omega)) rfl ?_ | refine s_pur (p_eqlF rfl rfl (by omega)) rfl ?_ | refine s_pur (p_neqT rfl rfl (by omega)) rfl ?_ | refine s_pur (p_neqF rfl rfl (by omega)) rfl ?_)
    exact m_done rfl (by repeat (first | exact Sub.nil | refine Sub.cons rfl ?_))
  rintro _ rfl
  refine c_block ?_
  refine c_mid [(3, .pointer (some ⟨h.size, 0, none⟩)), (4, .slice (some ⟨g', 0, none⟩) (n + 1) m), (5, .int .i64 (i : Int)), (6, .int .i64 (((i - 1) / 2 : Nat) : Int))] (fun x => y = x) ?_ ?_
  · repeat (first | refine c_seq ?_ | refine c_region ?_ | refine c_block ?_ | refine c_skip ?_ | refine c_exit ?_ | refine c_ret ?_ | refine n_then ?_ | refine n_block ?_ | refine x_then ?_ | refine x_block_eq ?_ | refine x_block_ne rfl ?_ | refine r_then ?_ | refine r_block ?_ | refine s_nil ?_ | refine c_true rfl ?_ | refine c_false rfl ?_ | refine s_pur (p_move rfl) rfl ?_ | refine s_pur (p_assign rfl) rfl ?_ | refine s_pur (p_nil rfl) rfl ?_ | refine s_pur (p_pick_t rfl rfl) rfl ?_ | refine s_pur (p_pick_f rfl rfl) rfl ?_ | refine s_pur (p_sub (c := ((i - 1 : Nat) : Int)) rfl rfl (by omega) (by omega) (by omega)) rfl ?_ | refine s_pur (p_quoN (b := 2) rfl rfl (by omega) rfl (by omega)) rfl ?_)
    exact m_done rfl (by repeat (first | exact Sub.nil | refine Sub.cons rfl ?_))
  rintro _ rfl
  refine c_seq ?_
  refine c_seq ?_
  repeat (first | refine c_region ?_ | refine c_block ?_ | refine c_skip ?_ | refine c_exit ?_ | refine c_ret ?_ | refine n_then ?_ | refine n_block ?_ | refine x_then ?_ | refine x_block_eq ?_ | refine x_block_ne rfl ?_ | refine r_then ?_ | refine r_block ?_ | refine s_nil ?_ | refine c_true rfl ?_ | refine c_false rfl ?_ | refine s_pur (p_move rfl) rfl ?_ | refine s_pur (p_assign rfl) rfl ?_ | refine s_pur (p_nil rfl) rfl ?_ | refine s_pur (p_pick_t rfl rfl) rfl ?_ | refine s_pur (p_pick_f rfl rfl) rfl ?_ | refine s_pur (p_len rfl Yba.underlying68) rfl ?_ | refine s_pur (p_idx rfl rfl rfl (by omega) Yba.underlying68 Yba.sizeOf80) rfl ?_)
  refine s_call Yba.call59 rfl rfl (before_ok y h.size 0 g' (0 + (i - 1) / 2 * 21) d (F ((i - 1) / 2)) x0 x1 y0 y1) ?_
  rintro _ y' ⟨rfl, hy'⟩
  obtain rfl : y = y' := hy'.symm
  cases hlt : lt d (F ((i - 1) / 2)) with
  | false =>
    repeat (first | refine c_seq ?_ | refine c_region ?_ | refine c_block ?_ | refine c_skip ?_ | refine c_exit ?_ | refine c_ret ?_ | refine n_then ?_ | refine n_block ?_ | refine x_then ?_ | refine x_block_eq ?_ | refine x_block_ne rfl ?_ | refine r_then ?_ | refine r_block ?_ | refine s_nil ?_ | refine c_true rfl ?_ | refine c_false rfl ?_ | refine s_pur (p_move rfl) rfl ?_ | refine s_pur (p_assign rfl) rfl ?_ | refine s_pur (p_nil rfl) rfl ?_ | refine s_pur (p_pick_t rfl rfl) rfl ?_ | refine s_pur (p_pick_f rfl rfl) rfl ?_ | refine s_pur (p_len rfl Yba.underlying68) rfl ?_ | refine s_pur (p_idx rfl rfl rfl (by omega) Yba.underlying68 Yba.sizeOf80) rfl ?_ | refine s_pur (p_not rfl) rfl ?_ | refine s_pur (p_loadA (vs := dl d) rfl Yba.isAgg80 Yba.sizeOf80 rfl ldy) rfl ?_)
    refine s_eff0 (e_setD rfl rfl ry (by omega)) ?_
    rintro _ z ⟨rz, _, sz, oz⟩
    repeat (first | refine c_seq ?_ | refine c_region ?_ | refine c_block ?_ | refine c_skip ?_ | refine c_exit ?_ | refine c_ret ?_ | refine n_then ?_ | refine n_block ?_ | refine x_then ?_ | refine x_block_eq ?_ | refine x_block_ne rfl ?_ | refine r_then ?_ | refine r_block ?_ | refine s_nil ?_ | refine c_true rfl ?_ | refine c_false rfl ?_ | refine s_pur (p_move rfl) rfl ?_ | refine s_pur (p_assign rfl) rfl ?_ | refine s_pur (p_nil rfl) rfl ?_ | refine s_pur (p_pick_t rfl rfl) rfl ?_ | refine s_pur (p_pick_f rfl rfl) rfl ?_)
    exact end0 Yba.results46 ⟨rfl, done z (by rw [← hs, sift_stop h0 hlt]; exact rz) (by omega) (fun k hk => by rw [oz k hk, hyo k hk])⟩
  | true =>
    repeat (first | refine c_seq ?_ | refine c_region ?_ | refine c_block ?_ | refine c_skip ?_ | refine c_exit ?_ | refine c_ret ?_ | refine n_then ?_ | refine n_block ?_ | refine x_then ?_ | refine x_block_eq ?_ | refine x_block_ne rfl ?_ | refine r_then ?_ | refine r_block ?_ | refine s_nil ?_ | refine c_true rfl ?_ | refine c_false rfl ?_ | refine s_pur (p_move rfl) rfl ?_ | refine s_pur (p_assign rfl) rfl ?_ | refine s_pur (p_nil rfl) rfl ?_ | refine s_pur (p_pick_t rfl rfl) rfl ?_ | refine s_pur (p_pick_f rfl rfl) rfl ?_ | refine s_pur (p_len rfl Yba.underlying68) rfl ?_ | refine s_pur (p_idx rfl rfl rfl (by omega) Yba.underlying68 Yba.sizeOf80) rfl ?_ | refine s_pur (p_not rfl) rfl ?_ | refine s_pur (p_loadA (vs := dl (F ((i - 1) / 2))) rfl Yba.isAgg80 Yba.sizeOf80 rfl cu) rfl ?_)
    refine s_eff0 (e_setD rfl rfl ry (by omega)) ?_
    rintro _ z ⟨rz, _, sz, oz⟩
    repeat (first | refine c_seq ?_ | refine c_region ?_ | refine c_block ?_ | refine c_skip ?_ | refine c_exit ?_ | refine c_ret ?_ | refine n_then ?_ | refine n_block ?_ | refine x_then ?_ | refine x_block_eq ?_ | refine x_block_ne rfl ?_ | refine r_then ?_ | refine r_block ?_ | refine s_nil ?_ | refine c_true rfl ?_ | refine c_false rfl ?_ | refine s_pur (p_move rfl) rfl ?_ | refine s_pur (p_assign rfl) rfl ?_ | refine s_pur (p_nil rfl) rfl ?_ | refine s_pur (p_pick_t rfl rfl) rfl ?_ | refine s_pur (p_pick_f rfl rfl) rfl ?_)
    exact c_next ((i - 1) / 2, upd F i (F ((i - 1) / 2))) ⟨by simp only; omega, rz, by rw [← hs]; exact (sift_go h0 hlt).symm, by omega, fun k hk => by rw [oz k hk, hyo k hk]⟩ (by repeat (first | exact Sub.nil | refine Sub.cons rfl ?_)) (by simp only; omega)
end Go.Proofs.Ybulkdiqq
