/-
  D12: LawS5489CWhole from the expected wakes on.
-/
import Derived.Test.YbulkdiqqD11
namespace Go.Proofs.Ybulkdiqq
set_option linter.unusedSimpArgs false
set_option linter.unusedVariables false
set_option linter.unnecessarySimpa false
open Go Go.RowKit V
set_option maxRecDepth 100000

/-- What the law expects of the wakes. -/
def WakesOk (q : Heap) (rb n : Nat) (per : Int) (f : Nat → Dlv) (d : Dlv) : Prop :=
  (per ≤ 0 ∧ ∃ g, hc q rb 5 = some (.slice (some ⟨g, 0, none⟩) n n) ∧ DRow q g n n f) ∨
  (0 < per ∧ ∃ g m, hc q rb 5 = some (.slice (some ⟨g, 0, none⟩) (n + 1) m) ∧ DRow q g (n + 1) m (sift (upd f n d) d n))
theorem WakesOk.kp {q q' : Heap} {rb n : Nat} {per : Int} {f : Nat → Dlv} {d : Dlv} (w : WakesOk q rb n per f d) (k : Kp q q') : WakesOk q' rb n per f d := by
  rcases w with ⟨h, g, h1, h2⟩ | ⟨h, g, m, h1, h2⟩
  · exact .inl ⟨h, g, k.cell h1, h2.keep (k.same g h2.lt)⟩
  · exact .inr ⟨h, g, m, k.cell h1, h2.keep (k.same g h2.lt)⟩

set_option maxHeartbeats 16000000 in
theorem lawT3 {q : Heap} {rb og n : Nat} {f : Nat → Dlv} {id per now sq : Int} {w0 : World} {R : Value → Heap → Prop} (wk : WakesOk q rb n per f (IntKind.i64.wrap (now + per), IntKind.u64.wrap (sq + 1), id)) (dold : DRow q og n n f) (hs : ∀ i j, i < j → j < n → lt (f j) (f i) = false) (hn : n ≤ 65536)
    (hR : ∀ q', Kp q q' → R (.bool true) q') :
    V.Fin 531 w0 (CW Yba.prog (V.sub (Yba.f4.body.getD .skip) [1, 1, 1, 1, 1, 1, 1, 1, 1, 1, 1, 1, 1, 1, 1, 1, 1, 1, 1, 1, 1, 1, 1, 1, 1, 1, 1, 1, 1, 1, 1, 1, 1, 1, 1, 1, 1, 1, 1, 1, 1]) (bodyPost Yba.prog Yba.f4 (PostR w0 R))) [(0, .int .u64 id), (6, .int .i64 per), (9, .int .i64 now), (10, .int .u64 sq), (41, .slice (some ⟨og, 0, none⟩) n n), (46, .pointer (some ⟨rb, 0, none⟩))] q := by
  generalize hd : ((IntKind.i64.wrap (now + per), IntKind.u64.wrap (sq + 1), id) : Dlv) = d at *
  refine c_seq ?_
  repeat (first | refine c_region ?_ | refine c_block ?_ | refine c_skip ?_ | refine c_exit ?_ | refine c_ret ?_ | refine n_then ?_ | refine n_block ?_ | refine x_then ?_ | refine x_block_eq ?_ | refine x_block_ne rfl ?_ | refine r_then ?_ | refine r_block ?_ | refine s_nil ?_ | refine c_true rfl ?_ | refine c_false rfl ?_ | refine s_pur (p_move rfl) rfl ?_ | refine s_pur (p_assign rfl) rfl ?_ | refine s_pur (p_nil rfl) rfl ?_ | refine s_pur (p_pick_t rfl rfl) rfl ?_ | refine s_pur (p_pick_f rfl rfl) rfl ?_)
  rcases wk with ⟨hper, g, c5, dg⟩ | ⟨hper, g, mg, c5, dg⟩
  · refine c_mid [(46, .pointer (some ⟨rb, 0, none⟩)), (57, .slice (some ⟨og, 0, none⟩) n n)] (fun x => q = x) ?_ ?_
    · repeat (first | refine c_seq ?_ | refine c_region ?_ | refine c_block ?_ | refine c_skip ?_ | refine c_exit ?_ | refine c_ret ?_ | refine n_then ?_ | refine n_block ?_ | refine x_then ?_ | refine x_block_eq ?_ | refine x_block_ne rfl ?_ | refine r_then ?_ | refine r_block ?_ | refine s_nil ?_ | refine c_true rfl ?_ | refine c_false rfl ?_ | refine s_pur (p_move rfl) rfl ?_ | refine s_pur (p_assign rfl) rfl ?_ | refine s_pur (p_nil rfl) rfl ?_ | refine s_pur (p_pick_t rfl rfl) rfl ?_ | refine s_pur (p_pick_f rfl rfl) rfl ?_ | refine s_pur (p_lssT rfl rfl (by omega)) rfl ?_ | refine s_pur (p_lssF rfl rfl (by omega)) rfl ?_ | refine s_pur (p_leqT rfl rfl (by omega)) rfl ?_ | refine s_pur (p_leqF rfl rfl (by omega)) rfl ?_ | refine s_pur (p_gtrT rfl rfl (by omega)) rfl ?_ | refine s_pur (p_gtrF rfl rfl (by omega)) rfl ?_ | refine s_pur (p_geqT rfl rfl (by omega)) rfl ?_ | refine s_pur (p_geqF rfl rfl (by omega)) rfl ?_ | refine s_pur (p_eqlT rfl rfl (by omega)) rfl ?_ | refine s_pur (p_eqlF rfl rfl (by omega)) rfl ?_ | refine s_pur (p_neqT rfl rfl (by omega)) rfl ?_ | refine s_pur (p_neqF rfl rfl (by omega)) rfl ?_)
      exact m_done rfl (by repeat (first | exact Sub.nil | refine Sub.cons rfl ?_))
    rintro _ rfl
    exact lawT4 c5 dg dold (fun _ _ => rfl) (by omega) (hR q (Kp.refl q))
  refine c_seq ?_
  refine c_seq ?_
  repeat (first | refine c_region ?_ | refine c_block ?_ | refine c_skip ?_ | refine c_exit ?_ | refine c_ret ?_ | refine n_then ?_ | refine n_block ?_ | refine x_then ?_ | refine x_block_eq ?_ | refine x_block_ne rfl ?_ | refine r_then ?_ | refine r_block ?_ | refine s_nil ?_ | refine c_true rfl ?_ | refine c_false rfl ?_ | refine s_pur (p_move rfl) rfl ?_ | refine s_pur (p_assign rfl) rfl ?_ | refine s_pur (p_nil rfl) rfl ?_ | refine s_pur (p_pick_t rfl rfl) rfl ?_ | refine s_pur (p_pick_f rfl rfl) rfl ?_ | refine s_pur (p_lssT rfl rfl (by omega)) rfl ?_ | refine s_pur (p_lssF rfl rfl (by omega)) rfl ?_ | refine s_pur (p_leqT rfl rfl (by omega)) rfl ?_ | refine s_pur (p_leqF rfl rfl (by omega)) rfl ?_ | refine s_pur (p_gtrT rfl rfl (by omega)) rfl ?_ | refine s_pur (p_gtrF rfl rfl (by omega)) rfl ?_ | refine s_pur (p_geqT rfl rfl (by omega)) rfl ?_ | refine s_pur (p_geqF rfl rfl (by omega)) rfl ?_ | refine s_pur (p_eqlT rfl rfl (by omega)) rfl ?_ | refine s_pur (p_eqlF rfl rfl (by omega)) rfl ?_ | refine s_pur (p_neqT rfl rfl (by omega)) rfl ?_ | refine s_pur (p_neqF rfl rfl (by omega)) rfl ?_)
  refine cut [(0, .int .u64 id), (6, .int .i64 per), (9, .int .i64 now), (10, .int .u64 sq), (41, .slice (some ⟨og, 0, none⟩) n n), (46, .pointer (some ⟨rb, 0, none⟩))] (by repeat (first | exact Sub.nil | refine Sub.cons rfl ?_)) ?_
  -- d
  refine c_mid [(41, .slice (some ⟨og, 0, none⟩) n n), (46, .pointer (some ⟨rb, 0, none⟩)), (58, .pointer (some ⟨q.size, 0, none⟩))] (fun x => Kp q x ∧ x.size = q.size + 1 ∧ x[q.size]? = some (.cells (dl d).toArray 80 (0, 0))) ?_ ?_
  · repeat (first | refine c_seq ?_ | refine c_region ?_ | refine c_block ?_ | refine c_skip ?_ | refine c_exit ?_ | refine c_ret ?_ | refine n_then ?_ | refine n_block ?_ | refine x_then ?_ | refine x_block_eq ?_ | refine x_block_ne rfl ?_ | refine r_then ?_ | refine r_block ?_ | refine s_nil ?_ | refine c_true rfl ?_ | refine c_false rfl ?_ | refine s_pur (p_move rfl) rfl ?_ | refine s_pur (p_assign rfl) rfl ?_ | refine s_pur (p_nil rfl) rfl ?_ | refine s_pur (p_pick_t rfl rfl) rfl ?_ | refine s_pur (p_pick_f rfl rfl) rfl ?_ | refine s_pur (p_addW rfl rfl) rfl ?_ | refine s_pur (p_build80 rfl rfl rfl) rfl ?_)
    refine s_eff (e_alloc Yba.zeroValue80) rfl ?_
    rintro _ x ⟨rfl, nx⟩
    rw [hd]
    refine s_eff0 (e_storeAll (vs := dl d) rfl rfl Yba.sizeOf80 rfl nx.at_ rfl (dl_one d)) ?_
    intro _ y uy
    repeat (first | refine c_seq ?_ | refine c_region ?_ | refine c_block ?_ | refine c_skip ?_ | refine c_exit ?_ | refine c_ret ?_ | refine n_then ?_ | refine n_block ?_ | refine x_then ?_ | refine x_block_eq ?_ | refine x_block_ne rfl ?_ | refine r_then ?_ | refine r_block ?_ | refine s_nil ?_ | refine c_true rfl ?_ | refine c_false rfl ?_ | refine s_pur (p_move rfl) rfl ?_ | refine s_pur (p_assign rfl) rfl ?_ | refine s_pur (p_nil rfl) rfl ?_ | refine s_pur (p_pick_t rfl rfl) rfl ?_ | refine s_pur (p_pick_f rfl rfl) rfl ?_)
    exact m_done ⟨⟨by rw [uy.size]; have := nx.size; omega, fun k hk => by rw [uy.other k (by omega), nx.other k hk]⟩, by rw [uy.size, nx.size], uy.at_⟩ (by repeat (first | exact Sub.nil | refine Sub.cons rfl ?_))
  rintro q1 ⟨k1, s1, hd1⟩
  refine c_mid [(41, .slice (some ⟨og, 0, none⟩) n n), (46, .pointer (some ⟨rb, 0, none⟩)), (58, .pointer (some ⟨q.size, 0, none⟩)), (59, .int .i64 (n : Int))] (fun x => q1 = x) ?_ ?_
  · repeat (first | refine c_seq ?_ | refine c_region ?_ | refine c_block ?_ | refine c_skip ?_ | refine c_exit ?_ | refine c_ret ?_ | refine n_then ?_ | refine n_block ?_ | refine x_then ?_ | refine x_block_eq ?_ | refine x_block_ne rfl ?_ | refine r_then ?_ | refine r_block ?_ | refine s_nil ?_ | refine c_true rfl ?_ | refine c_false rfl ?_ | refine s_pur (p_move rfl) rfl ?_ | refine s_pur (p_assign rfl) rfl ?_ | refine s_pur (p_nil rfl) rfl ?_ | refine s_pur (p_pick_t rfl rfl) rfl ?_ | refine s_pur (p_pick_f rfl rfl) rfl ?_ | refine s_pur (p_len rfl Yba.underlying68) rfl ?_ | refine s_pur (p_idx rfl rfl rfl (by omega) Yba.underlying68 Yba.sizeOf80) rfl ?_)
    exact m_done rfl (by repeat (first | exact Sub.nil | refine Sub.cons rfl ?_))
  rintro _ rfl
  refine c_seq ?_
  repeat (first | refine c_region ?_ | refine c_block ?_ | refine c_skip ?_ | refine c_exit ?_ | refine c_ret ?_ | refine n_then ?_ | refine n_block ?_ | refine x_then ?_ | refine x_block_eq ?_ | refine x_block_ne rfl ?_ | refine r_then ?_ | refine r_block ?_ | refine s_nil ?_ | refine c_true rfl ?_ | refine c_false rfl ?_ | refine s_pur (p_move rfl) rfl ?_ | refine s_pur (p_assign rfl) rfl ?_ | refine s_pur (p_nil rfl) rfl ?_ | refine s_pur (p_pick_t rfl rfl) rfl ?_ | refine s_pur (p_pick_f rfl rfl) rfl ?_)
  -- the path
  refine c_seq ?_
  repeat (first | refine c_seq ?_ | refine c_region ?_ | refine c_block ?_ | refine c_skip ?_ | refine c_exit ?_ | refine c_ret ?_ | refine n_then ?_ | refine n_block ?_ | refine x_then ?_ | refine x_block_eq ?_ | refine x_block_ne rfl ?_ | refine r_then ?_ | refine r_block ?_ | refine s_nil ?_ | refine c_true rfl ?_ | refine c_false rfl ?_ | refine s_pur (p_move rfl) rfl ?_ | refine s_pur (p_assign rfl) rfl ?_ | refine s_pur (p_nil rfl) rfl ?_ | refine s_pur (p_pick_t rfl rfl) rfl ?_ | refine s_pur (p_pick_f rfl rfl) rfl ?_)
  refine c_loop (fun x : Nat × Value => [(41, .slice (some ⟨og, 0, none⟩) n n), (46, .pointer (some ⟨rb, 0, none⟩)), (58, .pointer (some ⟨q.size, 0, none⟩)), (59, .int .i64 (n : Int)), (60, x.2), (61, .int .i64 (chn n x.1 : Int))])
    (fun x y => Kp q1 y ∧ Owns y q1.size 3 1 x.2 x.1 (chL n x.1) ∧ ∀ t, t < x.1 → 0 < chn n t) (fun x => chn n x.1) (0, .slice none 0 0) ⟨Kp.refl _, ⟨by simp [chL], .inl ⟨rfl, rfl⟩⟩, fun t ht => by simp at ht⟩ (by repeat (first | exact Sub.nil | refine Sub.cons rfl ?_)) ?_
  rintro ⟨s, v⟩ y ⟨ky, ow, hpos⟩
  simp only at ow hpos
  have hdrop := chn_drop s hpos
  have sy := ky.size
  refine cut [(41, .slice (some ⟨og, 0, none⟩) n n), (46, .pointer (some ⟨rb, 0, none⟩)), (58, .pointer (some ⟨q.size, 0, none⟩)), (59, .int .i64 (n : Int)), (60, v), (61, .int .i64 (chn n s : Int))] Sub.refl ?_
  repeat (first | refine c_seq ?_ | refine c_region ?_ | refine c_block ?_ | refine c_skip ?_ | refine c_exit ?_ | refine c_ret ?_ | refine n_then ?_ | refine n_block ?_ | refine x_then ?_ | refine x_block_eq ?_ | refine x_block_ne rfl ?_ | refine r_then ?_ | refine r_block ?_ | refine s_nil ?_ | refine c_true rfl ?_ | refine c_false rfl ?_ | refine s_pur (p_move rfl) rfl ?_ | refine s_pur (p_assign rfl) rfl ?_ | refine s_pur (p_nil rfl) rfl ?_ | refine s_pur (p_pick_t rfl rfl) rfl ?_ | refine s_pur (p_pick_f rfl rfl) rfl ?_)
  refine s_eff (e_slice1 rfl Yba.underlying23 Yba.sizeOf3 Yba.zeroValue3 rfl) rfl ?_
  rintro _ y1 ⟨rfl, ny⟩
  have sy1 := ny.size
  refine s_eff (app23 rfl rfl (ow.new ny) (by rw [hc_of ny.at_]; rfl) (by omega) (by omega)) rfl ?_
  rintro v2 y2 ⟨ow2, g2, hnn⟩
  rw [← chL_succ] at ow2
  have ky2 : Kp q1 y2 := (ky.trans (Kp.of ny)).grow g2 (ow.new ny) (Nat.le_refl _)
  by_cases h0 : chn n s = 0
  · have e0 : ((chn n s : Nat) : Int) = 0 := by omega
    obtain ⟨pg, cp, rfl, hpg, pr⟩ := irow_of ow2 hnn
    repeat (first | refine c_seq ?_ | refine c_region ?_ | refine c_block ?_ | refine c_skip ?_ | refine c_exit ?_ | refine c_ret ?_ | refine n_then ?_ | refine n_block ?_ | refine x_then ?_ | refine x_block_eq ?_ | refine x_block_ne rfl ?_ | refine r_then ?_ | refine r_block ?_ | refine s_nil ?_ | refine c_true rfl ?_ | refine c_false rfl ?_ | refine s_pur (p_move rfl) rfl ?_ | refine s_pur (p_assign rfl) rfl ?_ | refine s_pur (p_nil rfl) rfl ?_ | refine s_pur (p_pick_t rfl rfl) rfl ?_ | refine s_pur (p_pick_f rfl rfl) rfl ?_ | refine s_pur (p_lssT rfl rfl (by omega)) rfl ?_ | refine s_pur (p_lssF rfl rfl (by omega)) rfl ?_ | refine s_pur (p_leqT rfl rfl (by omega)) rfl ?_ | refine s_pur (p_leqF rfl rfl (by omega)) rfl ?_ | refine s_pur (p_gtrT rfl rfl (by omega)) rfl ?_ | refine s_pur (p_gtrF rfl rfl (by omega)) rfl ?_ | refine s_pur (p_geqT rfl rfl (by omega)) rfl ?_ | refine s_pur (p_geqF rfl rfl (by omega)) rfl ?_ | refine s_pur (p_eqlT rfl rfl (by omega)) rfl ?_ | refine s_pur (p_eqlF rfl rfl (by omega)) rfl ?_ | refine s_pur (p_neqT rfl rfl (by omega)) rfl ?_ | refine s_pur (p_neqF rfl rfl (by omega)) rfl ?_)
    refine s_call Yba.call16 rfl rfl (reverse_ok y2 pg (s + 1) cp (chn n) pr (by omega) (by omega)) ?_
    rintro _ y3 ⟨rfl, pr3, sz3, o3⟩
    simp only [Nat.add_sub_cancel] at pr3
    have sy2 := ky2.size
    have k3 : Kp q1 y3 := ⟨by omega, fun k hk => by rw [o3 k (by omega)]; exact ky2.same k hk⟩
    repeat (first | refine c_region ?_ | refine c_block ?_ | refine c_skip ?_ | refine c_exit ?_ | refine c_ret ?_ | refine n_then ?_ | refine n_block ?_ | refine x_then ?_ | refine x_block_eq ?_ | refine x_block_ne rfl ?_ | refine r_then ?_ | refine r_block ?_ | refine s_nil ?_ | refine c_true rfl ?_ | refine c_false rfl ?_ | refine s_pur (p_move rfl) rfl ?_ | refine s_pur (p_assign rfl) rfl ?_ | refine s_pur (p_nil rfl) rfl ?_ | refine s_pur (p_pick_t rfl rfl) rfl ?_ | refine s_pur (p_pick_f rfl rfl) rfl ?_)
    refine cut [(41, .slice (some ⟨og, 0, none⟩) n n), (46, .pointer (some ⟨rb, 0, none⟩)), (58, .pointer (some ⟨q.size, 0, none⟩)), (59, .int .i64 (n : Int)), (60, .slice (some ⟨pg, 0, none⟩) (s + 1) cp)] (by repeat (first | exact Sub.nil | refine Sub.cons rfl ?_)) ?_
    -- exp
    refine c_mid [(41, .slice (some ⟨og, 0, none⟩) n n), (46, .pointer (some ⟨rb, 0, none⟩)), (57, .slice (some ⟨y3.size, 0, none⟩) (n + 1) (n + 1)), (58, .pointer (some ⟨q.size, 0, none⟩)), (60, .slice (some ⟨pg, 0, none⟩) (s + 1) cp)] (fun z => Kp y3 z ∧ z.size = y3.size + 1 ∧ DRow z y3.size (n + 1) (n + 1) (fun _ => (0, 0, 0))) ?_ ?_
    · repeat (first | refine c_seq ?_ | refine c_region ?_ | refine c_block ?_ | refine c_skip ?_ | refine c_exit ?_ | refine c_ret ?_ | refine n_then ?_ | refine n_block ?_ | refine x_then ?_ | refine x_block_eq ?_ | refine x_block_ne rfl ?_ | refine r_then ?_ | refine r_block ?_ | refine s_nil ?_ | refine c_true rfl ?_ | refine c_false rfl ?_ | refine s_pur (p_move rfl) rfl ?_ | refine s_pur (p_assign rfl) rfl ?_ | refine s_pur (p_nil rfl) rfl ?_ | refine s_pur (p_pick_t rfl rfl) rfl ?_ | refine s_pur (p_pick_f rfl rfl) rfl ?_ | refine s_pur (p_add rfl rfl rfl (by omega) (by omega)) rfl ?_)
      refine s_eff (e_make80 (m := n + 1) rfl rfl (by omega)) rfl ?_
      rintro _ z ⟨rfl, hz⟩
      repeat (first | refine c_seq ?_ | refine c_region ?_ | refine c_block ?_ | refine c_skip ?_ | refine c_exit ?_ | refine c_ret ?_ | refine n_then ?_ | refine n_block ?_ | refine x_then ?_ | refine x_block_eq ?_ | refine x_block_ne rfl ?_ | refine r_then ?_ | refine r_block ?_ | refine s_nil ?_ | refine c_true rfl ?_ | refine c_false rfl ?_ | refine s_pur (p_move rfl) rfl ?_ | refine s_pur (p_assign rfl) rfl ?_ | refine s_pur (p_nil rfl) rfl ?_ | refine s_pur (p_pick_t rfl rfl) rfl ?_ | refine s_pur (p_pick_f rfl rfl) rfl ?_)
      exact m_done hz (by repeat (first | exact Sub.nil | refine Sub.cons rfl ?_))
    rintro y4 ⟨k4, s4, d4⟩
    have kq4 : Kp q y4 := (k1.trans k3).trans k4
    have dold4 := dold.keep (kq4.same og dold.lt)
    have sq1 := k1.size
    have s3' := k3.size
    have pglt := pr3.lt
    have olt := dold.lt
    refine c_mid [(41, .slice (some ⟨og, 0, none⟩) n n), (46, .pointer (some ⟨rb, 0, none⟩)), (57, .slice (some ⟨y3.size, 0, none⟩) (n + 1) (n + 1)), (58, .pointer (some ⟨q.size, 0, none⟩)), (60, .slice (some ⟨pg, 0, none⟩) (s + 1) cp)] (fun z => DRow z y3.size (n + 1) (n + 1) (fun i => if i < n then f i else (0, 0, 0)) ∧ z.size = y4.size ∧ ∀ k, k ≠ y3.size → z[k]? = y4[k]?) ?_ ?_
    · repeat (first | refine c_seq ?_ | refine c_region ?_ | refine c_block ?_ | refine c_skip ?_ | refine c_exit ?_ | refine c_ret ?_ | refine n_then ?_ | refine n_block ?_ | refine x_then ?_ | refine x_block_eq ?_ | refine x_block_ne rfl ?_ | refine r_then ?_ | refine r_block ?_ | refine s_nil ?_ | refine c_true rfl ?_ | refine c_false rfl ?_ | refine s_pur (p_move rfl) rfl ?_ | refine s_pur (p_assign rfl) rfl ?_ | refine s_pur (p_nil rfl) rfl ?_ | refine s_pur (p_pick_t rfl rfl) rfl ?_ | refine s_pur (p_pick_f rfl rfl) rfl ?_)
      refine s_eff (copyD rfl rfl dold4 d4 (by omega)) rfl ?_
      rintro _ z hz
      repeat (first | refine c_seq ?_ | refine c_region ?_ | refine c_block ?_ | refine c_skip ?_ | refine c_exit ?_ | refine c_ret ?_ | refine n_then ?_ | refine n_block ?_ | refine x_then ?_ | refine x_block_eq ?_ | refine x_block_ne rfl ?_ | refine r_then ?_ | refine r_block ?_ | refine s_nil ?_ | refine c_true rfl ?_ | refine c_false rfl ?_ | refine s_pur (p_move rfl) rfl ?_ | refine s_pur (p_assign rfl) rfl ?_ | refine s_pur (p_nil rfl) rfl ?_ | refine s_pur (p_pick_t rfl rfl) rfl ?_ | refine s_pur (p_pick_f rfl rfl) rfl ?_)
      exact m_done hz (by repeat (first | exact Sub.nil | refine Sub.cons rfl ?_))
    rintro y5 ⟨d5, s5, o5⟩
    replace d5 := d5.congr (f' := upd f n (0, 0, 0)) (fun i hi => by
      unfold upd
      by_cases e : i = n
      · rw [if_pos e, if_neg (by omega)]
      · rw [if_neg e, if_pos (by omega)])
    have k5 : Kp y3 y5 := ⟨by omega, fun k hk => by rw [o5 k (by omega)]; exact k4.same k hk⟩
    have kq5 : Kp q y5 := (k1.trans k3).trans k5
    have pr5 : IRow y5 pg (s + 1) cp (fun t => chn n (s - t)) := pr3.keep (k5.same pg pglt)
    have dold5 := dold.keep (kq5.same og dold.lt)
    have hd5 : y5[q.size]? = some (.cells (dl d).toArray 80 (0, 0)) := (k3.trans k5).get hd1
    have ldd : ∀ z : Heap, z[q.size]? = some (.cells (dl d).toArray 80 (0, 0)) → ∀ t, t < 21 → hc z q.size (0 + t) = (dl d)[t]? := fun z hz t ht => by rw [hc_of hz, Nat.zero_add]; simp
    refine c_mid [(41, .slice (some ⟨og, 0, none⟩) n n), (46, .pointer (some ⟨rb, 0, none⟩)), (57, .slice (some ⟨y3.size, 0, none⟩) (n + 1) (n + 1)), (58, .pointer (some ⟨q.size, 0, none⟩)), (60, .slice (some ⟨pg, 0, none⟩) (s + 1) cp), (62, .int .i64 (s : Int))] (fun z => y5 = z) ?_ ?_
    · repeat (first | refine c_seq ?_ | refine c_region ?_ | refine c_block ?_ | refine c_skip ?_ | refine c_exit ?_ | refine c_ret ?_ | refine n_then ?_ | refine n_block ?_ | refine x_then ?_ | refine x_block_eq ?_ | refine x_block_ne rfl ?_ | refine r_then ?_ | refine r_block ?_ | refine s_nil ?_ | refine c_true rfl ?_ | refine c_false rfl ?_ | refine s_pur (p_move rfl) rfl ?_ | refine s_pur (p_assign rfl) rfl ?_ | refine s_pur (p_nil rfl) rfl ?_ | refine s_pur (p_pick_t rfl rfl) rfl ?_ | refine s_pur (p_pick_f rfl rfl) rfl ?_ | refine s_pur (p_len rfl Yba.underlying23) rfl ?_ | refine s_pur (p_idx1 rfl rfl rfl (by omega) Yba.underlying23 Yba.sizeOf3) rfl ?_ | refine s_pur (p_sub (c := (s : Int)) rfl rfl (by omega) (by omega) (by omega)) rfl ?_)
      exact m_done rfl (by repeat (first | exact Sub.nil | refine Sub.cons rfl ?_))
    rintro _ rfl
    have fin : ∀ (j : Nat) (z : Heap), j ≤ s → Kp y5 z → (j < s → lt d (f (chn n (s - j))) = true) → (∀ t, t < j → lt d (f (chn n (s - t))) = false) →
        V.Fin 531 w0 (CW Yba.prog (V.sub (Yba.f4.body.getD .skip) [1, 1, 1, 1, 1, 1, 1, 1, 1, 1, 1, 1, 1, 1, 1, 1, 1, 1, 1, 1, 1, 1, 1, 1, 1, 1, 1, 1, 1, 1, 1, 1, 1, 1, 1, 1, 1, 1, 1, 1, 1, 1, 0, 1, 1, 1, 1, 1, 1, 1, 1, 1, 1, 1]) (Exit.then (CW Yba.prog (V.sub (Yba.f4.body.getD .skip) [1, 1, 1, 1, 1, 1, 1, 1, 1, 1, 1, 1, 1, 1, 1, 1, 1, 1, 1, 1, 1, 1, 1, 1, 1, 1, 1, 1, 1, 1, 1, 1, 1, 1, 1, 1, 1, 1, 1, 1, 1, 1, 1]) (bodyPost Yba.prog Yba.f4 (PostR w0 R))) (bodyPost Yba.prog Yba.f4 (PostR w0 R)))) [(41, .slice (some ⟨og, 0, none⟩) n n), (46, .pointer (some ⟨rb, 0, none⟩)), (57, .slice (some ⟨y3.size, 0, none⟩) (n + 1) (n + 1)), (58, .pointer (some ⟨q.size, 0, none⟩)), (60, .slice (some ⟨pg, 0, none⟩) (s + 1) cp), (62, .int .i64 (j : Int))] z := by
      intro j z hj kz hj1 hj2
      have sz := kz.size
      refine lawT3b (d5.keep (kz.same _ (by omega))) (dold5.keep (kz.same _ (by omega))) (pr5.keep (kz.same _ (by omega))) (kz.get hd5) (by omega) (by omega) hpos hj hn (by omega) ?_
      intro u du su ou
      refine n_then ?_
      have ku : Kp q u := ⟨by omega, fun k hk => by rw [ou k (by omega), kz.same k (by omega), kq5.same k hk]⟩
      refine lawT4 (ku.cell c5) (dg.keep (ku.same g dg.lt)) du ?_ (by omega) (hR u ku)
      intro i hi
      have := sift_eq (F := upd f n d) (G := upd f n (0, 0, 0)) (f := f) (d := d) (n := n) (S := s - j) (m := s) (fun x hx => by unfold upd; rw [if_neg (by omega)]) (fun x hx => by
        unfold upd
        rw [if_neg hx, if_neg hx]) hs hpos h0 (by omega) (fun h1 => hj1 (by omega)) (fun t h1 h2 => by
        have := hj2 (s - t) (by omega)
        rwa [show s - (s - t) = t by omega] at this)
      rw [this]
    refine c_seq ?_
    repeat (first | refine c_seq ?_ | refine c_region ?_ | refine c_block ?_ | refine c_skip ?_ | refine c_exit ?_ | refine c_ret ?_ | refine n_then ?_ | refine n_block ?_ | refine x_then ?_ | refine x_block_eq ?_ | refine x_block_ne rfl ?_ | refine r_then ?_ | refine r_block ?_ | refine s_nil ?_ | refine c_true rfl ?_ | refine c_false rfl ?_ | refine s_pur (p_move rfl) rfl ?_ | refine s_pur (p_assign rfl) rfl ?_ | refine s_pur (p_nil rfl) rfl ?_ | refine s_pur (p_pick_t rfl rfl) rfl ?_ | refine s_pur (p_pick_f rfl rfl) rfl ?_)
    refine c_loop (fun t : Nat => [(41, .slice (some ⟨og, 0, none⟩) n n), (46, .pointer (some ⟨rb, 0, none⟩)), (57, .slice (some ⟨y3.size, 0, none⟩) (n + 1) (n + 1)), (58, .pointer (some ⟨q.size, 0, none⟩)), (60, .slice (some ⟨pg, 0, none⟩) (s + 1) cp), (62, .int .i64 (s : Int)), (63, .int .i64 (t : Int))])
      (fun t z => t ≤ s ∧ Kp y5 z ∧ ∀ t', t' < t → lt d (f (chn n (s - t'))) = false) (fun t => s - t) 0 ⟨Nat.zero_le _, Kp.refl _, fun t ht => by omega⟩ (by repeat (first | exact Sub.nil | refine Sub.cons rfl ?_)) ?_
    rintro t z ⟨ht, kz, hno⟩
    have szz := kz.size
    by_cases hlt : t < s
    · have hpt := hpos 0 (by omega)
      have hct := chn_strict (n := n) (s := 0) (t := s - t) (by omega) hpt
      simp only [chn] at hct
      have l5 := (pr5.keep (kz.same pg (by omega))).cell (show t < s + 1 by omega)
      have l7 := (dold5.keep (kz.same og (by omega))).cell hct
      refine c_mid [(41, .slice (some ⟨og, 0, none⟩) n n), (46, .pointer (some ⟨rb, 0, none⟩)), (57, .slice (some ⟨y3.size, 0, none⟩) (n + 1) (n + 1)), (58, .pointer (some ⟨q.size, 0, none⟩)), (60, .slice (some ⟨pg, 0, none⟩) (s + 1) cp), (62, .int .i64 (s : Int)), (63, .int .i64 (t : Int))] (fun u => z = u) ?_ ?_
      · repeat (first | refine c_seq ?_ | refine c_region ?_ | refine c_block ?_ | refine c_skip ?_ | refine c_exit ?_ | refine c_ret ?_ | refine n_then ?_ | refine n_block ?_ | refine x_then ?_ | refine x_block_eq ?_ | refine x_block_ne rfl ?_ | refine r_then ?_ | refine r_block ?_ | refine s_nil ?_ | refine c_true rfl ?_ | refine c_false rfl ?_ | refine s_pur (p_move rfl) rfl ?_ | refine s_pur (p_assign rfl) rfl ?_ | refine s_pur (p_nil rfl) rfl ?_ | refine s_pur (p_pick_t rfl rfl) rfl ?_ | refine s_pur (p_pick_f rfl rfl) rfl ?_ | refine s_pur (p_len rfl Yba.underlying23) rfl ?_ | refine s_pur (p_idx1 rfl rfl rfl (by omega) Yba.underlying23 Yba.sizeOf3) rfl ?_ | refine s_pur (p_sub (c := (s : Int)) rfl rfl (by omega) (by omega) (by omega)) rfl ?_ | refine s_pur (p_lssT rfl rfl (by omega)) rfl ?_ | refine s_pur (p_lssF rfl rfl (by omega)) rfl ?_ | refine s_pur (p_leqT rfl rfl (by omega)) rfl ?_ | refine s_pur (p_leqF rfl rfl (by omega)) rfl ?_ | refine s_pur (p_gtrT rfl rfl (by omega)) rfl ?_ | refine s_pur (p_gtrF rfl rfl (by omega)) rfl ?_ | refine s_pur (p_geqT rfl rfl (by omega)) rfl ?_ | refine s_pur (p_geqF rfl rfl (by omega)) rfl ?_ | refine s_pur (p_eqlT rfl rfl (by omega)) rfl ?_ | refine s_pur (p_eqlF rfl rfl (by omega)) rfl ?_ | refine s_pur (p_neqT rfl rfl (by omega)) rfl ?_ | refine s_pur (p_neqF rfl rfl (by omega)) rfl ?_)
        exact m_done rfl (by repeat (first | exact Sub.nil | refine Sub.cons rfl ?_))
      rintro _ rfl
      refine c_seq ?_
      refine c_block ?_
      refine c_seq ?_
      refine c_held followsM rfl ?_
      refine h_any 1 rfl (by kernel_rfl) rfl (fun _ => p_move rfl) rfl ?_
      refine h_any 2 rfl (by kernel_rfl) rfl (fun _ => p_move rfl) rfl ?_
      refine h_any 3 rfl (by kernel_rfl) rfl (fun _ => p_move rfl) rfl ?_
      refine h_any 4 rfl (by kernel_rfl) rfl (fun _ => p_idx1 (j := t) rfl rfl rfl (by omega) Yba.underlying23 Yba.sizeOf3) rfl ?_
      refine h_take 5 rfl (by kernel_rfl) rfl (p_load rfl Yba.isAgg3 l5) rfl ?_
      refine h_any 6 rfl (by kernel_rfl) rfl (fun _ => p_idx (j := chn n (s - t)) rfl rfl rfl (by omega) Yba.underlying68 Yba.sizeOf80) rfl ?_
      refine h_take 7 rfl (by kernel_rfl) rfl (p_loadA (vs := dl (f (chn n (s - t)))) rfl Yba.isAgg80 Yba.sizeOf80 rfl l7) rfl ?_
      refine h_take 0 rfl (by kernel_rfl) rfl (p_loadA (vs := dl d) rfl Yba.isAgg80 Yba.sizeOf80 rfl (ldd z (kz.get hd5))) rfl ?_
      refine h_call 8 rfl (by kernel_rfl) rfl Yba.call17 rfl rfl (zbefore_ok z d (f (chn n (s - t)))) ?_
      rintro _ z2 ⟨rfl, kz2⟩
      refine h_done (by kernel_rfl) ?_
      cases hb : lt d (f (chn n (s - t))) with
      | true =>
        repeat (first | refine c_region ?_ | refine c_block ?_ | refine c_skip ?_ | refine c_exit ?_ | refine c_ret ?_ | refine n_then ?_ | refine n_block ?_ | refine x_then ?_ | refine x_block_eq ?_ | refine x_block_ne rfl ?_ | refine r_then ?_ | refine r_block ?_ | refine s_nil ?_ | refine c_true rfl ?_ | refine c_false rfl ?_ | refine s_pur (p_move rfl) rfl ?_ | refine s_pur (p_assign rfl) rfl ?_ | refine s_pur (p_nil rfl) rfl ?_ | refine s_pur (p_pick_t rfl rfl) rfl ?_ | refine s_pur (p_pick_f rfl rfl) rfl ?_)
        refine c_seq ?_
        repeat (first | refine c_region ?_ | refine c_block ?_ | refine c_skip ?_ | refine c_exit ?_ | refine c_ret ?_ | refine n_then ?_ | refine n_block ?_ | refine x_then ?_ | refine x_block_eq ?_ | refine x_block_ne rfl ?_ | refine r_then ?_ | refine r_block ?_ | refine s_nil ?_ | refine c_true rfl ?_ | refine c_false rfl ?_ | refine s_pur (p_move rfl) rfl ?_ | refine s_pur (p_assign rfl) rfl ?_ | refine s_pur (p_nil rfl) rfl ?_ | refine s_pur (p_pick_t rfl rfl) rfl ?_ | refine s_pur (p_pick_f rfl rfl) rfl ?_)
        refine cut [(41, .slice (some ⟨og, 0, none⟩) n n), (46, .pointer (some ⟨rb, 0, none⟩)), (57, .slice (some ⟨y3.size, 0, none⟩) (n + 1) (n + 1)), (58, .pointer (some ⟨q.size, 0, none⟩)), (60, .slice (some ⟨pg, 0, none⟩) (s + 1) cp), (62, .int .i64 (t : Int))] (by repeat (first | exact Sub.nil | refine Sub.cons rfl ?_)) ?_
        exact fin t z2 (by omega) (kz.trans kz2) (fun _ => hb) hno
      | false =>
        repeat (first | refine c_seq ?_ | refine c_region ?_ | refine c_block ?_ | refine c_skip ?_ | refine c_exit ?_ | refine c_ret ?_ | refine n_then ?_ | refine n_block ?_ | refine x_then ?_ | refine x_block_eq ?_ | refine x_block_ne rfl ?_ | refine r_then ?_ | refine r_block ?_ | refine s_nil ?_ | refine c_true rfl ?_ | refine c_false rfl ?_ | refine s_pur (p_move rfl) rfl ?_ | refine s_pur (p_assign rfl) rfl ?_ | refine s_pur (p_nil rfl) rfl ?_ | refine s_pur (p_pick_t rfl rfl) rfl ?_ | refine s_pur (p_pick_f rfl rfl) rfl ?_ | refine s_pur (p_add rfl rfl rfl (by omega) (by omega)) rfl ?_)
        exact c_next (t + 1) ⟨hlt, kz.trans kz2, fun t' h' => by
          by_cases e : t' = t
          · subst e; exact hb
          · exact hno t' (by omega)⟩ (by repeat (first | exact Sub.nil | refine Sub.cons rfl ?_)) (by omega)
    · obtain rfl : t = s := by omega
      refine c_seq ?_
      refine c_seq ?_
      repeat (first | refine c_region ?_ | refine c_block ?_ | refine c_skip ?_ | refine c_exit ?_ | refine c_ret ?_ | refine n_then ?_ | refine n_block ?_ | refine x_then ?_ | refine x_block_eq ?_ | refine x_block_ne rfl ?_ | refine r_then ?_ | refine r_block ?_ | refine s_nil ?_ | refine c_true rfl ?_ | refine c_false rfl ?_ | refine s_pur (p_move rfl) rfl ?_ | refine s_pur (p_assign rfl) rfl ?_ | refine s_pur (p_nil rfl) rfl ?_ | refine s_pur (p_pick_t rfl rfl) rfl ?_ | refine s_pur (p_pick_f rfl rfl) rfl ?_ | refine s_pur (p_len rfl Yba.underlying23) rfl ?_ | refine s_pur (p_idx1 rfl rfl rfl (by omega) Yba.underlying23 Yba.sizeOf3) rfl ?_ | refine s_pur (p_sub (c := (t : Int)) rfl rfl (by omega) (by omega) (by omega)) rfl ?_ | refine s_pur (p_lssT rfl rfl (by omega)) rfl ?_ | refine s_pur (p_lssF rfl rfl (by omega)) rfl ?_ | refine s_pur (p_leqT rfl rfl (by omega)) rfl ?_ | refine s_pur (p_leqF rfl rfl (by omega)) rfl ?_ | refine s_pur (p_gtrT rfl rfl (by omega)) rfl ?_ | refine s_pur (p_gtrF rfl rfl (by omega)) rfl ?_ | refine s_pur (p_geqT rfl rfl (by omega)) rfl ?_ | refine s_pur (p_geqF rfl rfl (by omega)) rfl ?_ | refine s_pur (p_eqlT rfl rfl (by omega)) rfl ?_ | refine s_pur (p_eqlF rfl rfl (by omega)) rfl ?_ | refine s_pur (p_neqT rfl rfl (by omega)) rfl ?_ | refine s_pur (p_neqF rfl rfl (by omega)) rfl ?_)
      refine cut [(41, .slice (some ⟨og, 0, none⟩) n n), (46, .pointer (some ⟨rb, 0, none⟩)), (57, .slice (some ⟨y3.size, 0, none⟩) (n + 1) (n + 1)), (58, .pointer (some ⟨q.size, 0, none⟩)), (60, .slice (some ⟨pg, 0, none⟩) (t + 1) cp), (62, .int .i64 (t : Int))] (by repeat (first | exact Sub.nil | refine Sub.cons rfl ?_)) ?_
      exact fin t z (Nat.le_refl _) kz (fun h => by omega) hno
  · repeat (first | refine c_seq ?_ | refine c_region ?_ | refine c_block ?_ | refine c_skip ?_ | refine c_exit ?_ | refine c_ret ?_ | refine n_then ?_ | refine n_block ?_ | refine x_then ?_ | refine x_block_eq ?_ | refine x_block_ne rfl ?_ | refine r_then ?_ | refine r_block ?_ | refine s_nil ?_ | refine c_true rfl ?_ | refine c_false rfl ?_ | refine s_pur (p_move rfl) rfl ?_ | refine s_pur (p_assign rfl) rfl ?_ | refine s_pur (p_nil rfl) rfl ?_ | refine s_pur (p_pick_t rfl rfl) rfl ?_ | refine s_pur (p_pick_f rfl rfl) rfl ?_ | refine s_pur (p_sub (c := ((chn n s - 1 : Nat) : Int)) rfl rfl (by omega) (by omega) (by omega)) rfl ?_ | refine s_pur (p_quoN (b := 2) (c := chn n (s + 1)) rfl rfl (by omega) rfl (by have := chn_le n (s + 1); omega)) rfl ?_ | refine s_pur (p_lssT rfl rfl (by omega)) rfl ?_ | refine s_pur (p_lssF rfl rfl (by omega)) rfl ?_ | refine s_pur (p_leqT rfl rfl (by omega)) rfl ?_ | refine s_pur (p_leqF rfl rfl (by omega)) rfl ?_ | refine s_pur (p_gtrT rfl rfl (by omega)) rfl ?_ | refine s_pur (p_gtrF rfl rfl (by omega)) rfl ?_ | refine s_pur (p_geqT rfl rfl (by omega)) rfl ?_ | refine s_pur (p_geqF rfl rfl (by omega)) rfl ?_ | refine s_pur (p_eqlT rfl rfl (by omega)) rfl ?_ | refine s_pur (p_eqlF rfl rfl (by omega)) rfl ?_ | refine s_pur (p_neqT rfl rfl (by omega)) rfl ?_ | refine s_pur (p_neqF rfl rfl (by omega)) rfl ?_)
    have hlt := chn_lt (n := n) (s := s) (by omega)
    exact c_next (s + 1, v2) ⟨ky2, ow2, fun t ht => by
      by_cases e : t = s
      · subst e; omega
      · exact hpos t (by omega)⟩ (by repeat (first | exact Sub.nil | refine Sub.cons rfl ?_)) hlt
end Go.Proofs.Ybulkdiqq
