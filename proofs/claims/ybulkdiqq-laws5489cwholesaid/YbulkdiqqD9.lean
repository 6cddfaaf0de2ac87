/-
  D9: beacon.start; slices.Reverse at a path.
-/
import Derived.Test.YbulkdiqqD8
namespace Go.Proofs.Ybulkdiqq
set_option linter.unusedSimpArgs false
set_option linter.unusedVariables false
set_option linter.unnecessarySimpa false
open Go Go.RowKit V
set_option maxRecDepth 100000

/-- What start leaves. -/
def StartRes (h : Heap) (B rb pb nb wb nmb : Nat) (sq lead now p per miss id : Int) (g n : Nat) (f : Nat → Dlv) (Lw Ln : ML) (h' : Heap) : Prop :=
  h.size ≤ h'.size ∧ (∀ k, k < h.size → k ≠ rb → k ≠ wb → k ≠ g → k ≠ nmb → h'[k]? = h[k]?) ∧
  (∃ nd, h.size ≤ nd ∧ h'[nd]? = some (.cells (node p id per (IntKind.i64.wrap (miss * per))).toArray 66 (0, 0)) ∧ MapAt keyU h' nmb (putM Ln id (.pointer (some ⟨nd, 0, none⟩)))) ∧
  ((per ≤ 0 ∧ RunAt h' rb pb nb wb sq lead now g n n ∧ DRow h' g n n f ∧ MapAt keyU h' wb Lw) ∨
   (0 < per ∧ ∃ g' m, RunAt h' rb pb nb wb (IntKind.u64.wrap (sq + 1)) lead now g' (n + 1) m ∧ B ≤ g' ∧ n + 1 ≤ m ∧ DRow h' g' (n + 1) m (sift (upd f n (IntKind.i64.wrap (now + per), IntKind.u64.wrap (sq + 1), id)) (IntKind.i64.wrap (now + per), IntKind.u64.wrap (sq + 1), id) n) ∧ MapAt keyU h' wb (putM Lw id (.int .u64 (IntKind.u64.wrap (sq + 1))))))

set_option maxHeartbeats 8000000 in
theorem start_ok (h : Heap) (B bb rb pb nb wb nmb : Nat) (sq lead now p per miss hor id : Int) (g n : Nat) (f : Nat → Dlv) (Lp Lw Ln : ML) (c0 : hc h bb 0 = some (.pointer (some ⟨rb, 0, none⟩))) (c1 : hc h bb 1 = some (.int .i64 per)) (c2 : hc h bb 2 = some (.int .i64 miss)) (c3 : hc h bb 3 = some (.int .i64 hor)) (c4 : hc h bb 4 = some (.map (some nmb)))
    (r : RunAt h rb pb nb wb sq lead now g n n) (dr : DRow h g n n f) (mp : MapAt keyU h pb Lp) (mw : MapAt keyU h wb Lw) (mn : MapAt keyU h nmb Ln) (hne : wb ≠ nmb) (hp : prio Lp id = .int .u64 p) (hn : n ≤ 65536) (hB : B ≤ g) :
    CallsH Yba.prog 15 #[.pointer (some ⟨bb, 0, none⟩), .int .u64 id] h (fun u h' => u = .tuple #[] ∧ StartRes h B rb pb nb wb nmb sq lead now p per miss id g n f Lw Ln h') := by
  refine calls_of (N := 30) [(0, .pointer (some ⟨bb, 0, none⟩)), (1, .int .u64 id)] Yba.func15 rfl rfl (by simp) (by repeat (first | exact ArgsAre.nil | refine ArgsAre.cons rfl ?_)) ?_
  intro w0 _
  refine c_seq ?_
  refine start0 (rb := rb) (pb := pb) (L := Lp) (p := p) (per := per) (miss := miss) (hor := hor) c0 c1 c2 c3 r.c0 mp hp ?_
  intro q nd rs kq hnl hnd hrs hrl
  refine n_then ?_
  have mnq := mn.keep (kq.same nmb mn.lt)
  have a4 : hc q bb (0 + 4) = some (.map (some nmb)) := kq.cell c4
  refine c_mid [(0, .pointer (some ⟨bb, 0, none⟩)), (1, .int .u64 id), (5, .pointer (some ⟨rs, 0, none⟩))] (fun x => UpdM keyU q x nmb (putM Ln id (.pointer (some ⟨nd, 0, none⟩)))) ?_ ?_
  · repeat (first | refine c_seq ?_ | refine c_region ?_ | refine c_block ?_ | refine c_skip ?_ | refine c_exit ?_ | refine c_ret ?_ | refine n_then ?_ | refine n_block ?_ | refine x_then ?_ | refine x_block_eq ?_ | refine x_block_ne rfl ?_ | refine r_then ?_ | refine r_block ?_ | refine s_nil ?_ | refine c_true rfl ?_ | refine c_false rfl ?_ | refine s_pur (p_move rfl) rfl ?_ | refine s_pur (p_assign rfl) rfl ?_ | refine s_pur (p_nil rfl) rfl ?_ | refine s_pur (p_pick_t rfl rfl) rfl ?_ | refine s_pur (p_pick_f rfl rfl) rfl ?_ | refine s_pur (p_fld (off := 4) rfl Yba.underlying107 rfl Yba.sizeOf58 rfl) rfl ?_ | refine s_pur (p_load rfl Yba.isAgg58 (by assumption)) rfl ?_)
    refine s_eff0 (e_mapUpd keyEnc50 (key := id) rfl rfl rfl Yba.underlying58 mnq) ?_
    intro _ x ux
    repeat (first | refine c_seq ?_ | refine c_region ?_ | refine c_block ?_ | refine c_skip ?_ | refine c_exit ?_ | refine c_ret ?_ | refine n_then ?_ | refine n_block ?_ | refine x_then ?_ | refine x_block_eq ?_ | refine x_block_ne rfl ?_ | refine r_then ?_ | refine r_block ?_ | refine s_nil ?_ | refine c_true rfl ?_ | refine c_false rfl ?_ | refine s_pur (p_move rfl) rfl ?_ | refine s_pur (p_assign rfl) rfl ?_ | refine s_pur (p_nil rfl) rfl ?_ | refine s_pur (p_pick_t rfl rfl) rfl ?_ | refine s_pur (p_pick_f rfl rfl) rfl ?_)
    exact m_done ux (by repeat (first | exact Sub.nil | refine Sub.cons rfl ?_))
  intro x ux
  have rq := r.kp kq
  have drq := dr.keep (kq.same g dr.lt)
  have mwq := mw.keep (kq.same wb mw.lt)
  have n1 : nmb ≠ rb := rq.blk.map_ne mnq
  have n2 : nmb ≠ nb := rq.net.map_ne mnq
  have n3 : nmb ≠ g := drq.blk.map_ne mnq
  have rx := rq.keep (ux.other rb n1.symm) (ux.other nb n2.symm)
  have drx := drq.keep (ux.other g n3.symm)
  have mwx := mwq.keep (ux.other wb hne)
  have bsz := lt_of_hc c0
  have n4 : nmb ≠ bb := by
    rintro rfl
    obtain ⟨es, cl, h2, _⟩ := mn
    simp [hc, h2] at c0
  have c0x : hc x bb 0 = some (.pointer (some ⟨rb, 0, none⟩)) := by rw [hc_congr (ux.other bb n4.symm)]; exact kq.cell c0
  have msz := mn.lt
  have rsx : x[rs]? = some (.cells (bres p id per).toArray 118 (0, 0)) := by rw [ux.other rs (by omega)]; exact hrs
  have ndx : x[nd]? = some (.cells (node p id per (IntKind.i64.wrap (miss * per))).toArray 66 (0, 0)) := by rw [ux.other nd (by omega)]; exact hnd
  have ld : ∀ j, j < 6 → hc x rs (0 + j) = (bres p id per)[j]? := fun j hj => by rw [hc_of rsx, Nat.zero_add]; simp
  repeat (first | refine c_seq ?_ | refine c_region ?_ | refine c_block ?_ | refine c_skip ?_ | refine c_exit ?_ | refine c_ret ?_ | refine n_then ?_ | refine n_block ?_ | refine x_then ?_ | refine x_block_eq ?_ | refine x_block_ne rfl ?_ | refine r_then ?_ | refine r_block ?_ | refine s_nil ?_ | refine c_true rfl ?_ | refine c_false rfl ?_ | refine s_pur (p_move rfl) rfl ?_ | refine s_pur (p_assign rfl) rfl ?_ | refine s_pur (p_nil rfl) rfl ?_ | refine s_pur (p_pick_t rfl rfl) rfl ?_ | refine s_pur (p_pick_f rfl rfl) rfl ?_ | refine s_pur (p_loadA (vs := bres p id per) rfl Yba.isAgg118 Yba.sizeOf118 rfl ld) rfl ?_)
  refine s_call Yba.call23 rfl rfl (send_ok x B bb rb pb nb wb sq lead now p per id g n f Lw c0x rx drx mwx hn hB) ?_
  rintro _ y ⟨rfl, sz, ot, rest⟩
  have sq1 := kq.size
  have sx := ux.size
  have b1 := r.blk.lt
  have b2 := mw.lt
  have b3 := dr.lt
  have ndlt := lt_of_get ndx
  repeat (first | refine c_seq ?_ | refine c_region ?_ | refine c_block ?_ | refine c_skip ?_ | refine c_exit ?_ | refine c_ret ?_ | refine n_then ?_ | refine n_block ?_ | refine x_then ?_ | refine x_block_eq ?_ | refine x_block_ne rfl ?_ | refine r_then ?_ | refine r_block ?_ | refine s_nil ?_ | refine c_true rfl ?_ | refine c_false rfl ?_ | refine s_pur (p_move rfl) rfl ?_ | refine s_pur (p_assign rfl) rfl ?_ | refine s_pur (p_nil rfl) rfl ?_ | refine s_pur (p_pick_t rfl rfl) rfl ?_ | refine s_pur (p_pick_f rfl rfl) rfl ?_)
  refine end0 Yba.results15 ⟨rfl, by omega, fun k hk e1 e2 e3 e4 => ?_, ⟨nd, hnl, ?_, ?_⟩, rest⟩
  · rw [ot k (by omega) e1 e2 e3, ux.other k e4, kq.same k hk]
  · rw [ot nd (by omega) (by omega) (by omega) (by omega)]; exact ndx
  · exact ux.at_.keep (ot nmb (by omega) n1 hne.symm n3)

/-- A row of ints of the call's own. -/
def IRow (h : Heap) (g n m : Nat) (c : Nat → Nat) : Prop :=
  ∃ a : Array Value, h[g]? = some (.cells a 3 (0, 0)) ∧ a.size = m ∧ n ≤ m ∧ ∀ i, i < n → a[i]? = some (.int .i64 (c i : Int))
theorem IRow.cell {h : Heap} {g n m : Nat} {c : Nat → Nat} (r : IRow h g n m c) {i : Nat} (hi : i < n) : hc h g (0 + i) = some (.int .i64 (c i : Int)) := by
  obtain ⟨a, hb, _, _, hc⟩ := r
  rw [hc_of hb, Nat.zero_add]; exact hc i hi
theorem IRow.keep {h h' : Heap} {g n m : Nat} {c : Nat → Nat} (r : IRow h g n m c) (e : h'[g]? = h[g]?) : IRow h' g n m c := by obtain ⟨a, hb, r⟩ := r; exact ⟨a, by rw [e]; exact hb, r⟩
theorem IRow.blk {h : Heap} {g n m : Nat} {c : Nat → Nat} (r : IRow h g n m c) : Blk h g m 3 := by obtain ⟨a, hb, hs, _⟩ := r; exact ⟨a, hb, hs⟩
theorem IRow.lt {h : Heap} {g n m : Nat} {c : Nat → Nat} (r : IRow h g n m c) : g < h.size := by obtain ⟨a, hb, r⟩ := r; exact lt_of_get hb
theorem IRow.wr {h h' : Heap} {g n m i v : Nat} {c : Nat → Nat} (r : IRow h g n m c) (w : Wr h h' g (0 + i) (.int .i64 (v : Int))) : IRow h' g n m (fun j => if j = i then v else c j) := by
  have r0 := r
  obtain ⟨a, hb, hs, hnm, hcc⟩ := r
  obtain ⟨a', hb', hs'⟩ := w.blk _ _ _ r0.blk
  refine ⟨a', hb', hs', hnm, fun j hj => ?_⟩
  by_cases e : j = i
  · subst e
    have := w.at_
    rw [hc_of hb', Nat.zero_add] at this
    simpa using this
  · have := w.cell g j (fun x => e (by omega))
    rw [hc_of hb', hc_of hb] at this
    rw [this, hcc j hj]
    simp [e]
theorem IRow.congr {h : Heap} {g n m : Nat} {c c' : Nat → Nat} (r : IRow h g n m c) (he : ∀ i, i < n → c i = c' i) : IRow h g n m c' := by
  obtain ⟨a, hb, hs, hnm, hcc⟩ := r
  exact ⟨a, hb, hs, hnm, fun i hi => by rw [← he i hi]; exact hcc i hi⟩

/-- k exchanges have been made. -/
def revK (n k : Nat) (c : Nat → Nat) : Nat → Nat := fun j => if j < k ∨ n - k ≤ j then c (n - 1 - j) else c j

set_option maxHeartbeats 8000000 in
theorem reverse_ok (h : Heap) (g n m : Nat) (c : Nat → Nat) (r : IRow h g n m c) (hn : 1 ≤ n) (hm : n ≤ 1048576) :
    CallsH Yba.prog 16 #[.slice (some ⟨g, 0, none⟩) n m] h (fun u h' => u = .tuple #[] ∧ IRow h' g n m (fun j => c (n - 1 - j)) ∧ h'.size = h.size ∧ ∀ k, k ≠ g → h'[k]? = h[k]?) := by
  refine calls_of (N := 28) [(0, .slice (some ⟨g, 0, none⟩) n m)] Yba.func16 rfl rfl (by simp) (by repeat (first | exact ArgsAre.nil | refine ArgsAre.cons rfl ?_)) ?_
  intro w0 _
  refine c_seq ?_
  repeat (first | refine c_seq ?_ | refine c_region ?_ | refine c_block ?_ | refine c_skip ?_ | refine c_exit ?_ | refine c_ret ?_ | refine n_then ?_ | refine n_block ?_ | refine x_then ?_ | refine x_block_eq ?_ | refine x_block_ne rfl ?_ | refine r_then ?_ | refine r_block ?_ | refine s_nil ?_ | refine c_true rfl ?_ | refine c_false rfl ?_ | refine s_pur (p_move rfl) rfl ?_ | refine s_pur (p_assign rfl) rfl ?_ | refine s_pur (p_nil rfl) rfl ?_ | refine s_pur (p_pick_t rfl rfl) rfl ?_ | refine s_pur (p_pick_f rfl rfl) rfl ?_ | refine s_pur (p_len rfl Yba.underlying23) rfl ?_ | refine s_pur (p_idx1 rfl rfl rfl (by omega) Yba.underlying23 Yba.sizeOf3) rfl ?_ | refine s_pur (p_sub (c := ((n - 1 : Nat) : Int)) rfl rfl (by omega) (by omega) (by omega)) rfl ?_)
  refine c_loop (fun k : Nat => [(0, .slice (some ⟨g, 0, none⟩) n m), (2, .int .i64 (k : Int)), (3, .int .i64 ((n : Int) - 1 - k))])
    (fun k q => 2 * k ≤ n ∧ IRow q g n m (revK n k c) ∧ q.size = h.size ∧ ∀ b, b ≠ g → q[b]? = h[b]?) (fun k => n - k) 0 ⟨by omega, r.congr (fun i hi => by unfold revK; rw [if_neg (by omega)]), rfl, fun _ _ => rfl⟩ (by
      refine Sub.cons rfl (Sub.cons rfl (Sub.cons' rfl (int_eq (by omega)) Sub.nil))) ?_
  rintro k q ⟨hk, rq, sq, oq⟩
  by_cases hlt : 2 * k + 1 < n
  · have e1 : ((n : Int) - 1 - k) = ((n - 1 - k : Nat) : Int) := by omega
    rw [e1]
    have l1 := rq.cell (show n - 1 - k < n by omega)
    have l2 := rq.cell (show k < n by omega)
    refine c_mid [(0, .slice (some ⟨g, 0, none⟩) n m), (2, .int .i64 (k : Int)), (3, .int .i64 ((n - 1 - k : Nat) : Int))] (fun x => q = x) ?_ ?_
    · repeat (first | refine c_seq ?_ | refine c_region ?_ | refine c_block ?_ | refine c_skip ?_ | refine c_exit ?_ | refine c_ret ?_ | refine n_then ?_ | refine n_block ?_ | refine x_then ?_ | refine x_block_eq ?_ | refine x_block_ne rfl ?_ | refine r_then ?_ | refine r_block ?_ | refine s_nil ?_ | refine c_true rfl ?_ | refine c_false rfl ?_ | refine s_pur (p_move rfl) rfl ?_ | refine s_pur (p_assign rfl) rfl ?_ | refine s_pur (p_nil rfl) rfl ?_ | refine s_pur (p_pick_t rfl rfl) rfl ?_ | refine s_pur (p_pick_f rfl rfl) rfl ?_ | refine s_pur (p_lssT rfl rfl (by omega)) rfl ?_ | refine s_pur (p_lssF rfl rfl (by omega)) rfl ?_ | refine s_pur (p_leqT rfl rfl (by omega)) rfl ?_ | refine s_pur (p_leqF rfl rfl (by omega)) rfl ?_ | refine s_pur (p_gtrT rfl rfl (by omega)) rfl ?_ | refine s_pur (p_gtrF rfl rfl (by omega)) rfl ?_ | refine s_pur (p_geqT rfl rfl (by omega)) rfl ?_ | refine s_pur (p_geqF rfl rfl (by omega)) rfl ?_ | refine s_pur (p_eqlT rfl rfl (by omega)) rfl ?_ | refine s_pur (p_eqlF rfl rfl (by omega)) rfl ?_ | refine s_pur (p_neqT rfl rfl (by omega)) rfl ?_ | refine s_pur (p_neqF rfl rfl (by omega)) rfl ?_)
      exact m_done rfl (by repeat (first | exact Sub.nil | refine Sub.cons rfl ?_))
    rintro _ rfl
    refine c_mid [(0, .slice (some ⟨g, 0, none⟩) n m), (2, .int .i64 (k : Int)), (3, .int .i64 ((n - 1 - k : Nat) : Int))] (fun x => IRow x g n m (revK n (k + 1) c) ∧ x.size = h.size ∧ ∀ b, b ≠ g → x[b]? = h[b]?) ?_ ?_
    · refine c_block ?_
      refine c_held followsM rfl ?_
      refine h_any 0 rfl (by kernel_rfl) rfl (fun _ => p_move rfl) rfl ?_
      refine h_any 1 rfl (by kernel_rfl) rfl (fun _ => p_move rfl) rfl ?_
      refine h_any 2 rfl (by kernel_rfl) rfl (fun _ => p_move rfl) rfl ?_
      refine h_any 3 rfl (by kernel_rfl) rfl (fun _ => p_move rfl) rfl ?_
      refine h_any 4 rfl (by kernel_rfl) rfl (fun _ => p_move rfl) rfl ?_
      refine h_any 5 rfl (by kernel_rfl) rfl (fun _ => p_move rfl) rfl ?_
      refine h_any 6 rfl (by kernel_rfl) rfl (fun _ => p_idx1 (j := n - 1 - k) rfl rfl rfl (by omega) Yba.underlying23 Yba.sizeOf3) rfl ?_
      refine h_any 8 rfl (by kernel_rfl) rfl (fun _ => p_move rfl) rfl ?_
      refine h_any 9 rfl (by kernel_rfl) rfl (fun _ => p_move rfl) rfl ?_
      refine h_any 10 rfl (by kernel_rfl) rfl (fun _ => p_idx1 (j := k) rfl rfl rfl (by omega) Yba.underlying23 Yba.sizeOf3) rfl ?_
      refine h_take 7 rfl (by kernel_rfl) rfl (p_load rfl Yba.isAgg3 l1) rfl ?_
      refine h_take 11 rfl (by kernel_rfl) rfl (p_load rfl Yba.isAgg3 l2) rfl ?_
      refine h_any 12 rfl (by kernel_rfl) rfl (fun _ => p_idx1 (j := k) rfl rfl rfl (by omega) Yba.underlying23 Yba.sizeOf3) rfl ?_
      refine h_eff0 13 rfl (by kernel_rfl) rfl (e_wr rfl rfl rfl Yba.sizeOf3 rq.blk (by obtain ⟨_, _, _, h4, _⟩ := rq; omega)) ?_
      intro _ x wx
      have rx := rq.wr wx
      refine h_any 14 rfl (by kernel_rfl) rfl (fun _ => p_idx1 (j := n - 1 - k) rfl rfl rfl (by omega) Yba.underlying23 Yba.sizeOf3) rfl ?_
      refine h_eff0 15 rfl (by kernel_rfl) rfl (e_wr rfl rfl rfl Yba.sizeOf3 rx.blk (by obtain ⟨_, _, _, h4, _⟩ := rq; omega)) ?_
      intro _ y wy
      have ry := rx.wr wy
      refine h_done (by kernel_rfl) ?_
      repeat (first | refine c_seq ?_ | refine c_region ?_ | refine c_block ?_ | refine c_skip ?_ | refine c_exit ?_ | refine c_ret ?_ | refine n_then ?_ | refine n_block ?_ | refine x_then ?_ | refine x_block_eq ?_ | refine x_block_ne rfl ?_ | refine r_then ?_ | refine r_block ?_ | refine s_nil ?_ | refine c_true rfl ?_ | refine c_false rfl ?_ | refine s_pur (p_move rfl) rfl ?_ | refine s_pur (p_assign rfl) rfl ?_ | refine s_pur (p_nil rfl) rfl ?_ | refine s_pur (p_pick_t rfl rfl) rfl ?_ | refine s_pur (p_pick_f rfl rfl) rfl ?_)
      refine m_done ⟨ry.congr (fun j hj => ?_), by rw [wy.size, wx.size, sq], fun b hb => by rw [wy.other b hb, wx.other b hb, oq b hb]⟩ (by repeat (first | exact Sub.nil | refine Sub.cons rfl ?_))
      unfold revK
      by_cases j1 : j = n - 1 - k
      · rw [if_pos j1, if_neg (by omega), if_pos (by omega)]
        congr 1; omega
      · rw [if_neg j1]
        by_cases j2 : j = k
        · rw [if_pos j2, if_neg (by omega), if_pos (by omega)]
          congr 1; omega
        · rw [if_neg j2]
          by_cases j3 : j < k ∨ n - k ≤ j
          · rw [if_pos j3, if_pos (by omega)]
          · rw [if_neg j3, if_neg (by omega)]
    rintro x ⟨rx, sx, ox⟩
    repeat (first | refine c_seq ?_ | refine c_region ?_ | refine c_block ?_ | refine c_skip ?_ | refine c_exit ?_ | refine c_ret ?_ | refine n_then ?_ | refine n_block ?_ | refine x_then ?_ | refine x_block_eq ?_ | refine x_block_ne rfl ?_ | refine r_then ?_ | refine r_block ?_ | refine s_nil ?_ | refine c_true rfl ?_ | refine c_false rfl ?_ | refine s_pur (p_move rfl) rfl ?_ | refine s_pur (p_assign rfl) rfl ?_ | refine s_pur (p_nil rfl) rfl ?_ | refine s_pur (p_pick_t rfl rfl) rfl ?_ | refine s_pur (p_pick_f rfl rfl) rfl ?_ | refine s_pur (p_sub (c := ((n : Int) - 1 - (k + 1 : Nat))) rfl rfl (by omega) (by omega) (by omega)) rfl ?_ | refine s_pur (p_add rfl rfl rfl (by omega) (by omega)) rfl ?_)
    exact c_next (k + 1) ⟨by omega, rx, sx, ox⟩ (by repeat (first | exact Sub.nil | refine Sub.cons rfl ?_)) (by omega)
  · repeat (first | refine c_seq ?_ | refine c_region ?_ | refine c_block ?_ | refine c_skip ?_ | refine c_exit ?_ | refine c_ret ?_ | refine n_then ?_ | refine n_block ?_ | refine x_then ?_ | refine x_block_eq ?_ | refine x_block_ne rfl ?_ | refine r_then ?_ | refine r_block ?_ | refine s_nil ?_ | refine c_true rfl ?_ | refine c_false rfl ?_ | refine s_pur (p_move rfl) rfl ?_ | refine s_pur (p_assign rfl) rfl ?_ | refine s_pur (p_nil rfl) rfl ?_ | refine s_pur (p_pick_t rfl rfl) rfl ?_ | refine s_pur (p_pick_f rfl rfl) rfl ?_ | refine s_pur (p_lssT rfl rfl (by omega)) rfl ?_ | refine s_pur (p_lssF rfl rfl (by omega)) rfl ?_ | refine s_pur (p_leqT rfl rfl (by omega)) rfl ?_ | refine s_pur (p_leqF rfl rfl (by omega)) rfl ?_ | refine s_pur (p_gtrT rfl rfl (by omega)) rfl ?_ | refine s_pur (p_gtrF rfl rfl (by omega)) rfl ?_ | refine s_pur (p_geqT rfl rfl (by omega)) rfl ?_ | refine s_pur (p_geqF rfl rfl (by omega)) rfl ?_ | refine s_pur (p_eqlT rfl rfl (by omega)) rfl ?_ | refine s_pur (p_eqlF rfl rfl (by omega)) rfl ?_ | refine s_pur (p_neqT rfl rfl (by omega)) rfl ?_ | refine s_pur (p_neqF rfl rfl (by omega)) rfl ?_)
    refine end0 Yba.results16 ⟨rfl, rq.congr (fun j hj => ?_), sq, oq⟩
    unfold revK
    by_cases j3 : j < k ∨ n - k ≤ j
    · rw [if_pos j3]
    · rw [if_neg j3]; congr 1; omega
end Go.Proofs.Ybulkdiqq
