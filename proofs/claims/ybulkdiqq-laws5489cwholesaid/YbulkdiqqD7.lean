/-
  D7: run.note, beacon.send.
-/
import Derived.Test.YbulkdiqqD6
namespace Go.Proofs.Ybulkdiqq
set_option linter.unusedSimpArgs false
set_option linter.unusedVariables false
set_option linter.unnecessarySimpa false
open Go Go.RowKit V
set_option maxRecDepth 100000

/-- A run. -/
structure RunAt (h : Heap) (rb pb nb wb : Nat) (sq lead now : Int) (g n m : Nat) : Prop where
  blk : Blk h rb 25 104
  c0 : hc h rb 0 = some (.map (some pb))
  c4 : hc h rb 4 = some (.pointer (some ⟨nb, 0, none⟩))
  c5 : hc h rb 5 = some (.slice (some ⟨g, 0, none⟩) n m)
  c6 : hc h rb 6 = some (.map (some wb))
  c7 : hc h rb 7 = some (.int .u64 sq)
  c14 : hc h rb 14 = some (.int .i64 lead)
  net : Blk h nb 12 91
  now : hc h nb 8 = some (.int .i64 now)
  msg : hc h nb 9 = some (.int .i64 0)
theorem RunAt.kp {h h' : Heap} {rb pb nb wb : Nat} {sq lead now : Int} {g n m : Nat} (r : RunAt h rb pb nb wb sq lead now g n m) (k : Kp h h') : RunAt h' rb pb nb wb sq lead now g n m :=
  ⟨r.blk.keep (k.same _ r.blk.lt), k.cell r.c0, k.cell r.c4, k.cell r.c5, k.cell r.c6, k.cell r.c7, k.cell r.c14, r.net.keep (k.same _ r.net.lt), k.cell r.now, k.cell r.msg⟩
/-- Blocks other than its own stand. -/
theorem RunAt.keep {h h' : Heap} {rb pb nb wb : Nat} {sq lead now : Int} {g n m : Nat} (r : RunAt h rb pb nb wb sq lead now g n m) (e1 : h'[rb]? = h[rb]?) (e2 : h'[nb]? = h[nb]?) : RunAt h' rb pb nb wb sq lead now g n m :=
  ⟨r.blk.keep e1, by rw [hc_congr e1]; exact r.c0, by rw [hc_congr e1]; exact r.c4, by rw [hc_congr e1]; exact r.c5, by rw [hc_congr e1]; exact r.c6, by rw [hc_congr e1]; exact r.c7, by rw [hc_congr e1]; exact r.c14, r.net.keep e2, by rw [hc_congr e2]; exact r.now, by rw [hc_congr e2]; exact r.msg⟩

theorem p_build80 {l : Env} {h : Heap} {ty : TypeId} {x y z : Operand} {a s t : Int} (h0 : ev l x = some (.int .i64 a)) (h1 : ev l y = some (.int .u64 s)) (h2 : ev l z = some (.int .u64 t)) :
    Pur Yba.prog (.build 80 #[(0, x), (1, y), (3, z)]) ty l h (.agg (dl (a, s, t)).toArray) := by
  refine ⟨fun ρ w d p af g hρ hw => ?_⟩
  simp only [execOp, Instr.build, List.map_toArray, List.map_cons, List.map_nil, hρ _ _ h0, hρ _ _ h1, hρ _ _ h2]
  simp [Yba.zeroValue80, run_underlying Yba.underlying80, Array.mapM_eq_mapM_toList, List.mapM_cons, Yba.sizeOf50, Yba.sizeOf2, Yba.sizeOf71, Yba.sizeOf78, Yba.sizeOf64, Instr.fill, Value.cells, dl]

/-- What note leaves. -/
def NoteRes (h : Heap) (B rb pb nb wb : Nat) (sq lead now per id : Int) (g n : Nat) (f : Nat → Dlv) (Lw : ML) (h' : Heap) : Prop :=
  h.size ≤ h'.size ∧ (∀ k, k < h.size → k ≠ rb → k ≠ wb → k ≠ g → h'[k]? = h[k]?) ∧
  ((per ≤ 0 ∧ RunAt h' rb pb nb wb sq lead now g n n ∧ DRow h' g n n f ∧ MapAt keyU h' wb Lw) ∨
   (0 < per ∧ ∃ g' m, RunAt h' rb pb nb wb (IntKind.u64.wrap (sq + 1)) lead now g' (n + 1) m ∧ B ≤ g' ∧ n + 1 ≤ m ∧ DRow h' g' (n + 1) m (sift (upd f n (IntKind.i64.wrap (now + per), IntKind.u64.wrap (sq + 1), id)) (IntKind.i64.wrap (now + per), IntKind.u64.wrap (sq + 1), id) n) ∧ MapAt keyU h' wb (putM Lw id (.int .u64 (IntKind.u64.wrap (sq + 1))))))

theorem Blk.map_ne {h : Heap} {b n mb : Nat} {e : TypeId} {L : ML} (hb : Blk h b n e) (hm : MapAt keyU h mb L) : mb ≠ b := by
  rintro rfl
  obtain ⟨c, h1, _⟩ := hb
  obtain ⟨es, cl, h2, _⟩ := hm
  rw [h1] at h2; simp at h2
theorem DRow.blk {h : Heap} {g n m : Nat} {f : Nat → Dlv} (r : DRow h g n m f) : Blk h g (m * 21) 80 := by obtain ⟨c, h1, h2, _⟩ := r; exact ⟨c, h1, h2⟩

set_option maxHeartbeats 8000000 in
theorem note_ok (h : Heap) (B rb pb nb wb : Nat) (sq lead now per id : Int) (g n : Nat) (f : Nat → Dlv) (Lw : ML) (r : RunAt h rb pb nb wb sq lead now g n n) (dr : DRow h g n n f) (mw : MapAt keyU h wb Lw) (hn : n ≤ 65536) (hB : B ≤ g) :
    CallsH Yba.prog 37 #[.pointer (some ⟨rb, 0, none⟩), .int .u64 id, .bool false, .int .i64 per] h (fun u h' => u = .tuple #[] ∧ NoteRes h B rb pb nb wb sq lead now per id g n f Lw h') := by
  refine calls_of (N := 57) [(0, .pointer (some ⟨rb, 0, none⟩)), (1, .int .u64 id), (2, .bool false), (3, .int .i64 per)] Yba.func37 rfl rfl (by simp) (by repeat (first | exact ArgsAre.nil | refine ArgsAre.cons rfl ?_)) ?_
  intro w0 _
  refine c_mid [(0, .pointer (some ⟨rb, 0, none⟩)), (1, .int .u64 id), (3, .int .i64 per)] (fun q => h = q) ?_ ?_
  · repeat (first | refine c_seq ?_ | refine c_region ?_ | refine c_block ?_ | refine c_skip ?_ | refine c_exit ?_ | refine c_ret ?_ | refine n_then ?_ | refine n_block ?_ | refine x_then ?_ | refine x_block_eq ?_ | refine x_block_ne rfl ?_ | refine r_then ?_ | refine r_block ?_ | refine s_nil ?_ | refine c_true rfl ?_ | refine c_false rfl ?_ | refine s_pur (p_move rfl) rfl ?_ | refine s_pur (p_assign rfl) rfl ?_ | refine s_pur (p_nil rfl) rfl ?_ | refine s_pur (p_pick_t rfl rfl) rfl ?_ | refine s_pur (p_pick_f rfl rfl) rfl ?_)
    exact m_done rfl (by repeat (first | exact Sub.nil | refine Sub.cons rfl ?_))
  rintro _ rfl
  by_cases hper : 0 < per
  · refine c_seq ?_
    repeat (first | refine c_region ?_ | refine c_block ?_ | refine c_skip ?_ | refine c_exit ?_ | refine c_ret ?_ | refine n_then ?_ | refine n_block ?_ | refine x_then ?_ | refine x_block_eq ?_ | refine x_block_ne rfl ?_ | refine r_then ?_ | refine r_block ?_ | refine s_nil ?_ | refine c_true rfl ?_ | refine c_false rfl ?_ | refine s_pur (p_move rfl) rfl ?_ | refine s_pur (p_assign rfl) rfl ?_ | refine s_pur (p_nil rfl) rfl ?_ | refine s_pur (p_pick_t rfl rfl) rfl ?_ | refine s_pur (p_pick_f rfl rfl) rfl ?_ | refine s_pur (p_lssT rfl rfl (by omega)) rfl ?_ | refine s_pur (p_lssF rfl rfl (by omega)) rfl ?_ | refine s_pur (p_leqT rfl rfl (by omega)) rfl ?_ | refine s_pur (p_leqF rfl rfl (by omega)) rfl ?_ | refine s_pur (p_gtrT rfl rfl (by omega)) rfl ?_ | refine s_pur (p_gtrF rfl rfl (by omega)) rfl ?_ | refine s_pur (p_geqT rfl rfl (by omega)) rfl ?_ | refine s_pur (p_geqF rfl rfl (by omega)) rfl ?_ | refine s_pur (p_eqlT rfl rfl (by omega)) rfl ?_ | refine s_pur (p_eqlF rfl rfl (by omega)) rfl ?_ | refine s_pur (p_neqT rfl rfl (by omega)) rfl ?_ | refine s_pur (p_neqF rfl rfl (by omega)) rfl ?_)
    refine cut [(0, .pointer (some ⟨rb, 0, none⟩)), (1, .int .u64 id), (3, .int .i64 per)] (by repeat (first | exact Sub.nil | refine Sub.cons rfl ?_)) ?_
    have l7 : hc h rb (0 + 7) = some (.int .u64 sq) := r.c7
    refine c_mid [(0, .pointer (some ⟨rb, 0, none⟩)), (1, .int .u64 id), (3, .int .i64 per)] (fun q => Wr h q rb 7 (.int .u64 (IntKind.u64.wrap (sq + 1)))) ?_ ?_
    · repeat (first | refine c_seq ?_ | refine c_region ?_ | refine c_block ?_ | refine c_skip ?_ | refine c_exit ?_ | refine c_ret ?_ | refine n_then ?_ | refine n_block ?_ | refine x_then ?_ | refine x_block_eq ?_ | refine x_block_ne rfl ?_ | refine r_then ?_ | refine r_block ?_ | refine s_nil ?_ | refine c_true rfl ?_ | refine c_false rfl ?_ | refine s_pur (p_move rfl) rfl ?_ | refine s_pur (p_assign rfl) rfl ?_ | refine s_pur (p_nil rfl) rfl ?_ | refine s_pur (p_pick_t rfl rfl) rfl ?_ | refine s_pur (p_pick_f rfl rfl) rfl ?_ | refine s_pur (p_fld (off := 7) rfl Yba.underlying104 rfl Yba.sizeOf50 rfl) rfl ?_ | refine s_pur (p_load rfl Yba.isAgg50 (by assumption)) rfl ?_ | refine s_pur (p_addW rfl rfl) rfl ?_)
      refine s_eff0 (e_wr rfl rfl rfl Yba.sizeOf50 r.blk (by omega)) ?_
      intro _ q wq
      repeat (first | refine c_seq ?_ | refine c_region ?_ | refine c_block ?_ | refine c_skip ?_ | refine c_exit ?_ | refine c_ret ?_ | refine n_then ?_ | refine n_block ?_ | refine x_then ?_ | refine x_block_eq ?_ | refine x_block_ne rfl ?_ | refine r_then ?_ | refine r_block ?_ | refine s_nil ?_ | refine c_true rfl ?_ | refine c_false rfl ?_ | refine s_pur (p_move rfl) rfl ?_ | refine s_pur (p_assign rfl) rfl ?_ | refine s_pur (p_nil rfl) rfl ?_ | refine s_pur (p_pick_t rfl rfl) rfl ?_ | refine s_pur (p_pick_f rfl rfl) rfl ?_)
      exact m_done wq (by repeat (first | exact Sub.nil | refine Sub.cons rfl ?_))
    intro h1 w1
    generalize hs' : IntKind.u64.wrap (sq + 1) = sq' at *
    have hgr : g ≠ rb := dr.blk.ne r.blk (by decide)
    have hnr : nb ≠ rb := r.net.ne r.blk (by decide)
    have hwr : wb ≠ rb := r.blk.map_ne mw
    have hwg : wb ≠ g := dr.blk.map_ne mw
    have hwn : wb ≠ nb := r.net.map_ne mw
    have r1 : RunAt h1 rb pb nb wb sq' lead now g n n := ⟨w1.blk _ _ _ r.blk, w1.cell' (by simp) r.c0, w1.cell' (by simp) r.c4, w1.cell' (by simp) r.c5, w1.cell' (by simp) r.c6, w1.at_, w1.cell' (by simp) r.c14, w1.blk _ _ _ r.net, w1.cell' (fun e => hnr e.1) r.now, w1.cell' (fun e => hnr e.1) r.msg⟩
    have m1 : MapAt keyU h1 wb Lw := mw.keep (w1.other wb hwr)
    have d1 : DRow h1 g n n f := dr.keep (w1.other g hgr)
    have a6 : hc h1 rb (0 + 6) = some (.map (some wb)) := r1.c6
    have a7 : hc h1 rb (0 + 7) = some (.int .u64 sq') := r1.c7
    refine c_mid [(0, .pointer (some ⟨rb, 0, none⟩)), (1, .int .u64 id), (3, .int .i64 per)] (fun q => UpdM keyU h1 q wb (putM Lw id (.int .u64 sq'))) ?_ ?_
    · refine c_held followsM rfl ?_
      refine h_any 0 rfl (by kernel_rfl) rfl (fun _ => p_move rfl) rfl ?_
      refine h_any 1 rfl (by kernel_rfl) rfl (fun _ => p_nil rfl) rfl ?_
      refine h_any 2 rfl (by kernel_rfl) rfl (fun _ => p_fld (off := 6) rfl Yba.underlying104 rfl Yba.sizeOf56 rfl) rfl ?_
      refine h_any 4 rfl (by kernel_rfl) rfl (fun _ => p_move rfl) rfl ?_
      refine h_any 5 rfl (by kernel_rfl) rfl (fun _ => p_move rfl) rfl ?_
      refine h_any 6 rfl (by kernel_rfl) rfl (fun _ => p_nil rfl) rfl ?_
      refine h_any 7 rfl (by kernel_rfl) rfl (fun _ => p_fld (off := 7) rfl Yba.underlying104 rfl Yba.sizeOf50 rfl) rfl ?_
      refine h_take 3 rfl (by kernel_rfl) rfl (p_load rfl Yba.isAgg56 a6) rfl ?_
      refine h_take 8 rfl (by kernel_rfl) rfl (p_load rfl Yba.isAgg50 a7) rfl ?_
      refine h_eff0 9 rfl (by kernel_rfl) rfl (e_mapUpd keyEnc50 (key := id) rfl rfl rfl Yba.underlying56 m1) ?_
      intro _ q uq
      refine h_done (by kernel_rfl) ?_
      repeat (first | refine c_seq ?_ | refine c_region ?_ | refine c_block ?_ | refine c_skip ?_ | refine c_exit ?_ | refine c_ret ?_ | refine n_then ?_ | refine n_block ?_ | refine x_then ?_ | refine x_block_eq ?_ | refine x_block_ne rfl ?_ | refine r_then ?_ | refine r_block ?_ | refine s_nil ?_ | refine c_true rfl ?_ | refine c_false rfl ?_ | refine s_pur (p_move rfl) rfl ?_ | refine s_pur (p_assign rfl) rfl ?_ | refine s_pur (p_nil rfl) rfl ?_ | refine s_pur (p_pick_t rfl rfl) rfl ?_ | refine s_pur (p_pick_f rfl rfl) rfl ?_)
      exact m_done uq (by repeat (first | exact Sub.nil | refine Sub.cons rfl ?_))
    intro h2 u2
    have r2 : RunAt h2 rb pb nb wb sq' lead now g n n := r1.keep (u2.other rb hwr.symm) (u2.other nb hwn.symm)
    have d2 : DRow h2 g n n f := d1.keep (u2.other g hwg.symm)
    have a4 : hc h2 rb (0 + 4) = some (.pointer (some ⟨nb, 0, none⟩)) := r2.c4
    have b7 : hc h2 rb (0 + 7) = some (.int .u64 sq') := r2.c7
    have a8 : hc h2 nb (0 + 8) = some (.int .i64 now) := r2.now
    refine c_held followsM rfl ?_
    refine h_any 0 rfl (by kernel_rfl) rfl (fun _ => p_move rfl) rfl ?_
    refine h_any 1 rfl (by kernel_rfl) rfl (fun _ => p_nil rfl) rfl ?_
    refine h_any 2 rfl (by kernel_rfl) rfl (fun _ => p_fld (off := 5) rfl Yba.underlying104 rfl Yba.sizeOf68 rfl) rfl ?_
    refine h_any 3 rfl (by kernel_rfl) rfl (fun _ => p_move rfl) rfl ?_
    refine h_any 4 rfl (by kernel_rfl) rfl (fun _ => p_nil rfl) rfl ?_
    refine h_any 5 rfl (by kernel_rfl) rfl (fun _ => p_fld (off := 4) rfl Yba.underlying104 rfl Yba.sizeOf86 rfl) rfl ?_
    refine h_any 10 rfl (by kernel_rfl) rfl (fun _ => p_move rfl) rfl ?_
    refine h_any 12 rfl (by kernel_rfl) rfl (fun _ => p_move rfl) rfl ?_
    refine h_any 13 rfl (by kernel_rfl) rfl (fun _ => p_nil rfl) rfl ?_
    refine h_any 14 rfl (by kernel_rfl) rfl (fun _ => p_fld (off := 7) rfl Yba.underlying104 rfl Yba.sizeOf50 rfl) rfl ?_
    refine h_any 16 rfl (by kernel_rfl) rfl (fun _ => p_move rfl) rfl ?_
    refine h_take 6 rfl (by kernel_rfl) rfl (p_load rfl Yba.isAgg86 a4) rfl ?_
    refine h_any 7 rfl (by kernel_rfl) rfl (fun _ => p_nil rfl) rfl ?_
    refine h_any 8 rfl (by kernel_rfl) rfl (fun _ => p_fld (off := 8) rfl Yba.underlying91 rfl Yba.sizeOf2 rfl) rfl ?_
    refine h_take 9 rfl (by kernel_rfl) rfl (p_load rfl Yba.isAgg2 a8) rfl ?_
    refine h_any 11 rfl (by kernel_rfl) rfl (fun _ => p_addW rfl rfl) rfl ?_
    refine h_take 15 rfl (by kernel_rfl) rfl (p_load rfl Yba.isAgg50 b7) rfl ?_
    refine h_any 17 rfl (by kernel_rfl) rfl (fun _ => p_build80 rfl rfl rfl) rfl ?_
    refine h_call 18 rfl (by kernel_rfl) rfl Yba.call46 rfl rfl (push_ok h2 B rb g n f (IntKind.i64.wrap (now + per), sq', id) r2.blk r2.c5 d2 hn hB) ?_
    rintro _ h3 ⟨rfl, sz3, bk3, cc3, oo3, g', m, c53, hBg, hnm, d3⟩
    refine h_done (by kernel_rfl) ?_
    repeat (first | refine c_seq ?_ | refine c_region ?_ | refine c_block ?_ | refine c_skip ?_ | refine c_exit ?_ | refine c_ret ?_ | refine n_then ?_ | refine n_block ?_ | refine x_then ?_ | refine x_block_eq ?_ | refine x_block_ne rfl ?_ | refine r_then ?_ | refine r_block ?_ | refine s_nil ?_ | refine c_true rfl ?_ | refine c_false rfl ?_ | refine s_pur (p_move rfl) rfl ?_ | refine s_pur (p_assign rfl) rfl ?_ | refine s_pur (p_nil rfl) rfl ?_ | refine s_pur (p_pick_t rfl rfl) rfl ?_ | refine s_pur (p_pick_f rfl rfl) rfl ?_)
    have n3 : h3[nb]? = h2[nb]? := oo3 nb r2.net.lt hnr (r2.net.ne d2.blk (by decide))
    refine end0 Yba.results37 ⟨rfl, by have := u2.size; have := w1.size; omega, fun k hk k1 k2 k3 => ?_, .inr ⟨hper, g', m, ?_, hBg, hnm, ?_, ?_⟩⟩
    · rw [oo3 k (by have := u2.size; have := w1.size; omega) k1 k3, u2.other k k2, w1.other k k1]
    · rw [hs']
      exact ⟨bk3, by rw [cc3 0 (by omega)]; exact r2.c0, by rw [cc3 4 (by omega)]; exact r2.c4, c53, by rw [cc3 6 (by omega)]; exact r2.c6, by rw [cc3 7 (by omega)]; exact r2.c7, by rw [cc3 14 (by omega)]; exact r2.c14, r2.net.keep n3, by rw [hc_congr n3]; exact r2.now, by rw [hc_congr n3]; exact r2.msg⟩
    · rw [hs']; exact d3
    · rw [hs']; exact u2.at_.keep (oo3 wb u2.at_.lt hwr hwg)
  · repeat (first | refine c_seq ?_ | refine c_region ?_ | refine c_block ?_ | refine c_skip ?_ | refine c_exit ?_ | refine c_ret ?_ | refine n_then ?_ | refine n_block ?_ | refine x_then ?_ | refine x_block_eq ?_ | refine x_block_ne rfl ?_ | refine r_then ?_ | refine r_block ?_ | refine s_nil ?_ | refine c_true rfl ?_ | refine c_false rfl ?_ | refine s_pur (p_move rfl) rfl ?_ | refine s_pur (p_assign rfl) rfl ?_ | refine s_pur (p_nil rfl) rfl ?_ | refine s_pur (p_pick_t rfl rfl) rfl ?_ | refine s_pur (p_pick_f rfl rfl) rfl ?_ | refine s_pur (p_lssT rfl rfl (by omega)) rfl ?_ | refine s_pur (p_lssF rfl rfl (by omega)) rfl ?_ | refine s_pur (p_leqT rfl rfl (by omega)) rfl ?_ | refine s_pur (p_leqF rfl rfl (by omega)) rfl ?_ | refine s_pur (p_gtrT rfl rfl (by omega)) rfl ?_ | refine s_pur (p_gtrF rfl rfl (by omega)) rfl ?_ | refine s_pur (p_geqT rfl rfl (by omega)) rfl ?_ | refine s_pur (p_geqF rfl rfl (by omega)) rfl ?_ | refine s_pur (p_eqlT rfl rfl (by omega)) rfl ?_ | refine s_pur (p_eqlF rfl rfl (by omega)) rfl ?_ | refine s_pur (p_neqT rfl rfl (by omega)) rfl ?_ | refine s_pur (p_neqF rfl rfl (by omega)) rfl ?_)
    exact end0 Yba.results37 ⟨rfl, Nat.le_refl _, fun _ _ _ _ _ => rfl, .inl ⟨by omega, r, dr, mw⟩⟩

set_option maxHeartbeats 8000000 in
theorem send_ok (h : Heap) (B bb rb pb nb wb : Nat) (sq lead now p per id : Int) (g n : Nat) (f : Nat → Dlv) (Lw : ML) (c0 : hc h bb 0 = some (.pointer (some ⟨rb, 0, none⟩))) (r : RunAt h rb pb nb wb sq lead now g n n) (dr : DRow h g n n f) (mw : MapAt keyU h wb Lw) (hn : n ≤ 65536) (hB : B ≤ g) :
    CallsH Yba.prog 23 #[.pointer (some ⟨bb, 0, none⟩), .int .u64 id, .agg (bres p id per).toArray] h (fun u h' => u = .tuple #[] ∧ NoteRes h B rb pb nb wb sq lead now per id g n f Lw h') := by
  refine calls_of (N := 38) [(0, .pointer (some ⟨bb, 0, none⟩)), (1, .int .u64 id), (2, .agg (bres p id per).toArray)] Yba.func23 rfl rfl (by simp) (by repeat (first | exact ArgsAre.nil | refine ArgsAre.cons rfl ?_)) ?_
  intro w0 _
  refine c_mid [(0, .pointer (some ⟨bb, 0, none⟩)), (1, .int .u64 id), (5, .pointer (some ⟨h.size, 0, none⟩))] (fun q => New h q (.cells (bres p id per).toArray 118)) ?_ ?_
  · repeat (first | refine c_seq ?_ | refine c_region ?_ | refine c_block ?_ | refine c_skip ?_ | refine c_exit ?_ | refine c_ret ?_ | refine n_then ?_ | refine n_block ?_ | refine x_then ?_ | refine x_block_eq ?_ | refine x_block_ne rfl ?_ | refine r_then ?_ | refine r_block ?_ | refine s_nil ?_ | refine c_true rfl ?_ | refine c_false rfl ?_ | refine s_pur (p_move rfl) rfl ?_ | refine s_pur (p_assign rfl) rfl ?_ | refine s_pur (p_nil rfl) rfl ?_ | refine s_pur (p_pick_t rfl rfl) rfl ?_ | refine s_pur (p_pick_f rfl rfl) rfl ?_)
    refine s_eff (e_box rfl) rfl ?_
    rintro _ q ⟨rfl, nq⟩
    repeat (first | refine c_seq ?_ | refine c_region ?_ | refine c_block ?_ | refine c_skip ?_ | refine c_exit ?_ | refine c_ret ?_ | refine n_then ?_ | refine n_block ?_ | refine x_then ?_ | refine x_block_eq ?_ | refine x_block_ne rfl ?_ | refine r_then ?_ | refine r_block ?_ | refine s_nil ?_ | refine c_true rfl ?_ | refine c_false rfl ?_ | refine s_pur (p_move rfl) rfl ?_ | refine s_pur (p_assign rfl) rfl ?_ | refine s_pur (p_nil rfl) rfl ?_ | refine s_pur (p_pick_t rfl rfl) rfl ?_ | refine s_pur (p_pick_f rfl rfl) rfl ?_)
    exact m_done nq (by repeat (first | exact Sub.nil | refine Sub.cons rfl ?_))
  intro h1 n1
  have k1 := Kp.of n1
  have s1 := n1.size
  have b1 : h1[h.size]? = some (.cells (bres p id per).toArray 118 (0, 0)) := n1.at_
  have a0 : hc h1 bb (0 + 0) = some (.pointer (some ⟨rb, 0, none⟩)) := k1.cell c0
  have a4 : hc h1 h.size (0 + 4) = some (.bool false) := by rw [hc_of b1]; rfl
  have a5 : hc h1 h.size (0 + 5) = some (.int .i64 per) := by rw [hc_of b1]; rfl
  refine c_mid [(5, .pointer (some ⟨h.size, 0, none⟩))] (fun q => NoteRes h B rb pb nb wb sq lead now per id g n f Lw q ∧ q[h.size]? = some (.cells (bres p id per).toArray 118 (0, 0))) ?_ ?_
  · refine c_held followsM rfl ?_
    refine h_any 0 rfl (by kernel_rfl) rfl (fun _ => p_move rfl) rfl ?_
    refine h_any 1 rfl (by kernel_rfl) rfl (fun _ => p_nil rfl) rfl ?_
    refine h_any 2 rfl (by kernel_rfl) rfl (fun _ => p_fld (off := 0) rfl Yba.underlying107 rfl Yba.sizeOf85 rfl) rfl ?_
    refine h_any 4 rfl (by kernel_rfl) rfl (fun _ => p_move rfl) rfl ?_
    refine h_any 5 rfl (by kernel_rfl) rfl (fun _ => p_fld (off := 4) rfl Yba.underlying118 rfl Yba.sizeOf4 rfl) rfl ?_
    refine h_any 7 rfl (by kernel_rfl) rfl (fun _ => p_fld (off := 5) rfl Yba.underlying118 rfl Yba.sizeOf2 rfl) rfl ?_
    refine h_take 3 rfl (by kernel_rfl) rfl (p_load rfl Yba.isAgg85 a0) rfl ?_
    refine h_take 6 rfl (by kernel_rfl) rfl (p_load rfl Yba.isAgg4 a4) rfl ?_
    refine h_take 8 rfl (by kernel_rfl) rfl (p_load rfl Yba.isAgg2 a5) rfl ?_
    refine h_call 9 rfl (by kernel_rfl) rfl Yba.call37 rfl rfl (note_ok h1 B rb pb nb wb sq lead now per id g n f Lw (r.kp k1) (dr.keep (k1.same g dr.lt)) (mw.keep (k1.same wb mw.lt)) hn hB) ?_
    rintro _ q ⟨rfl, sz, ot, rest⟩
    refine h_done (by kernel_rfl) ?_
    repeat (first | refine c_seq ?_ | refine c_region ?_ | refine c_block ?_ | refine c_skip ?_ | refine c_exit ?_ | refine c_ret ?_ | refine n_then ?_ | refine n_block ?_ | refine x_then ?_ | refine x_block_eq ?_ | refine x_block_ne rfl ?_ | refine r_then ?_ | refine r_block ?_ | refine s_nil ?_ | refine c_true rfl ?_ | refine c_false rfl ?_ | refine s_pur (p_move rfl) rfl ?_ | refine s_pur (p_assign rfl) rfl ?_ | refine s_pur (p_nil rfl) rfl ?_ | refine s_pur (p_pick_t rfl rfl) rfl ?_ | refine s_pur (p_pick_f rfl rfl) rfl ?_)
    refine m_done ⟨⟨by omega, fun k hk e1 e2 e3 => by rw [ot k (by omega) e1 e2 e3, k1.same k hk], rest⟩, ?_⟩ (by repeat (first | exact Sub.nil | refine Sub.cons rfl ?_))
    rw [ot h.size (by omega) (by have := r.blk.lt; omega) (by have := mw.lt; omega) (by have := dr.lt; omega)]
    exact b1
  rintro q ⟨nr, bq⟩
  have a3 : hc q h.size (0 + 3) = some (.slice none 0 0) := by rw [hc_of bq]; rfl
  refine c_seq ?_
  repeat (first | refine c_seq ?_ | refine c_region ?_ | refine c_block ?_ | refine c_skip ?_ | refine c_exit ?_ | refine c_ret ?_ | refine n_then ?_ | refine n_block ?_ | refine x_then ?_ | refine x_block_eq ?_ | refine x_block_ne rfl ?_ | refine r_then ?_ | refine r_block ?_ | refine s_nil ?_ | refine c_true rfl ?_ | refine c_false rfl ?_ | refine s_pur (p_move rfl) rfl ?_ | refine s_pur (p_assign rfl) rfl ?_ | refine s_pur (p_nil rfl) rfl ?_ | refine s_pur (p_pick_t rfl rfl) rfl ?_ | refine s_pur (p_pick_f rfl rfl) rfl ?_ | refine s_pur (p_fld (off := 3) rfl Yba.underlying118 rfl Yba.sizeOf52 rfl) rfl ?_ | refine s_pur (p_load rfl Yba.isAgg52 (by assumption)) rfl ?_ | refine s_pur (p_len rfl Yba.underlying52) rfl ?_)
  refine c_loop (fun _ : Unit => [(20, .int .i64 ((0 : Nat) : Int)), (21, .int .i64 0)]) (fun _ y => q = y) (fun _ => 0) () rfl (by repeat (first | exact Sub.nil | refine Sub.cons rfl ?_)) ?_
  rintro _ _ rfl
  repeat (first | refine c_seq ?_ | refine c_region ?_ | refine c_block ?_ | refine c_skip ?_ | refine c_exit ?_ | refine c_ret ?_ | refine n_then ?_ | refine n_block ?_ | refine x_then ?_ | refine x_block_eq ?_ | refine x_block_ne rfl ?_ | refine r_then ?_ | refine r_block ?_ | refine s_nil ?_ | refine c_true rfl ?_ | refine c_false rfl ?_ | refine s_pur (p_move rfl) rfl ?_ | refine s_pur (p_assign rfl) rfl ?_ | refine s_pur (p_nil rfl) rfl ?_ | refine s_pur (p_pick_t rfl rfl) rfl ?_ | refine s_pur (p_pick_f rfl rfl) rfl ?_ | refine s_pur (p_lssT rfl rfl (by omega)) rfl ?_ | refine s_pur (p_lssF rfl rfl (by omega)) rfl ?_ | refine s_pur (p_leqT rfl rfl (by omega)) rfl ?_ | refine s_pur (p_leqF rfl rfl (by omega)) rfl ?_ | refine s_pur (p_gtrT rfl rfl (by omega)) rfl ?_ | refine s_pur (p_gtrF rfl rfl (by omega)) rfl ?_ | refine s_pur (p_geqT rfl rfl (by omega)) rfl ?_ | refine s_pur (p_geqF rfl rfl (by omega)) rfl ?_ | refine s_pur (p_eqlT rfl rfl (by omega)) rfl ?_ | refine s_pur (p_eqlF rfl rfl (by omega)) rfl ?_ | refine s_pur (p_neqT rfl rfl (by omega)) rfl ?_ | refine s_pur (p_neqF rfl rfl (by omega)) rfl ?_)
  exact end0 Yba.results23 ⟨rfl, nr⟩
end Go.Proofs.Ybulkdiqq
