/-
  B16: roster.LawS5491CWhole from its head.
-/
import Derived.Test.YbulkdirsB15
namespace Go.Proofs.Ybulkdirs
set_option linter.unusedSimpArgs false
set_option linter.unusedVariables false
set_option linter.unnecessarySimpa false
open Go Go.RowKit V
set_option maxRecDepth 100000

theorem info27 : ∃ i, Yba.prog.info? 27 = some i ∧ i.zero = some (.agg #[.string ByteArray.empty, .string ByteArray.empty, .int .i64 0, .int .i64 0]) ∧ i.size = 4 ∧ i.bytes = 48 := info_parts (by kernel_rfl)

theorem allCells_len (P G : Nat → ByteArray) (S L : Nat → Int) (n : Nat) : (allCells P G S L n).length = n * 4 := by simp [allCells]
theorem allCells_get (P G : Nat → ByteArray) (S L : Nat → Int) (n j : Nat) (hj : j < n * 4) : (allCells P G S L n)[j]? = some (cellOf P G S L (j / 4) (j % 4)) := by simp [allCells, hj]

set_option maxHeartbeats 4000000 in
theorem law_ok (h : Heap) (va : Option Addr) (n vc : Nat) (P G : Nat → ByteArray) (S L : Nat → Int) (r1 : Rows4 h va n P G S L) (hnil : va = none → n = 0 ∧ vc = 0) (hS : ∀ i, -9223372036854775808 ≤ S i ∧ S i ≤ 9223372036854775807) (hmax : n ≤ 9223372036854775807) :
    CallsH Yba.prog 3 #[.slice va n vc] h (fun u h' => u = .bool true ∧ Low h.size h h') := by
  refine calls_of (N := 53) [(0, .slice va n vc)] Yba.func3 rfl rfl (by simp) (by repeat (first | exact ArgsAre.nil | refine ArgsAre.cons rfl ?_)) ?_
  intro w0 _
  refine c_seq ?_
  repeat (first | refine c_region ?_ | refine c_block ?_ | refine c_skip ?_ | refine c_exit ?_ | refine c_ret ?_ | refine n_then ?_ | refine n_block ?_ | refine x_then ?_ | refine x_block_eq ?_ | refine x_block_ne rfl ?_ | refine r_then ?_ | refine r_block ?_ | refine s_nil ?_ | refine c_true rfl ?_ | refine c_false rfl ?_ | refine s_pur (p_move rfl) rfl ?_ | refine s_pur (p_assign rfl) rfl ?_ | refine s_pur (p_nil rfl) rfl ?_ | refine s_pur (p_pick_t rfl rfl) rfl ?_ | refine s_pur (p_pick_f rfl rfl) rfl ?_)
  refine cut [(0, .slice va n vc)] (by repeat (first | exact Sub.nil | refine Sub.cons rfl ?_)) ?_
  by_cases hn : 1048576 < n
  · repeat (first | refine c_seq ?_ | refine c_region ?_ | refine c_block ?_ | refine c_skip ?_ | refine c_exit ?_ | refine c_ret ?_ | refine n_then ?_ | refine n_block ?_ | refine x_then ?_ | refine x_block_eq ?_ | refine x_block_ne rfl ?_ | refine r_then ?_ | refine r_block ?_ | refine s_nil ?_ | refine c_true rfl ?_ | refine c_false rfl ?_ | refine s_pur (p_move rfl) rfl ?_ | refine s_pur (p_assign rfl) rfl ?_ | refine s_pur (p_nil rfl) rfl ?_ | refine s_pur (p_pick_t rfl rfl) rfl ?_ | refine s_pur (p_pick_f rfl rfl) rfl ?_ | refine s_pur (p_len rfl Yba.underlying22) rfl ?_ | refine s_pur (p_idx rfl rfl rfl (by omega) Yba.underlying22 Yba.sizeOf27) rfl ?_ | refine s_pur (p_lssT rfl rfl (by omega)) rfl ?_ | refine s_pur (p_lssF rfl rfl (by omega)) rfl ?_ | refine s_pur (p_leqT rfl rfl (by omega)) rfl ?_ | refine s_pur (p_leqF rfl rfl (by omega)) rfl ?_ | refine s_pur (p_gtrT rfl rfl (by omega)) rfl ?_ | refine s_pur (p_gtrF rfl rfl (by omega)) rfl ?_ | refine s_pur (p_geqT rfl rfl (by omega)) rfl ?_ | refine s_pur (p_geqF rfl rfl (by omega)) rfl ?_ | refine s_pur (p_eqlT rfl rfl (by omega)) rfl ?_ | refine s_pur (p_eqlF rfl rfl (by omega)) rfl ?_ | refine s_pur (p_neqT rfl rfl (by omega)) rfl ?_ | refine s_pur (p_neqF rfl rfl (by omega)) rfl ?_)
    exact ret1 Yba.results3 rfl ⟨rfl, Low.refl _ _⟩
  refine c_mid [(0, .slice va n vc)] (fun q => h = q) ?_ ?_
  · repeat (first | refine c_seq ?_ | refine c_region ?_ | refine c_block ?_ | refine c_skip ?_ | refine c_exit ?_ | refine c_ret ?_ | refine n_then ?_ | refine n_block ?_ | refine x_then ?_ | refine x_block_eq ?_ | refine x_block_ne rfl ?_ | refine r_then ?_ | refine r_block ?_ | refine s_nil ?_ | refine c_true rfl ?_ | refine c_false rfl ?_ | refine s_pur (p_move rfl) rfl ?_ | refine s_pur (p_assign rfl) rfl ?_ | refine s_pur (p_nil rfl) rfl ?_ | refine s_pur (p_pick_t rfl rfl) rfl ?_ | refine s_pur (p_pick_f rfl rfl) rfl ?_ | refine s_pur (p_len rfl Yba.underlying22) rfl ?_ | refine s_pur (p_idx rfl rfl rfl (by omega) Yba.underlying22 Yba.sizeOf27) rfl ?_ | refine s_pur (p_lssT rfl rfl (by omega)) rfl ?_ | refine s_pur (p_lssF rfl rfl (by omega)) rfl ?_ | refine s_pur (p_leqT rfl rfl (by omega)) rfl ?_ | refine s_pur (p_leqF rfl rfl (by omega)) rfl ?_ | refine s_pur (p_gtrT rfl rfl (by omega)) rfl ?_ | refine s_pur (p_gtrF rfl rfl (by omega)) rfl ?_ | refine s_pur (p_geqT rfl rfl (by omega)) rfl ?_ | refine s_pur (p_geqF rfl rfl (by omega)) rfl ?_ | refine s_pur (p_eqlT rfl rfl (by omega)) rfl ?_ | refine s_pur (p_eqlF rfl rfl (by omega)) rfl ?_ | refine s_pur (p_neqT rfl rfl (by omega)) rfl ?_ | refine s_pur (p_neqF rfl rfl (by omega)) rfl ?_)
    exact m_done rfl (by repeat (first | exact Sub.nil | refine Sub.cons rfl ?_))
  rintro _ rfl
  refine c_mid [(0, .slice va n vc), (3, .slice none 0 0)] (fun q => h = q) ?_ ?_
  · repeat (first | refine c_seq ?_ | refine c_region ?_ | refine c_block ?_ | refine c_skip ?_ | refine c_exit ?_ | refine c_ret ?_ | refine n_then ?_ | refine n_block ?_ | refine x_then ?_ | refine x_block_eq ?_ | refine x_block_ne rfl ?_ | refine r_then ?_ | refine r_block ?_ | refine s_nil ?_ | refine c_true rfl ?_ | refine c_false rfl ?_ | refine s_pur (p_move rfl) rfl ?_ | refine s_pur (p_assign rfl) rfl ?_ | refine s_pur (p_nil rfl) rfl ?_ | refine s_pur (p_pick_t rfl rfl) rfl ?_ | refine s_pur (p_pick_f rfl rfl) rfl ?_)
    exact m_done rfl (by repeat (first | exact Sub.nil | refine Sub.cons rfl ?_))
  rintro _ rfl
  cases va with
  | none =>
    obtain ⟨rfl, rfl⟩ := hnil rfl
    refine c_mid [(0, .slice none 0 0), (3, .slice none 0 0)] (fun q => h = q) ?_ ?_
    · repeat (first | refine c_seq ?_ | refine c_region ?_ | refine c_block ?_ | refine c_skip ?_ | refine c_exit ?_ | refine c_ret ?_ | refine n_then ?_ | refine n_block ?_ | refine x_then ?_ | refine x_block_eq ?_ | refine x_block_ne rfl ?_ | refine r_then ?_ | refine r_block ?_ | refine s_nil ?_ | refine c_true rfl ?_ | refine c_false rfl ?_ | refine s_pur (p_move rfl) rfl ?_ | refine s_pur (p_assign rfl) rfl ?_ | refine s_pur (p_nil rfl) rfl ?_ | refine s_pur (p_pick_t rfl rfl) rfl ?_ | refine s_pur (p_pick_f rfl rfl) rfl ?_ | refine s_pur (p_slneq rfl rfl Yba.underlying22) rfl ?_)
      exact m_done rfl (by repeat (first | exact Sub.nil | refine Sub.cons rfl ?_))
    rintro _ rfl
    exact lawTail h h none none 0 0 0 P G S L r1 r1 rfl hS (by omega) (fun h' lo => ⟨rfl, lo⟩)
  | some ad =>
    obtain ⟨i27, hi27, hz27, hs27, hb27⟩ := info27
    refine c_mid [(0, .slice (some ad) n vc), (3, .slice (some ⟨h.size, 0, none⟩) n n)] (fun q => Low h.size h q ∧ Rows4 q (some ⟨h.size, 0, none⟩) n P G S L) ?_ ?_
    · repeat (first | refine c_seq ?_ | refine c_region ?_ | refine c_block ?_ | refine c_skip ?_ | refine c_exit ?_ | refine c_ret ?_ | refine n_then ?_ | refine n_block ?_ | refine x_then ?_ | refine x_block_eq ?_ | refine x_block_ne rfl ?_ | refine r_then ?_ | refine r_block ?_ | refine s_nil ?_ | refine c_true rfl ?_ | refine c_false rfl ?_ | refine s_pur (p_move rfl) rfl ?_ | refine s_pur (p_assign rfl) rfl ?_ | refine s_pur (p_nil rfl) rfl ?_ | refine s_pur (p_pick_t rfl rfl) rfl ?_ | refine s_pur (p_pick_f rfl rfl) rfl ?_ | refine s_pur (p_len rfl Yba.underlying22) rfl ?_ | refine s_pur (p_idx rfl rfl rfl (by omega) Yba.underlying22 Yba.sizeOf27) rfl ?_ | refine s_pur (p_slneq rfl rfl Yba.underlying22) rfl ?_)
      refine s_eff (e_make rfl rfl Yba.underlying22 hi27 hz27 (Nat.le_refl _) (by rw [hb27]; omega) (by omega)) rfl ?_
      rintro _ x ⟨rfl, nx⟩
      repeat (first | refine c_seq ?_ | refine c_region ?_ | refine c_block ?_ | refine c_skip ?_ | refine c_exit ?_ | refine c_ret ?_ | refine n_then ?_ | refine n_block ?_ | refine x_then ?_ | refine x_block_eq ?_ | refine x_block_ne rfl ?_ | refine r_then ?_ | refine r_block ?_ | refine s_nil ?_ | refine c_true rfl ?_ | refine c_false rfl ?_ | refine s_pur (p_move rfl) rfl ?_ | refine s_pur (p_assign rfl) rfl ?_ | refine s_pur (p_nil rfl) rfl ?_ | refine s_pur (p_pick_t rfl rfl) rfl ?_ | refine s_pur (p_pick_f rfl rfl) rfl ?_)
      refine s_eff (e_copyN (cs := allCells P G S L n) (cur := madeCells (Value.agg #[.string ByteArray.empty, .string ByteArray.empty, .int .i64 0, .int .i64 0]).cells (n * i27.size)) rfl rfl Yba.underlying22 Yba.sizeOf27 nx.at_ (allCells_len P G S L n) ?_ ?_ ?_) rfl ?_
      · intro j v hj
        have hlt : j < n * 4 := by
          have := (List.getElem?_eq_some_iff.1 hj).1
          rwa [allCells_len] at this
        rw [allCells_get P G S L n j hlt] at hj
        obtain ⟨b, o, e, hc4⟩ := r1 (j / 4) (by omega)
        cases e
        have := hc4 (j % 4) (by omega)
        rw [add_none, cell_hc]
        show hc x b (o + j) = _
        rw [hc_congr (nx.other b (lt_of_hc this)), ← hj, ← this]
        congr 1
        omega
      · rw [allCells_len]; simp [madeCells, hs27]
      · intro v hv
        obtain ⟨j, hj, rfl⟩ := List.mem_map.1 hv
        exact cellOf_one P G S L _ _ (by omega)
      intro _ y uy
      repeat (first | refine c_seq ?_ | refine c_region ?_ | refine c_block ?_ | refine c_skip ?_ | refine c_exit ?_ | refine c_ret ?_ | refine n_then ?_ | refine n_block ?_ | refine x_then ?_ | refine x_block_eq ?_ | refine x_block_ne rfl ?_ | refine r_then ?_ | refine r_block ?_ | refine s_nil ?_ | refine c_true rfl ?_ | refine c_false rfl ?_ | refine s_pur (p_move rfl) rfl ?_ | refine s_pur (p_assign rfl) rfl ?_ | refine s_pur (p_nil rfl) rfl ?_ | refine s_pur (p_pick_t rfl rfl) rfl ?_ | refine s_pur (p_pick_f rfl rfl) rfl ?_)
      refine m_done ⟨((Low.refl _ _).new nx (Nat.le_refl _)).upd uy (Nat.le_refl _), fun i hi => ⟨h.size, 0, rfl, fun t ht => ?_⟩⟩ (by repeat (first | exact Sub.nil | refine Sub.cons rfl ?_))
      rw [hc_of uy.at_]
      have := allCells_get P G S L n (i * 4 + t) (by omega)
      simp only [Nat.zero_add, List.getElem?_toArray, this]
      congr 2 <;> omega
    rintro q ⟨lo, r2⟩
    exact lawTail h q (some ad) _ n vc n P G S L (r1.low lo) r2 rfl hS (by omega) (fun h' lo' => ⟨rfl, lo.then lo'⟩)
end Go.Proofs.Ybulkdirs
