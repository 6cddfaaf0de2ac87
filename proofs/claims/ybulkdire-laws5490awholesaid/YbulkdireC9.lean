/-
  C9: the model's list in memory; zzs5490afind.
-/
import Derived.Test.YbulkdireC8
import Derived.Laws.OwnMore
namespace Go.Proofs.Ybulkdire
set_option linter.unusedSimpArgs false
set_option linter.unusedVariables false
set_option linter.unnecessarySimpa false
open Go Go.RowKit V
set_option maxRecDepth 100000

def ents (e : Ent) : List Value := [.int .u64 e.id, .int .i64 e.off, e.blk]
def rowM : Nat → (Nat → Ent) → List Value
  | 0, _ => []
  | n + 1, E => rowM n E ++ ents (E n)
theorem rowM_len (n : Nat) (E : Nat → Ent) : (rowM n E).length = n * 3 := by
  induction n with
  | zero => rfl
  | succ n ih => simp [rowM, ih, ents]; omega
theorem rowM_get {n : Nat} {E : Nat → Ent} {i t : Nat} (hi : i < n) (ht : t < 3) : (rowM n E)[i * 3 + t]? = (ents (E i))[t]? := by
  induction n with
  | zero => omega
  | succ n ih =>
    simp only [rowM]
    by_cases h : i = n
    · subst h
      rw [List.getElem?_append_right (by rw [rowM_len]; omega), rowM_len]
      congr 1; omega
    · rw [List.getElem?_append_left (by rw [rowM_len]; omega)]
      exact ih (by omega)
theorem rowM_congr {n : Nat} {E E' : Nat → Ent} (h : ∀ i, i < n → ents (E i) = ents (E' i)) : rowM n E = rowM n E' := by
  induction n with
  | zero => rfl
  | succ n ih => simp only [rowM]; rw [ih (fun i hi => h i (by omega)), h n (by omega)]
theorem rowM_cns (x : Ent) (E : Nat → Ent) (n : Nat) : rowM (n + 1) (cns x E) = ents x ++ rowM n E := by
  induction n with
  | zero => simp [rowM, cns]
  | succ n ih =>
    rw [rowM, ih]
    simp only [rowM, cns]
    rw [if_neg (by omega)]
    simp only [Nat.add_sub_cancel, List.append_assoc]
theorem rowM_one {n : Nat} {E : Nat → Ent} : ∀ u ∈ rowM n E, u.oneCell' = true := by
  induction n with
  | zero => simp [rowM]
  | succ n ih =>
    intro u hu
    simp only [rowM, List.mem_append] at hu
    rcases hu with hu | hu
    · exact ih u hu
    · simp [ents] at hu
      rcases hu with rfl | rfl | rfl <;> rfl

/-- The value v is a slice that holds the first n. -/
def MV (h : Heap) (v : Value) (n : Nat) (E : Nat → Ent) : Prop :=
  (v = .slice none 0 0 ∧ n = 0) ∨ ∃ b o mc, ∃ c : Array Value, v = .slice (some ⟨b, o, none⟩) n mc ∧ n ≤ mc ∧ h[b]? = some (.cells c 61 (0, 0)) ∧ ∀ i, i < n → ∀ t, t < 3 → c[o + i * 3 + t]? = (ents (E i))[t]?
theorem MV.slice {h : Heap} {v : Value} {n : Nat} {E : Nat → Ent} (m : MV h v n E) : ∃ a c, v = .slice a n c := by
  rcases m with ⟨rfl, rfl⟩ | ⟨b, o, mc, c, rfl, _⟩
  · exact ⟨_, _, rfl⟩
  · exact ⟨_, _, rfl⟩
theorem MV.frm {base : Nat} {h h' : Heap} {v : Value} {n : Nat} {E : Nat → Ent} (m : MV h v n E) (f : Frm base h h') : MV h' v n E := by
  rcases m with m | ⟨b, o, mc, c, h1, h2, h3, h4⟩
  · exact .inl m
  · exact .inr ⟨b, o, mc, c, h1, h2, f.keep b c 61 h3 (by decide) (by decide), h4⟩
theorem MV.kp {h h' : Heap} {v : Value} {n : Nat} {E : Nat → Ent} (m : MV h v n E) (f : Kp h h') : MV h' v n E := m.frm (base := 0) (f.frm (Nat.zero_le _))
theorem MV.congr {h : Heap} {v : Value} {n : Nat} {E E' : Nat → Ent} (m : MV h v n E) (he : ∀ i, i < n → ents (E i) = ents (E' i)) : MV h v n E' := by
  rcases m with m | ⟨b, o, mc, c, h1, h2, h3, h4⟩
  · exact .inl m
  · exact .inr ⟨b, o, mc, c, h1, h2, h3, fun i hi t ht => by rw [← he i hi]; exact h4 i hi t ht⟩
theorem MV.of {h : Heap} {base n : Nat} {v : Value} {E : Nat → Ent} (ho : Owns h base 61 3 v n (rowM n E)) : MV h v n E := by
  rcases ho.shape with ⟨hv, hn⟩ | ⟨g, cap, cur, hv, hb, hg, hnc, hm, hs, ht⟩
  · exact .inl ⟨hv, hn⟩
  · refine .inr ⟨g, 0, cap, cur, hv, hnc, hg, fun i hi t ht' => ?_⟩
    rw [← rowM_get hi ht', ← ht, Nat.zero_add, List.getElem?_take, if_pos (by omega)]
    simp
theorem MV.cell {h : Heap} {a : Option Addr} {n c : Nat} {E : Nat → Ent} (m : MV h (.slice a n c) n E) {i : Nat} (hi : i < n) :
    ∃ b o, a = some ⟨b, o, none⟩ ∧ ∀ t, t < 3 → hc h b (o + i * 3 + t) = (ents (E i))[t]? := by
  rcases m with ⟨hv, hn⟩ | ⟨b, o, mc, c, h1, h2, h3, h4⟩
  · omega
  · cases h1
    exact ⟨b, o, rfl, fun t ht => by rw [hc_of h3]; exact h4 i hi t ht⟩

set_option maxHeartbeats 4000000 in
theorem find_ok (h : Heap) (va : Option Addr) (n vc : Nat) (E : Nat → Ent) (id off : Int) (mv : MV h (.slice va n vc) n E) (hn : n ≤ 1048576) :
    CallsH Yba.prog 14 #[.slice va n vc, .int .u64 id, .int .i64 off] h (fun u h' => h' = h ∧ (((∀ i, i < n → (E i).key ≠ (id, off)) ∧ u = .int .i64 (-1)) ∨ ∃ j : Nat, j < n ∧ (E j).key = (id, off) ∧ u = .int .i64 (j : Int))) := by
  refine calls_of (N := 31) [(0, .slice va n vc), (1, .int .u64 id), (2, .int .i64 off)] Yba.func14 rfl rfl (by simp) (by repeat (first | exact ArgsAre.nil | refine ArgsAre.cons rfl ?_)) ?_
  intro w0 _
  refine c_seq ?_
  repeat (first | refine c_region ?_ | refine c_block ?_ | refine c_skip ?_ | refine c_exit ?_ | refine c_ret ?_ | refine n_then ?_ | refine n_block ?_ | refine x_then ?_ | refine x_block_eq ?_ | refine x_block_ne rfl ?_ | refine r_then ?_ | refine r_block ?_ | refine s_nil ?_ | refine c_true rfl ?_ | refine c_false rfl ?_ | refine s_pur (p_move rfl) rfl ?_ | refine s_pur (p_assign rfl) rfl ?_ | refine s_pur (p_nil rfl) rfl ?_ | refine s_pur (p_pick_t rfl rfl) rfl ?_ | refine s_pur (p_pick_f rfl rfl) rfl ?_)
  refine c_mid [] (fun q => h = q ∧ (∀ i, i < n → (E i).key ≠ (id, off))) ?_ ?_
  · repeat (first | refine c_seq ?_ | refine c_region ?_ | refine c_block ?_ | refine c_skip ?_ | refine c_exit ?_ | refine c_ret ?_ | refine n_then ?_ | refine n_block ?_ | refine x_then ?_ | refine x_block_eq ?_ | refine x_block_ne rfl ?_ | refine r_then ?_ | refine r_block ?_ | refine s_nil ?_ | refine c_true rfl ?_ | refine c_false rfl ?_ | refine s_pur (p_move rfl) rfl ?_ | refine s_pur (p_assign rfl) rfl ?_ | refine s_pur (p_nil rfl) rfl ?_ | refine s_pur (p_pick_t rfl rfl) rfl ?_ | refine s_pur (p_pick_f rfl rfl) rfl ?_)
    refine c_loop (fun k : Nat => [(0, .slice va n vc), (1, .int .u64 id), (2, .int .i64 off), (7, .int .i64 (k : Int))]) (fun k q => k ≤ n ∧ h = q ∧ ∀ i, i < k → (E i).key ≠ (id, off)) (fun k => n - k) 0 ⟨by omega, rfl, fun i hi => by omega⟩ (by repeat (first | exact Sub.nil | refine Sub.cons rfl ?_)) ?_
    rintro k _ ⟨hk, rfl, hno⟩
    by_cases hlt : k < n
    · obtain ⟨b, o, rfl, hcell⟩ := mv.cell hlt
      have l0 : hc h b (o + k * 3 + 0) = some (.int .u64 (E k).id) := hcell 0 (by omega)
      have l1 : hc h b (o + k * 3 + 1) = some (.int .i64 (E k).off) := hcell 1 (by omega)
      by_cases e1 : (E k).id = id
      · by_cases e2 : (E k).off = off
        · repeat (first | refine c_seq ?_ | refine c_region ?_ | refine c_block ?_ | refine c_skip ?_ | refine c_exit ?_ | refine c_ret ?_ | refine n_then ?_ | refine n_block ?_ | refine x_then ?_ | refine x_block_eq ?_ | refine x_block_ne rfl ?_ | refine r_then ?_ | refine r_block ?_ | refine s_nil ?_ | refine c_true rfl ?_ | refine c_false rfl ?_ | refine s_pur (p_move rfl) rfl ?_ | refine s_pur (p_assign rfl) rfl ?_ | refine s_pur (p_nil rfl) rfl ?_ | refine s_pur (p_pick_t rfl rfl) rfl ?_ | refine s_pur (p_pick_f rfl rfl) rfl ?_ | refine s_pur (p_len rfl Yba.underlying29) rfl ?_ | refine s_pur (p_idx rfl rfl rfl (by omega) Yba.underlying29 Yba.sizeOf61) rfl ?_ | refine s_pur (p_fld (off := 0) rfl Yba.underlying61 rfl Yba.sizeOf23 rfl) rfl ?_ | refine s_pur (p_fld (off := 1) rfl Yba.underlying61 rfl Yba.sizeOf2 rfl) rfl ?_ | refine s_pur (p_load rfl Yba.isAgg23 (by assumption)) rfl ?_ | refine s_pur (p_load rfl Yba.isAgg2 (by assumption)) rfl ?_ | refine s_pur (p_lssT rfl rfl (by omega)) rfl ?_ | refine s_pur (p_lssF rfl rfl (by omega)) rfl ?_ | refine s_pur (p_leqT rfl rfl (by omega)) rfl ?_ | refine s_pur (p_leqF rfl rfl (by omega)) rfl ?_ | refine s_pur (p_gtrT rfl rfl (by omega)) rfl ?_ | refine s_pur (p_gtrF rfl rfl (by omega)) rfl ?_ | refine s_pur (p_geqT rfl rfl (by omega)) rfl ?_ | refine s_pur (p_geqF rfl rfl (by omega)) rfl ?_ | refine s_pur (p_eqlT rfl rfl (by omega)) rfl ?_ | refine s_pur (p_eqlF rfl rfl (by omega)) rfl ?_ | refine s_pur (p_neqT rfl rfl (by omega)) rfl ?_ | refine s_pur (p_neqF rfl rfl (by omega)) rfl ?_ | refine s_skip rfl rfl rfl ?_ | refine s_skip' rfl rfl rfl ?_ | refine s_pur_g rfl (p_move rfl) rfl ?_ | refine s_pur_g rfl (p_assign rfl) rfl ?_ | refine s_pur_g rfl (p_nil rfl) rfl ?_ | refine s_pur_g rfl (p_pick_t rfl rfl) rfl ?_ | refine s_pur_g rfl (p_pick_f rfl rfl) rfl ?_ | refine s_pur_g rfl (p_len rfl Yba.underlying29) rfl ?_ | refine s_pur_g rfl (p_idx rfl rfl rfl (by omega) Yba.underlying29 Yba.sizeOf61) rfl ?_ | refine s_pur_g rfl (p_fld (off := 0) rfl Yba.underlying61 rfl Yba.sizeOf23 rfl) rfl ?_ | refine s_pur_g rfl (p_fld (off := 1) rfl Yba.underlying61 rfl Yba.sizeOf2 rfl) rfl ?_ | refine s_pur_g rfl (p_load rfl Yba.isAgg23 (by assumption)) rfl ?_ | refine s_pur_g rfl (p_load rfl Yba.isAgg2 (by assumption)) rfl ?_ | refine s_pur_g rfl (p_lssT rfl rfl (by omega)) rfl ?_ | refine s_pur_g rfl (p_lssF rfl rfl (by omega)) rfl ?_ | refine s_pur_g rfl (p_leqT rfl rfl (by omega)) rfl ?_ | refine s_pur_g rfl (p_leqF rfl rfl (by omega)) rfl ?_ | refine s_pur_g rfl (p_gtrT rfl rfl (by omega)) rfl ?_ | refine s_pur_g rfl (p_gtrF rfl rfl (by omega)) rfl ?_ | refine s_pur_g rfl (p_geqT rfl rfl (by omega)) rfl ?_ | refine s_pur_g rfl (p_geqF rfl rfl (by omega)) rfl ?_ | refine s_pur_g rfl (p_eqlT rfl rfl (by omega)) rfl ?_ | refine s_pur_g rfl (p_eqlF rfl rfl (by omega)) rfl ?_ | refine s_pur_g rfl (p_neqT rfl rfl (by omega)) rfl ?_ | refine s_pur_g rfl (p_neqF rfl rfl (by omega)) rfl ?_)
          exact ret1 Yba.results14 rfl ⟨rfl, .inr ⟨k, hlt, Prod.ext e1 e2, rfl⟩⟩
        · repeat (first | refine c_seq ?_ | refine c_region ?_ | refine c_block ?_ | refine c_skip ?_ | refine c_exit ?_ | refine c_ret ?_ | refine n_then ?_ | refine n_block ?_ | refine x_then ?_ | refine x_block_eq ?_ | refine x_block_ne rfl ?_ | refine r_then ?_ | refine r_block ?_ | refine s_nil ?_ | refine c_true rfl ?_ | refine c_false rfl ?_ | refine s_pur (p_move rfl) rfl ?_ | refine s_pur (p_assign rfl) rfl ?_ | refine s_pur (p_nil rfl) rfl ?_ | refine s_pur (p_pick_t rfl rfl) rfl ?_ | refine s_pur (p_pick_f rfl rfl) rfl ?_ | refine s_pur (p_len rfl Yba.underlying29) rfl ?_ | refine s_pur (p_idx rfl rfl rfl (by omega) Yba.underlying29 Yba.sizeOf61) rfl ?_ | refine s_pur (p_fld (off := 0) rfl Yba.underlying61 rfl Yba.sizeOf23 rfl) rfl ?_ | refine s_pur (p_fld (off := 1) rfl Yba.underlying61 rfl Yba.sizeOf2 rfl) rfl ?_ | refine s_pur (p_load rfl Yba.isAgg23 (by assumption)) rfl ?_ | refine s_pur (p_load rfl Yba.isAgg2 (by assumption)) rfl ?_ | refine s_pur (p_lssT rfl rfl (by omega)) rfl ?_ | refine s_pur (p_lssF rfl rfl (by omega)) rfl ?_ | refine s_pur (p_leqT rfl rfl (by omega)) rfl ?_ | refine s_pur (p_leqF rfl rfl (by omega)) rfl ?_ | refine s_pur (p_gtrT rfl rfl (by omega)) rfl ?_ | refine s_pur (p_gtrF rfl rfl (by omega)) rfl ?_ | refine s_pur (p_geqT rfl rfl (by omega)) rfl ?_ | refine s_pur (p_geqF rfl rfl (by omega)) rfl ?_ | refine s_pur (p_eqlT rfl rfl (by omega)) rfl ?_ | refine s_pur (p_eqlF rfl rfl (by omega)) rfl ?_ | refine s_pur (p_neqT rfl rfl (by omega)) rfl ?_ | refine s_pur (p_neqF rfl rfl (by omega)) rfl ?_ | refine s_skip rfl rfl rfl ?_ | refine s_skip' rfl rfl rfl ?_ | refine s_pur_g rfl (p_move rfl) rfl ?_ | refine s_pur_g rfl (p_assign rfl) rfl ?_ | refine s_pur_g rfl (p_nil rfl) rfl ?_ | refine s_pur_g rfl (p_pick_t rfl rfl) rfl ?_ | refine s_pur_g rfl (p_pick_f rfl rfl) rfl ?_ | refine s_pur_g rfl (p_len rfl Yba.underlying29) rfl ?_ | refine s_pur_g rfl (p_idx rfl rfl rfl (by omega) Yba.underlying29 Yba.sizeOf61) rfl ?_ | refine s_pur_g rfl (p_fld (off := 0) rfl Yba.underlying61 rfl Yba.sizeOf23 rfl) rfl ?_ | refine s_pur_g rfl (p_fld (off := 1) rfl Yba.underlying61 rfl Yba.sizeOf2 rfl) rfl ?_ | refine s_pur_g rfl (p_load rfl Yba.isAgg23 (by assumption)) rfl ?_ | refine s_pur_g rfl (p_load rfl Yba.isAgg2 (by assumption)) rfl ?_ | refine s_pur_g rfl (p_lssT rfl rfl (by omega)) rfl ?_ | refine s_pur_g rfl (p_lssF rfl rfl (by omega)) rfl ?_ | refine s_pur_g rfl (p_leqT rfl rfl (by omega)) rfl ?_ | refine s_pur_g rfl (p_leqF rfl rfl (by omega)) rfl ?_ | refine s_pur_g rfl (p_gtrT rfl rfl (by omega)) rfl ?_ | refine s_pur_g rfl (p_gtrF rfl rfl (by omega)) rfl ?_ | refine s_pur_g rfl (p_geqT rfl rfl (by omega)) rfl ?_ | refine s_pur_g rfl (p_geqF rfl rfl (by omega)) rfl ?_ | refine s_pur_g rfl (p_eqlT rfl rfl (by omega)) rfl ?_ | refine s_pur_g rfl (p_eqlF rfl rfl (by omega)) rfl ?_ | refine s_pur_g rfl (p_neqT rfl rfl (by omega)) rfl ?_ | refine s_pur_g rfl (p_neqF rfl rfl (by omega)) rfl ?_)
          repeat (first | refine c_seq ?_ | refine c_region ?_ | refine c_block ?_ | refine c_skip ?_ | refine c_exit ?_ | refine c_ret ?_ | refine n_then ?_ | refine n_block ?_ | refine x_then ?_ | refine x_block_eq ?_ | refine x_block_ne rfl ?_ | refine r_then ?_ | refine r_block ?_ | refine s_nil ?_ | refine c_true rfl ?_ | refine c_false rfl ?_ | refine s_pur (p_move rfl) rfl ?_ | refine s_pur (p_assign rfl) rfl ?_ | refine s_pur (p_nil rfl) rfl ?_ | refine s_pur (p_pick_t rfl rfl) rfl ?_ | refine s_pur (p_pick_f rfl rfl) rfl ?_ | refine s_pur (p_add rfl rfl rfl (by omega) (by omega)) rfl ?_)
          exact c_next (k + 1) ⟨hlt, rfl, fun i hi e => by
            by_cases hik : i = k
            · subst hik; exact e2 (congrArg Prod.snd e)
            · exact hno i (by omega) e⟩ (by repeat (first | exact Sub.nil | refine Sub.cons rfl ?_)) (by omega)
      · repeat (first | refine c_seq ?_ | refine c_region ?_ | refine c_block ?_ | refine c_skip ?_ | refine c_exit ?_ | refine c_ret ?_ | refine n_then ?_ | refine n_block ?_ | refine x_then ?_ | refine x_block_eq ?_ | refine x_block_ne rfl ?_ | refine r_then ?_ | refine r_block ?_ | refine s_nil ?_ | refine c_true rfl ?_ | refine c_false rfl ?_ | refine s_pur (p_move rfl) rfl ?_ | refine s_pur (p_assign rfl) rfl ?_ | refine s_pur (p_nil rfl) rfl ?_ | refine s_pur (p_pick_t rfl rfl) rfl ?_ | refine s_pur (p_pick_f rfl rfl) rfl ?_ | refine s_pur (p_len rfl Yba.underlying29) rfl ?_ | refine s_pur (p_idx rfl rfl rfl (by omega) Yba.underlying29 Yba.sizeOf61) rfl ?_ | refine s_pur (p_fld (off := 0) rfl Yba.underlying61 rfl Yba.sizeOf23 rfl) rfl ?_ | refine s_pur (p_fld (off := 1) rfl Yba.underlying61 rfl Yba.sizeOf2 rfl) rfl ?_ | refine s_pur (p_load rfl Yba.isAgg23 (by assumption)) rfl ?_ | refine s_pur (p_load rfl Yba.isAgg2 (by assumption)) rfl ?_ | refine s_pur (p_lssT rfl rfl (by omega)) rfl ?_ | refine s_pur (p_lssF rfl rfl (by omega)) rfl ?_ | refine s_pur (p_leqT rfl rfl (by omega)) rfl ?_ | refine s_pur (p_leqF rfl rfl (by omega)) rfl ?_ | refine s_pur (p_gtrT rfl rfl (by omega)) rfl ?_ | refine s_pur (p_gtrF rfl rfl (by omega)) rfl ?_ | refine s_pur (p_geqT rfl rfl (by omega)) rfl ?_ | refine s_pur (p_geqF rfl rfl (by omega)) rfl ?_ | refine s_pur (p_eqlT rfl rfl (by omega)) rfl ?_ | refine s_pur (p_eqlF rfl rfl (by omega)) rfl ?_ | refine s_pur (p_neqT rfl rfl (by omega)) rfl ?_ | refine s_pur (p_neqF rfl rfl (by omega)) rfl ?_ | refine s_skip rfl rfl rfl ?_ | refine s_skip' rfl rfl rfl ?_ | refine s_pur_g rfl (p_move rfl) rfl ?_ | refine s_pur_g rfl (p_assign rfl) rfl ?_ | refine s_pur_g rfl (p_nil rfl) rfl ?_ | refine s_pur_g rfl (p_pick_t rfl rfl) rfl ?_ | refine s_pur_g rfl (p_pick_f rfl rfl) rfl ?_ | refine s_pur_g rfl (p_len rfl Yba.underlying29) rfl ?_ | refine s_pur_g rfl (p_idx rfl rfl rfl (by omega) Yba.underlying29 Yba.sizeOf61) rfl ?_ | refine s_pur_g rfl (p_fld (off := 0) rfl Yba.underlying61 rfl Yba.sizeOf23 rfl) rfl ?_ | refine s_pur_g rfl (p_fld (off := 1) rfl Yba.underlying61 rfl Yba.sizeOf2 rfl) rfl ?_ | refine s_pur_g rfl (p_load rfl Yba.isAgg23 (by assumption)) rfl ?_ | refine s_pur_g rfl (p_load rfl Yba.isAgg2 (by assumption)) rfl ?_ | refine s_pur_g rfl (p_lssT rfl rfl (by omega)) rfl ?_ | refine s_pur_g rfl (p_lssF rfl rfl (by omega)) rfl ?_ | refine s_pur_g rfl (p_leqT rfl rfl (by omega)) rfl ?_ | refine s_pur_g rfl (p_leqF rfl rfl (by omega)) rfl ?_ | refine s_pur_g rfl (p_gtrT rfl rfl (by omega)) rfl ?_ | refine s_pur_g rfl (p_gtrF rfl rfl (by omega)) rfl ?_ | refine s_pur_g rfl (p_geqT rfl rfl (by omega)) rfl ?_ | refine s_pur_g rfl (p_geqF rfl rfl (by omega)) rfl ?_ | refine s_pur_g rfl (p_eqlT rfl rfl (by omega)) rfl ?_ | refine s_pur_g rfl (p_eqlF rfl rfl (by omega)) rfl ?_ | refine s_pur_g rfl (p_neqT rfl rfl (by omega)) rfl ?_ | refine s_pur_g rfl (p_neqF rfl rfl (by omega)) rfl ?_)
        repeat (first | refine c_seq ?_ | refine c_region ?_ | refine c_block ?_ | refine c_skip ?_ | refine c_exit ?_ | refine c_ret ?_ | refine n_then ?_ | refine n_block ?_ | refine x_then ?_ | refine x_block_eq ?_ | refine x_block_ne rfl ?_ | refine r_then ?_ | refine r_block ?_ | refine s_nil ?_ | refine c_true rfl ?_ | refine c_false rfl ?_ | refine s_pur (p_move rfl) rfl ?_ | refine s_pur (p_assign rfl) rfl ?_ | refine s_pur (p_nil rfl) rfl ?_ | refine s_pur (p_pick_t rfl rfl) rfl ?_ | refine s_pur (p_pick_f rfl rfl) rfl ?_ | refine s_pur (p_add rfl rfl rfl (by omega) (by omega)) rfl ?_)
        exact c_next (k + 1) ⟨hlt, rfl, fun i hi e => by
            by_cases hik : i = k
            · subst hik; exact e1 (congrArg Prod.fst e)
            · exact hno i (by omega) e⟩ (by repeat (first | exact Sub.nil | refine Sub.cons rfl ?_)) (by omega)
    · obtain rfl : k = n := by omega
      repeat (first | refine c_seq ?_ | refine c_region ?_ | refine c_block ?_ | refine c_skip ?_ | refine c_exit ?_ | refine c_ret ?_ | refine n_then ?_ | refine n_block ?_ | refine x_then ?_ | refine x_block_eq ?_ | refine x_block_ne rfl ?_ | refine r_then ?_ | refine r_block ?_ | refine s_nil ?_ | refine c_true rfl ?_ | refine c_false rfl ?_ | refine s_pur (p_move rfl) rfl ?_ | refine s_pur (p_assign rfl) rfl ?_ | refine s_pur (p_nil rfl) rfl ?_ | refine s_pur (p_pick_t rfl rfl) rfl ?_ | refine s_pur (p_pick_f rfl rfl) rfl ?_ | refine s_pur (p_len rfl Yba.underlying29) rfl ?_ | refine s_pur (p_idx rfl rfl rfl (by omega) Yba.underlying29 Yba.sizeOf61) rfl ?_ | refine s_pur (p_lssT rfl rfl (by omega)) rfl ?_ | refine s_pur (p_lssF rfl rfl (by omega)) rfl ?_ | refine s_pur (p_leqT rfl rfl (by omega)) rfl ?_ | refine s_pur (p_leqF rfl rfl (by omega)) rfl ?_ | refine s_pur (p_gtrT rfl rfl (by omega)) rfl ?_ | refine s_pur (p_gtrF rfl rfl (by omega)) rfl ?_ | refine s_pur (p_geqT rfl rfl (by omega)) rfl ?_ | refine s_pur (p_geqF rfl rfl (by omega)) rfl ?_ | refine s_pur (p_eqlT rfl rfl (by omega)) rfl ?_ | refine s_pur (p_eqlF rfl rfl (by omega)) rfl ?_ | refine s_pur (p_neqT rfl rfl (by omega)) rfl ?_ | refine s_pur (p_neqF rfl rfl (by omega)) rfl ?_)
      exact m_done ⟨rfl, hno⟩ (by repeat (first | exact Sub.nil | refine Sub.cons rfl ?_))
  rintro _ ⟨rfl, hno⟩
  repeat (first | refine c_seq ?_ | refine c_region ?_ | refine c_block ?_ | refine c_skip ?_ | refine c_exit ?_ | refine c_ret ?_ | refine n_then ?_ | refine n_block ?_ | refine x_then ?_ | refine x_block_eq ?_ | refine x_block_ne rfl ?_ | refine r_then ?_ | refine r_block ?_ | refine s_nil ?_ | refine c_true rfl ?_ | refine c_false rfl ?_ | refine s_pur (p_move rfl) rfl ?_ | refine s_pur (p_assign rfl) rfl ?_ | refine s_pur (p_nil rfl) rfl ?_ | refine s_pur (p_pick_t rfl rfl) rfl ?_ | refine s_pur (p_pick_f rfl rfl) rfl ?_)
  exact ret1 Yba.results14 rfl ⟨rfl, .inl ⟨hno, rfl⟩⟩
end Go.Proofs.Ybulkdire
