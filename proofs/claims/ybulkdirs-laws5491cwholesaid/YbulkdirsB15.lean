/-
  B15: roster.LawS5491CWhole, whole.
-/
import Derived.Test.YbulkdirsB15p
namespace Go.Proofs.Ybulkdirs
set_option linter.unusedSimpArgs false
set_option linter.unusedVariables false
set_option linter.unnecessarySimpa false
open Go Go.RowKit V
set_option maxRecDepth 100000

theorem V.p_slneq {P : Program} {l : Env} {h : Heap} {ty : TypeId} {x y : Operand} {t t2 e : TypeId} {a : Option Addr} {n c : Nat} (hx : ev l x = some (.slice a n c)) (hy : ev l y = some (.slice none 0 0)) (hu : P.underlying t = some (.slice e)) :
    Pur P (.binOp .neq t x y t2) ty l h (.bool (!a.isNone)) := by
  refine ⟨fun ρ w d p af g hρ hw => ?_⟩
  have he : (Op.equal t (.slice a n c) (.slice none 0 0)).run P w = .ok a.isNone w := run_equal fun d => by
    cases a <;> simp [Op.equalIn, run_underlying hu]
  simp [execOp, hρ _ _ hx, hρ _ _ hy, eqGuard, binOp, he]

def cellOf (P G : Nat → ByteArray) (S L : Nat → Int) (i t : Nat) : Value := [.string (P i), .string (G i), .int .i64 (S i), .int .i64 (L i)].getD t undef
def allCells (P G : Nat → ByteArray) (S L : Nat → Int) (n : Nat) : List Value := (List.range (n * 4)).map fun j => cellOf P G S L (j / 4) (j % 4)
theorem cellOf_one (P G : Nat → ByteArray) (S L : Nat → Int) (i t : Nat) (ht : t < 4) : (cellOf P G S L i t).oneCell' = true := by
  rcases (by omega : t = 0 ∨ t = 1 ∨ t = 2 ∨ t = 3) with e | e | e | e <;> subst e <;> rfl
theorem cellOf_get (P G : Nat → ByteArray) (S L : Nat → Int) (i t : Nat) (ht : t < 4) : ([.string (P i), .string (G i), .int .i64 (S i), .int .i64 (L i)] : List Value)[t]? = some (cellOf P G S L i t) := by
  rcases (by omega : t = 0 ∨ t = 1 ∨ t = 2 ∨ t = 3) with e | e | e | e <;> subst e <;> rfl

/-- Two rows of holdings that hold the same; the rest of the law. -/
def Rows4 (h : Heap) (va : Option Addr) (n : Nat) (P G : Nat → ByteArray) (S L : Nat → Int) : Prop :=
  ∀ i, i < n → ∃ b o, va = some ⟨b, o, none⟩ ∧ ∀ t, t < 4 → hc h b (o + i * 4 + t) = some (cellOf P G S L i t)
theorem Rows4.low {h h' : Heap} {va : Option Addr} {n : Nat} {P G : Nat → ByteArray} {S L : Nat → Int} (hr : Rows4 h va n P G S L) (hl : Low h.size h h') : Rows4 h' va n P G S L := fun i hi => by
  obtain ⟨b, o, e, hc⟩ := hr i hi
  exact ⟨b, o, e, fun t ht => low_hc hl (hc t ht)⟩

set_option maxHeartbeats 4000000 in
theorem lawTail (h h2 : Heap) (va vb : Option Addr) (n vc vd : Nat) (P G : Nat → ByteArray) (S L : Nat → Int) (r1 : Rows4 h2 va n P G S L) (r2 : Rows4 h2 vb n P G S L) (hnil : va.isNone = vb.isNone) (hS : ∀ i, -9223372036854775808 ≤ S i ∧ S i ≤ 9223372036854775807) (hn : n ≤ 1048576)
    {w0 : World} {R : Value → Heap → Prop} (hR : ∀ h', Low h2.size h2 h' → R (.bool true) h') :
    V.Fin 53 w0 (CW Yba.prog (V.sub (Yba.f3.body.getD .skip) [1, 1, 1, 1]) (bodyPost Yba.prog Yba.f3 (PostR w0 R))) [(0, .slice va n vc), (3, .slice vb n vd)] h2 := by
  have hsum := sum_ok h2 va n vc (fun i => .string (P i)) (fun i => .string (G i)) (fun i => .int .i64 (L i)) S (fun i hi => by
    obtain ⟨b, o, e, hc⟩ := r1 i hi
    exact ⟨b, o, e, lt_of_hc (hc 0 (by omega)), fun t ht => by rw [hc t ht, cellOf_get P G S L i t ht]⟩) hS (fun i _ => ⟨rfl, rfl, rfl⟩) hn
  refine c_seq ?_
  repeat (first | refine c_region ?_ | refine c_block ?_ | refine c_skip ?_ | refine c_exit ?_ | refine c_ret ?_ | refine n_then ?_ | refine n_block ?_ | refine x_then ?_ | refine x_block_eq ?_ | refine x_block_ne rfl ?_ | refine r_then ?_ | refine r_block ?_ | refine s_nil ?_ | refine c_true rfl ?_ | refine c_false rfl ?_ | refine s_pur (p_move rfl) rfl ?_ | refine s_pur (p_assign rfl) rfl ?_ | refine s_pur (p_nil rfl) rfl ?_ | refine s_pur (p_pick_t rfl rfl) rfl ?_ | refine s_pur (p_pick_f rfl rfl) rfl ?_)
  refine s_call Yba.call4 rfl rfl hsum ?_
  rintro _ h3 ⟨rfl, lo3, nv3, z3⟩
  have hmod := model_ok h3 vb n vd S (fun i hi => by
    obtain ⟨b, o, e, hc⟩ := r2.low lo3 i hi
    exact ⟨b, o, e, hc 2 (by omega)⟩) hS hn
  have s3 := lo3.size
  repeat (first | refine c_region ?_ | refine c_block ?_ | refine c_skip ?_ | refine c_exit ?_ | refine c_ret ?_ | refine n_then ?_ | refine n_block ?_ | refine x_then ?_ | refine x_block_eq ?_ | refine x_block_ne rfl ?_ | refine r_then ?_ | refine r_block ?_ | refine s_nil ?_ | refine c_true rfl ?_ | refine c_false rfl ?_ | refine s_pur (p_move rfl) rfl ?_ | refine s_pur (p_assign rfl) rfl ?_ | refine s_pur (p_nil rfl) rfl ?_ | refine s_pur (p_pick_t rfl rfl) rfl ?_ | refine s_pur (p_pick_f rfl rfl) rfl ?_)
  refine c_mid [(0, .slice va n vc), (3, .slice vb n vd), (4, .pointer (some ⟨h2.size, 0, none⟩))] (fun q => h3 = q) ?_ ?_
  · repeat (first | refine c_seq ?_ | refine c_region ?_ | refine c_block ?_ | refine c_skip ?_ | refine c_exit ?_ | refine c_ret ?_ | refine n_then ?_ | refine n_block ?_ | refine x_then ?_ | refine x_block_eq ?_ | refine x_block_ne rfl ?_ | refine r_then ?_ | refine r_block ?_ | refine s_nil ?_ | refine c_true rfl ?_ | refine c_false rfl ?_ | refine s_pur (p_move rfl) rfl ?_ | refine s_pur (p_assign rfl) rfl ?_ | refine s_pur (p_nil rfl) rfl ?_ | refine s_pur (p_pick_t rfl rfl) rfl ?_ | refine s_pur (p_pick_f rfl rfl) rfl ?_ | refine s_pur (p_pnil rfl rfl Yba.underlying23) rfl ?_)
    exact m_done rfl (by repeat (first | exact Sub.nil | refine Sub.cons rfl ?_))
  rintro _ rfl
  refine c_mid [(0, .slice va n vc), (3, .slice vb n vd)] (fun q => Low h3.size h3 q) ?_ ?_
  · repeat (first | refine c_seq ?_ | refine c_region ?_ | refine c_block ?_ | refine c_skip ?_ | refine c_exit ?_ | refine c_ret ?_ | refine n_then ?_ | refine n_block ?_ | refine x_then ?_ | refine x_block_eq ?_ | refine x_block_ne rfl ?_ | refine r_then ?_ | refine r_block ?_ | refine s_nil ?_ | refine c_true rfl ?_ | refine c_false rfl ?_ | refine s_pur (p_move rfl) rfl ?_ | refine s_pur (p_assign rfl) rfl ?_ | refine s_pur (p_nil rfl) rfl ?_ | refine s_pur (p_pick_t rfl rfl) rfl ?_ | refine s_pur (p_pick_f rfl rfl) rfl ?_)
    refine s_call Yba.call6 rfl rfl hmod ?_
    rintro _ h4 ⟨rfl, lo4, nv4, z4⟩
    have hi3 := lt_of_get z3.1
    have y3 : ZV h4 h2.size h2.size (sumTo S n) nv3 := z3.keep (lo4.same _ hi3) (fun g hg => lo4.same g (nv_lt z3.2 hg).2)
    have y4 : ZV h4 h2.size h3.size (sumTo S n) nv4 := ⟨z4.1, ⟨z4.2.1.mono s3, z4.2.2⟩⟩
    refine s_call Yba.call5 rfl rfl (intCmp_ok h4 h2.size h2.size h3.size (sumTo S n) nv3 nv4 y3 y4 (by omega)) ?_
    rintro _ q0 ⟨rfl, hq0⟩
    obtain rfl : h4 = q0 := hq0.symm
    repeat (first | refine c_seq ?_ | refine c_region ?_ | refine c_block ?_ | refine c_skip ?_ | refine c_exit ?_ | refine c_ret ?_ | refine n_then ?_ | refine n_block ?_ | refine x_then ?_ | refine x_block_eq ?_ | refine x_block_ne rfl ?_ | refine r_then ?_ | refine r_block ?_ | refine s_nil ?_ | refine c_true rfl ?_ | refine c_false rfl ?_ | refine s_pur (p_move rfl) rfl ?_ | refine s_pur (p_assign rfl) rfl ?_ | refine s_pur (p_nil rfl) rfl ?_ | refine s_pur (p_pick_t rfl rfl) rfl ?_ | refine s_pur (p_pick_f rfl rfl) rfl ?_ | refine s_pur (p_lssT rfl rfl (by omega)) rfl ?_ | refine s_pur (p_lssF rfl rfl (by omega)) rfl ?_ | refine s_pur (p_leqT rfl rfl (by omega)) rfl ?_ | refine s_pur (p_leqF rfl rfl (by omega)) rfl ?_ | refine s_pur (p_gtrT rfl rfl (by omega)) rfl ?_ | refine s_pur (p_gtrF rfl rfl (by omega)) rfl ?_ | refine s_pur (p_geqT rfl rfl (by omega)) rfl ?_ | refine s_pur (p_geqF rfl rfl (by omega)) rfl ?_ | refine s_pur (p_eqlT rfl rfl (by omega)) rfl ?_ | refine s_pur (p_eqlF rfl rfl (by omega)) rfl ?_ | refine s_pur (p_neqT rfl rfl (by omega)) rfl ?_ | refine s_pur (p_neqF rfl rfl (by omega)) rfl ?_)
    exact m_done lo4 (by repeat (first | exact Sub.nil | refine Sub.cons rfl ?_))
  rintro h4 lo4
  have lo : Low h2.size h2 h4 := lo3.then lo4
  have q1 := r1.low lo
  have q2 := r2.low lo
  refine c_mid [(0, .slice va n vc), (3, .slice vb n vd)] (fun q => h4 = q) ?_ ?_
  · cases va with
    | none =>
      cases vb with
      | none =>
        repeat (first | refine c_seq ?_ | refine c_region ?_ | refine c_block ?_ | refine c_skip ?_ | refine c_exit ?_ | refine c_ret ?_ | refine n_then ?_ | refine n_block ?_ | refine x_then ?_ | refine x_block_eq ?_ | refine x_block_ne rfl ?_ | refine r_then ?_ | refine r_block ?_ | refine s_nil ?_ | refine c_true rfl ?_ | refine c_false rfl ?_ | refine s_pur (p_move rfl) rfl ?_ | refine s_pur (p_assign rfl) rfl ?_ | refine s_pur (p_nil rfl) rfl ?_ | refine s_pur (p_pick_t rfl rfl) rfl ?_ | refine s_pur (p_pick_f rfl rfl) rfl ?_ | refine s_pur (p_len rfl Yba.underlying22) rfl ?_ | refine s_pur (p_idx rfl rfl rfl (by omega) Yba.underlying22 Yba.sizeOf27) rfl ?_ | refine s_pur (p_slnil rfl rfl Yba.underlying22) rfl ?_ | refine s_pur (p_bneqF (a := true) rfl rfl Yba.underlying4) rfl ?_ | refine s_pur (p_lssT rfl rfl (by omega)) rfl ?_ | refine s_pur (p_lssF rfl rfl (by omega)) rfl ?_ | refine s_pur (p_leqT rfl rfl (by omega)) rfl ?_ | refine s_pur (p_leqF rfl rfl (by omega)) rfl ?_ | refine s_pur (p_gtrT rfl rfl (by omega)) rfl ?_ | refine s_pur (p_gtrF rfl rfl (by omega)) rfl ?_ | refine s_pur (p_geqT rfl rfl (by omega)) rfl ?_ | refine s_pur (p_geqF rfl rfl (by omega)) rfl ?_ | refine s_pur (p_eqlT rfl rfl (by omega)) rfl ?_ | refine s_pur (p_eqlF rfl rfl (by omega)) rfl ?_ | refine s_pur (p_neqT rfl rfl (by omega)) rfl ?_ | refine s_pur (p_neqF rfl rfl (by omega)) rfl ?_ | refine s_skip rfl rfl rfl ?_ | refine s_skip' rfl rfl rfl ?_ | refine s_pur_g rfl (p_move rfl) rfl ?_ | refine s_pur_g rfl (p_assign rfl) rfl ?_ | refine s_pur_g rfl (p_nil rfl) rfl ?_ | refine s_pur_g rfl (p_pick_t rfl rfl) rfl ?_ | refine s_pur_g rfl (p_pick_f rfl rfl) rfl ?_ | refine s_pur_g rfl (p_len rfl Yba.underlying22) rfl ?_ | refine s_pur_g rfl (p_idx rfl rfl rfl (by omega) Yba.underlying22 Yba.sizeOf27) rfl ?_ | refine s_pur_g rfl (p_slnil rfl rfl Yba.underlying22) rfl ?_ | refine s_pur_g rfl (p_bneqF (a := true) rfl rfl Yba.underlying4) rfl ?_ | refine s_pur_g rfl (p_lssT rfl rfl (by omega)) rfl ?_ | refine s_pur_g rfl (p_lssF rfl rfl (by omega)) rfl ?_ | refine s_pur_g rfl (p_leqT rfl rfl (by omega)) rfl ?_ | refine s_pur_g rfl (p_leqF rfl rfl (by omega)) rfl ?_ | refine s_pur_g rfl (p_gtrT rfl rfl (by omega)) rfl ?_ | refine s_pur_g rfl (p_gtrF rfl rfl (by omega)) rfl ?_ | refine s_pur_g rfl (p_geqT rfl rfl (by omega)) rfl ?_ | refine s_pur_g rfl (p_geqF rfl rfl (by omega)) rfl ?_ | refine s_pur_g rfl (p_eqlT rfl rfl (by omega)) rfl ?_ | refine s_pur_g rfl (p_eqlF rfl rfl (by omega)) rfl ?_ | refine s_pur_g rfl (p_neqT rfl rfl (by omega)) rfl ?_ | refine s_pur_g rfl (p_neqF rfl rfl (by omega)) rfl ?_)
        exact m_done rfl (by repeat (first | exact Sub.nil | refine Sub.cons rfl ?_))
      | some y => simp at hnil
    | some x =>
      cases vb with
      | none => simp at hnil
      | some y =>
        repeat (first | refine c_seq ?_ | refine c_region ?_ | refine c_block ?_ | refine c_skip ?_ | refine c_exit ?_ | refine c_ret ?_ | refine n_then ?_ | refine n_block ?_ | refine x_then ?_ | refine x_block_eq ?_ | refine x_block_ne rfl ?_ | refine r_then ?_ | refine r_block ?_ | refine s_nil ?_ | refine c_true rfl ?_ | refine c_false rfl ?_ | refine s_pur (p_move rfl) rfl ?_ | refine s_pur (p_assign rfl) rfl ?_ | refine s_pur (p_nil rfl) rfl ?_ | refine s_pur (p_pick_t rfl rfl) rfl ?_ | refine s_pur (p_pick_f rfl rfl) rfl ?_ | refine s_pur (p_len rfl Yba.underlying22) rfl ?_ | refine s_pur (p_idx rfl rfl rfl (by omega) Yba.underlying22 Yba.sizeOf27) rfl ?_ | refine s_pur (p_slnil rfl rfl Yba.underlying22) rfl ?_ | refine s_pur (p_bneqF (a := false) rfl rfl Yba.underlying4) rfl ?_ | refine s_pur (p_lssT rfl rfl (by omega)) rfl ?_ | refine s_pur (p_lssF rfl rfl (by omega)) rfl ?_ | refine s_pur (p_leqT rfl rfl (by omega)) rfl ?_ | refine s_pur (p_leqF rfl rfl (by omega)) rfl ?_ | refine s_pur (p_gtrT rfl rfl (by omega)) rfl ?_ | refine s_pur (p_gtrF rfl rfl (by omega)) rfl ?_ | refine s_pur (p_geqT rfl rfl (by omega)) rfl ?_ | refine s_pur (p_geqF rfl rfl (by omega)) rfl ?_ | refine s_pur (p_eqlT rfl rfl (by omega)) rfl ?_ | refine s_pur (p_eqlF rfl rfl (by omega)) rfl ?_ | refine s_pur (p_neqT rfl rfl (by omega)) rfl ?_ | refine s_pur (p_neqF rfl rfl (by omega)) rfl ?_ | refine s_skip rfl rfl rfl ?_ | refine s_skip' rfl rfl rfl ?_ | refine s_pur_g rfl (p_move rfl) rfl ?_ | refine s_pur_g rfl (p_assign rfl) rfl ?_ | refine s_pur_g rfl (p_nil rfl) rfl ?_ | refine s_pur_g rfl (p_pick_t rfl rfl) rfl ?_ | refine s_pur_g rfl (p_pick_f rfl rfl) rfl ?_ | refine s_pur_g rfl (p_len rfl Yba.underlying22) rfl ?_ | refine s_pur_g rfl (p_idx rfl rfl rfl (by omega) Yba.underlying22 Yba.sizeOf27) rfl ?_ | refine s_pur_g rfl (p_slnil rfl rfl Yba.underlying22) rfl ?_ | refine s_pur_g rfl (p_bneqF (a := false) rfl rfl Yba.underlying4) rfl ?_ | refine s_pur_g rfl (p_lssT rfl rfl (by omega)) rfl ?_ | refine s_pur_g rfl (p_lssF rfl rfl (by omega)) rfl ?_ | refine s_pur_g rfl (p_leqT rfl rfl (by omega)) rfl ?_ | refine s_pur_g rfl (p_leqF rfl rfl (by omega)) rfl ?_ | refine s_pur_g rfl (p_gtrT rfl rfl (by omega)) rfl ?_ | refine s_pur_g rfl (p_gtrF rfl rfl (by omega)) rfl ?_ | refine s_pur_g rfl (p_geqT rfl rfl (by omega)) rfl ?_ | refine s_pur_g rfl (p_geqF rfl rfl (by omega)) rfl ?_ | refine s_pur_g rfl (p_eqlT rfl rfl (by omega)) rfl ?_ | refine s_pur_g rfl (p_eqlF rfl rfl (by omega)) rfl ?_ | refine s_pur_g rfl (p_neqT rfl rfl (by omega)) rfl ?_ | refine s_pur_g rfl (p_neqF rfl rfl (by omega)) rfl ?_)
        exact m_done rfl (by repeat (first | exact Sub.nil | refine Sub.cons rfl ?_))
  rintro _ rfl
  refine c_mid [(0, .slice va n vc)] (fun q => h4 = q) ?_ ?_
  · repeat (first | refine c_seq ?_ | refine c_region ?_ | refine c_block ?_ | refine c_skip ?_ | refine c_exit ?_ | refine c_ret ?_ | refine n_then ?_ | refine n_block ?_ | refine x_then ?_ | refine x_block_eq ?_ | refine x_block_ne rfl ?_ | refine r_then ?_ | refine r_block ?_ | refine s_nil ?_ | refine c_true rfl ?_ | refine c_false rfl ?_ | refine s_pur (p_move rfl) rfl ?_ | refine s_pur (p_assign rfl) rfl ?_ | refine s_pur (p_nil rfl) rfl ?_ | refine s_pur (p_pick_t rfl rfl) rfl ?_ | refine s_pur (p_pick_f rfl rfl) rfl ?_)
    refine c_loop (fun k : Nat => [(0, .slice va n vc), (3, .slice vb n vd), (5, .int .i64 k)]) (fun k q => k ≤ n ∧ h4 = q) (fun k => n - k) 0 ⟨by omega, rfl⟩ (by repeat (first | exact Sub.nil | refine Sub.cons rfl ?_)) ?_
    rintro k _ ⟨hk, rfl⟩
    by_cases hlt : k < n
    · obtain ⟨b, o, rfl, c1⟩ := q1 k hlt
      obtain ⟨b', o', rfl, c2⟩ := q2 k hlt
      have d1 : ∀ t, t < 4 → hc h4 b (o + k * 4 + t) = ([.string (P k), .string (G k), .int .i64 (S k), .int .i64 (L k)] : List Value)[t]? := fun t ht => by rw [c1 t ht, cellOf_get P G S L k t ht]
      have d2 : ∀ t, t < 4 → hc h4 b' (o' + k * 4 + t) = ([.string (P k), .string (G k), .int .i64 (S k), .int .i64 (L k)] : List Value)[t]? := fun t ht => by rw [c2 t ht, cellOf_get P G S L k t ht]
      repeat (first | refine c_seq ?_ | refine c_region ?_ | refine c_block ?_ | refine c_skip ?_ | refine c_exit ?_ | refine c_ret ?_ | refine n_then ?_ | refine n_block ?_ | refine x_then ?_ | refine x_block_eq ?_ | refine x_block_ne rfl ?_ | refine r_then ?_ | refine r_block ?_ | refine s_nil ?_ | refine c_true rfl ?_ | refine c_false rfl ?_ | refine s_pur (p_move rfl) rfl ?_ | refine s_pur (p_assign rfl) rfl ?_ | refine s_pur (p_nil rfl) rfl ?_ | refine s_pur (p_pick_t rfl rfl) rfl ?_ | refine s_pur (p_pick_f rfl rfl) rfl ?_ | refine s_pur (p_len rfl Yba.underlying22) rfl ?_ | refine s_pur (p_idx rfl rfl rfl (by omega) Yba.underlying22 Yba.sizeOf27) rfl ?_ | refine s_pur (p_lssT rfl rfl (by omega)) rfl ?_ | refine s_pur (p_lssF rfl rfl (by omega)) rfl ?_ | refine s_pur (p_leqT rfl rfl (by omega)) rfl ?_ | refine s_pur (p_leqF rfl rfl (by omega)) rfl ?_ | refine s_pur (p_gtrT rfl rfl (by omega)) rfl ?_ | refine s_pur (p_gtrF rfl rfl (by omega)) rfl ?_ | refine s_pur (p_geqT rfl rfl (by omega)) rfl ?_ | refine s_pur (p_geqF rfl rfl (by omega)) rfl ?_ | refine s_pur (p_eqlT rfl rfl (by omega)) rfl ?_ | refine s_pur (p_eqlF rfl rfl (by omega)) rfl ?_ | refine s_pur (p_neqT rfl rfl (by omega)) rfl ?_ | refine s_pur (p_neqF rfl rfl (by omega)) rfl ?_)
      refine c_quiet followsM (by kernel_rfl) ?_
      intro w1 hw1
      repeat (first | refine q_nil hw1 ?_ | refine c_seq ?_ | refine c_region ?_ | refine c_block ?_ | refine c_skip ?_ | refine c_exit ?_ | refine c_ret ?_ | refine n_then ?_ | refine n_block ?_ | refine x_then ?_ | refine x_block_eq ?_ | refine x_block_ne rfl ?_ | refine r_then ?_ | refine r_block ?_ | refine s_nil ?_ | refine c_true rfl ?_ | refine c_false rfl ?_ | refine q_pur hw1 (p_move rfl) rfl ?_ | refine q_pur hw1 (p_assign rfl) rfl ?_ | refine q_pur hw1 (p_nil rfl) rfl ?_ | refine q_pur hw1 (p_pick_t rfl rfl) rfl ?_ | refine q_pur hw1 (p_pick_f rfl rfl) rfl ?_ | refine q_pur hw1 (p_len rfl Yba.underlying22) rfl ?_ | refine q_pur hw1 (p_idx rfl rfl rfl (by omega) Yba.underlying22 Yba.sizeOf27) rfl ?_ | refine q_pur hw1 (p_loadA (vs := [.string (P k), .string (G k), .int .i64 (S k), .int .i64 (L k)]) rfl Yba.isAgg27 Yba.sizeOf27 rfl d1) rfl ?_ | refine q_pur hw1 (p_loadA (vs := [.string (P k), .string (G k), .int .i64 (S k), .int .i64 (L k)]) rfl Yba.isAgg27 Yba.sizeOf27 rfl d2) rfl ?_ | refine q_pur hw1 (p_neq27 rfl rfl) rfl ?_ | refine q_skip rfl rfl rfl ?_ | refine q_skip' rfl rfl rfl ?_ | refine q_pur_g hw1 rfl (p_move rfl) rfl ?_ | refine q_pur_g hw1 rfl (p_assign rfl) rfl ?_ | refine q_pur_g hw1 rfl (p_nil rfl) rfl ?_ | refine q_pur_g hw1 rfl (p_pick_t rfl rfl) rfl ?_ | refine q_pur_g hw1 rfl (p_pick_f rfl rfl) rfl ?_ | refine q_pur_g hw1 rfl (p_len rfl Yba.underlying22) rfl ?_ | refine q_pur_g hw1 rfl (p_idx rfl rfl rfl (by omega) Yba.underlying22 Yba.sizeOf27) rfl ?_ | refine q_pur_g hw1 rfl (p_loadA (vs := [.string (P k), .string (G k), .int .i64 (S k), .int .i64 (L k)]) rfl Yba.isAgg27 Yba.sizeOf27 rfl d1) rfl ?_ | refine q_pur_g hw1 rfl (p_loadA (vs := [.string (P k), .string (G k), .int .i64 (S k), .int .i64 (L k)]) rfl Yba.isAgg27 Yba.sizeOf27 rfl d2) rfl ?_ | refine q_pur_g hw1 rfl (p_neq27 rfl rfl) rfl ?_)
      repeat (first | refine c_seq ?_ | refine c_region ?_ | refine c_block ?_ | refine c_skip ?_ | refine c_exit ?_ | refine c_ret ?_ | refine n_then ?_ | refine n_block ?_ | refine x_then ?_ | refine x_block_eq ?_ | refine x_block_ne rfl ?_ | refine r_then ?_ | refine r_block ?_ | refine s_nil ?_ | refine c_true rfl ?_ | refine c_false rfl ?_ | refine s_pur (p_move rfl) rfl ?_ | refine s_pur (p_assign rfl) rfl ?_ | refine s_pur (p_nil rfl) rfl ?_ | refine s_pur (p_pick_t rfl rfl) rfl ?_ | refine s_pur (p_pick_f rfl rfl) rfl ?_ | refine s_pur (p_add rfl rfl rfl (by omega) (by omega)) rfl ?_)
      exact c_next (k + 1) ⟨hlt, rfl⟩ (by repeat (first | exact Sub.nil | refine Sub.cons rfl ?_)) (by omega)
    · repeat (first | refine c_seq ?_ | refine c_region ?_ | refine c_block ?_ | refine c_skip ?_ | refine c_exit ?_ | refine c_ret ?_ | refine n_then ?_ | refine n_block ?_ | refine x_then ?_ | refine x_block_eq ?_ | refine x_block_ne rfl ?_ | refine r_then ?_ | refine r_block ?_ | refine s_nil ?_ | refine c_true rfl ?_ | refine c_false rfl ?_ | refine s_pur (p_move rfl) rfl ?_ | refine s_pur (p_assign rfl) rfl ?_ | refine s_pur (p_nil rfl) rfl ?_ | refine s_pur (p_pick_t rfl rfl) rfl ?_ | refine s_pur (p_pick_f rfl rfl) rfl ?_ | refine s_pur (p_len rfl Yba.underlying22) rfl ?_ | refine s_pur (p_idx rfl rfl rfl (by omega) Yba.underlying22 Yba.sizeOf27) rfl ?_ | refine s_pur (p_lssT rfl rfl (by omega)) rfl ?_ | refine s_pur (p_lssF rfl rfl (by omega)) rfl ?_ | refine s_pur (p_leqT rfl rfl (by omega)) rfl ?_ | refine s_pur (p_leqF rfl rfl (by omega)) rfl ?_ | refine s_pur (p_gtrT rfl rfl (by omega)) rfl ?_ | refine s_pur (p_gtrF rfl rfl (by omega)) rfl ?_ | refine s_pur (p_geqT rfl rfl (by omega)) rfl ?_ | refine s_pur (p_geqF rfl rfl (by omega)) rfl ?_ | refine s_pur (p_eqlT rfl rfl (by omega)) rfl ?_ | refine s_pur (p_eqlF rfl rfl (by omega)) rfl ?_ | refine s_pur (p_neqT rfl rfl (by omega)) rfl ?_ | refine s_pur (p_neqF rfl rfl (by omega)) rfl ?_)
      exact m_done rfl (by repeat (first | exact Sub.nil | refine Sub.cons rfl ?_))
  rintro _ rfl
  repeat (first | refine c_seq ?_ | refine c_region ?_ | refine c_block ?_ | refine c_skip ?_ | refine c_exit ?_ | refine c_ret ?_ | refine n_then ?_ | refine n_block ?_ | refine x_then ?_ | refine x_block_eq ?_ | refine x_block_ne rfl ?_ | refine r_then ?_ | refine r_block ?_ | refine s_nil ?_ | refine c_true rfl ?_ | refine c_false rfl ?_ | refine s_pur (p_move rfl) rfl ?_ | refine s_pur (p_assign rfl) rfl ?_ | refine s_pur (p_nil rfl) rfl ?_ | refine s_pur (p_pick_t rfl rfl) rfl ?_ | refine s_pur (p_pick_f rfl rfl) rfl ?_)
  exact ret1 Yba.results3 rfl (hR h4 lo)
end Go.Proofs.Ybulkdirs
