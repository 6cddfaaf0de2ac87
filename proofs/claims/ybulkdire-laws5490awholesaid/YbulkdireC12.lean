/-
  C12: table.LawS5490AWhole.
-/
import Derived.Test.YbulkdireC11
namespace Go.Proofs.Ybulkdire
set_option linter.unusedSimpArgs false
set_option linter.unusedVariables false
set_option linter.unnecessarySimpa false
open Go Go.RowKit V
set_option maxRecDepth 100000

theorem V.p_slneq {P : Program} {l : Env} {h : Heap} {ty : TypeId} {x y : Operand} {t t2 e : TypeId} {a : Option Addr} {n c : Nat} (hx : ev l x = some (.slice a n c)) (hy : ev l y = some (.slice none 0 0)) (hu : P.underlying t = some (.slice e)) :
    Pur P (.binOp .neq t x y t2) ty l h (.bool (!a.isNone)) := by
  refine ⟨fun ρ w d p af g hρ hw => ?_⟩
  have he : (Op.equal t (.slice a n c) (.slice none 0 0)).run P w = .ok a.isNone w := run_equal fun d => by
    cases a <;> simp [Op.equalIn, run_underlying hu]
  simp [execOp, hρ _ _ hx, hρ _ _ hy, eqGuard, binOp, he]

theorem info5 : ∃ i, Yba.prog.info? 5 = some i ∧ i.zero = some (.int .u8 0) ∧ i.size = 1 ∧ i.bytes = 1 := info_parts (by kernel_rfl)

def stp (Z : Nat → Nat → Nat) (i : Nat) : List Value := [.int .u8 (Z i 0 : Nat), .int .u8 (Z i 1 : Nat), .int .u8 (Z i 2 : Nat), .int .u8 (Z i 3 : Nat)]
/-- The steps as they came in. -/
def StepsIn (h : Heap) (va : Option Addr) (n : Nat) (Z : Nat → Nat → Nat) : Prop :=
  ∀ i, i < n → ∃ b o, va = some ⟨b, o, none⟩ ∧ ∀ t, t < 4 → hc h b (o + i * 4 + t) = (stp Z i)[t]?

/-- What a round starts from. -/
structure Inv (h : Heap) (cap k n : Nat) (E : Nat → Ent) (v : Value) (q : Heap) : Prop where
  low : Low h.size h q
  full : Full q h.size (h.size + 1) h.size (h.size + 2) cap n E
  mv : MV q v n E
  nk : n ≤ k
theorem Frm.lowOf {base : Nat} {h h1 h2 : Heap} (a : Low base h h1) (f : Frm base h1 h2) : Low base h h2 := a.trans f.toLow

theorem u8small (z : Int) : ∃ m : Nat, IntKind.u8.wrap z = (m : Int) ∧ m < 256 := by
  have h1 : 0 ≤ IntKind.u8.wrap z ∧ IntKind.u8.wrap z < 256 := by
    simp only [IntKind.wrap, IntKind.bits, IntKind.signed]; simp; omega
  exact ⟨(IntKind.u8.wrap z).toNat, by omega, by omega⟩

abbrev envL (va : Option Addr) (ns vc : Nat) (id off : Int) (cap cb : Nat) (v : Value) (tot : Nat) (k : Nat) : Env :=
  [(2, .int .u64 id), (3, .int .i64 off), (12, .int .i64 (cap : Int)), (13, .pointer (some ⟨cb, 0, none⟩)), (14, v), (15, .int .i64 (tot : Int)), (46, .slice va ns vc), (47, .int .i64 (ns : Int)), (48, .int .i64 (k : Int))]

set_option maxHeartbeats 8000000 in
/-- The arm that adds. -/
theorem armAdd {h q : Heap} {va : Option Addr} {ns vc cap k n stb : Nat} {id off : Int} {kid koff : Nat} {Z : Nat → Nat → Nat} {E : Nat → Ent} {v : Value} {w0 : World} {Q : Exit → Act → World → Prop} (hk : k < ns) (hns : ns ≤ 65536) (iv : Inv h cap k n E v q) (hcap : cap < 1000)
    (hst : q[stb]? = some (.cells (stp Z k).toArray 31 (0, 0))) (hZ : ∀ t, Z k t < 256)
    (hK : ∀ n' E' v' q', Inv h cap (k + 1) n' E' v' q' → V.Fin 118 w0 (XW Q .normal) (envL va ns vc id off cap (h.size + 1) v' (sumL n' E') k) q') :
    V.Fin 118 w0 (CW Yba.prog (V.sub (Yba.f3.body.getD .skip) [1, 1, 1, 1, 1, 1, 1, 1, 0, 1, 0, 0, 1, 1, 0, 0, 1, 1, 1, 1, 0]) Q) ((16, .int .i64 (k : Int)) :: (17, .pointer (some ⟨stb, 0, none⟩)) :: (18, .int .u64 (kid : Int)) :: (19, .int .i64 (koff : Int)) :: envL va ns vc id off cap (h.size + 1) v (sumL n E) k) q := by
  have hnk := iv.nk
  obtain ⟨i5, hi5, hz5, hs5, hb5⟩ := info5
  have l3 : hc q stb (0 + 3) = some (.int .u8 ((Z k 3 : Nat) : Int)) := by rw [hc_of hst]; rfl
  have hz3 := hZ 3
  have hlen : Z k 3 % 64 < 64 := Nat.mod_lt _ (by omega)
  generalize hle : Z k 3 % 64 = len at hlen
  refine c_mid ((16, .int .i64 (k : Int)) :: (18, .int .u64 (kid : Int)) :: (19, .int .i64 (koff : Int)) :: (20, .slice (some ⟨q.size, 0, none⟩) len len) :: envL va ns vc id off cap (h.size + 1) v (sumL n E) k) (fun x => Kp q x ∧ Byt x q.size len) ?_ ?_
  · repeat (first | refine c_seq ?_ | refine c_region ?_ | refine c_block ?_ | refine c_skip ?_ | refine c_exit ?_ | refine c_ret ?_ | refine n_then ?_ | refine n_block ?_ | refine x_then ?_ | refine x_block_eq ?_ | refine x_block_ne rfl ?_ | refine r_then ?_ | refine r_block ?_ | refine s_nil ?_ | refine c_true rfl ?_ | refine c_false rfl ?_ | refine s_pur (p_move rfl) rfl ?_ | refine s_pur (p_assign rfl) rfl ?_ | refine s_pur (p_nil rfl) rfl ?_ | refine s_pur (p_pick_t rfl rfl) rfl ?_ | refine s_pur (p_pick_f rfl rfl) rfl ?_ | refine s_pur (p_fld (off := 3) rfl Yba.underlying31 rfl Yba.sizeOf5 rfl) rfl ?_ | refine s_pur (p_load rfl Yba.isAgg5 (by assumption)) rfl ?_ | refine s_pur (p_remN (n := 64) (r := len) rfl rfl (by omega) hle) rfl ?_ | refine s_pur (p_conv64 rfl Yba.underlying5 Yba.underlying3 (by omega) (by omega)) rfl ?_)
    refine s_eff (e_make (n := len) (c := len) rfl rfl Yba.underlying25 hi5 hz5 (by omega) (by rw [hb5]; omega) (by omega)) rfl ?_
    rintro _ x ⟨rfl, nx⟩
    repeat (first | refine c_seq ?_ | refine c_region ?_ | refine c_block ?_ | refine c_skip ?_ | refine c_exit ?_ | refine c_ret ?_ | refine n_then ?_ | refine n_block ?_ | refine x_then ?_ | refine x_block_eq ?_ | refine x_block_ne rfl ?_ | refine r_then ?_ | refine r_block ?_ | refine s_nil ?_ | refine c_true rfl ?_ | refine c_false rfl ?_ | refine s_pur (p_move rfl) rfl ?_ | refine s_pur (p_assign rfl) rfl ?_ | refine s_pur (p_nil rfl) rfl ?_ | refine s_pur (p_pick_t rfl rfl) rfl ?_ | refine s_pur (p_pick_f rfl rfl) rfl ?_)
    refine m_done ⟨Kp.of nx, _, nx.at_, by simp [madeCells, hs5], fun j hj => ⟨0, ?_, by omega⟩⟩ (by repeat (first | exact Sub.nil | refine Sub.cons rfl ?_))
    rw [madeCells_get _ _ _ (by rw [hs5]; omega)]
    simp [Value.cells, Nat.mod_one]
  rintro h1 ⟨kp1, by1⟩
  refine c_mid ((18, .int .u64 (kid : Int)) :: (19, .int .i64 (koff : Int)) :: (20, .slice (some ⟨q.size, 0, none⟩) len len) :: envL va ns vc id off cap (h.size + 1) v (sumL n E) k) (fun x => Kp q x ∧ Byt x q.size len) ?_ ?_
  · repeat (first | refine c_seq ?_ | refine c_region ?_ | refine c_block ?_ | refine c_skip ?_ | refine c_exit ?_ | refine c_ret ?_ | refine n_then ?_ | refine n_block ?_ | refine x_then ?_ | refine x_block_eq ?_ | refine x_block_ne rfl ?_ | refine r_then ?_ | refine r_block ?_ | refine s_nil ?_ | refine c_true rfl ?_ | refine c_false rfl ?_ | refine s_pur (p_move rfl) rfl ?_ | refine s_pur (p_assign rfl) rfl ?_ | refine s_pur (p_nil rfl) rfl ?_ | refine s_pur (p_pick_t rfl rfl) rfl ?_ | refine s_pur (p_pick_f rfl rfl) rfl ?_)
    refine c_loop (fun j : Nat => (16, .int .i64 (k : Int)) :: (18, .int .u64 (kid : Int)) :: (19, .int .i64 (koff : Int)) :: (20, .slice (some ⟨q.size, 0, none⟩) len len) :: (21, .int .i64 (j : Int)) :: envL va ns vc id off cap (h.size + 1) v (sumL n E) k)
      (fun j x => j ≤ len ∧ Kp q x ∧ Byt x q.size len) (fun j => len - j) 0 ⟨by omega, kp1, by1⟩ (by repeat (first | exact Sub.nil | refine Sub.cons rfl ?_)) ?_
    rintro j x ⟨hj, kx, bx⟩
    by_cases hlt : j < len
    · obtain ⟨z, hz, hz'⟩ := u8small ((k : Int) + (j : Int))
      obtain ⟨c, hc1, hc2, hc3⟩ := bx
      repeat (first | refine c_seq ?_ | refine c_region ?_ | refine c_block ?_ | refine c_skip ?_ | refine c_exit ?_ | refine c_ret ?_ | refine n_then ?_ | refine n_block ?_ | refine x_then ?_ | refine x_block_eq ?_ | refine x_block_ne rfl ?_ | refine r_then ?_ | refine r_block ?_ | refine s_nil ?_ | refine c_true rfl ?_ | refine c_false rfl ?_ | refine s_pur (p_move rfl) rfl ?_ | refine s_pur (p_assign rfl) rfl ?_ | refine s_pur (p_nil rfl) rfl ?_ | refine s_pur (p_pick_t rfl rfl) rfl ?_ | refine s_pur (p_pick_f rfl rfl) rfl ?_ | refine s_pur (p_len rfl Yba.underlying25) rfl ?_ | refine s_pur (p_idx1 rfl rfl rfl (by omega) Yba.underlying25 Yba.sizeOf5) rfl ?_ | refine s_pur (p_add rfl rfl rfl (by omega) (by omega)) rfl ?_ | refine s_pur (hz ▸ p_conv rfl Yba.underlying3 Yba.underlying5 : Pur Yba.prog (.convert 3 5 (.tmp 80)) _ _ _ (.int .u8 (z : Int))) rfl ?_ | refine s_pur (p_lssT rfl rfl (by omega)) rfl ?_ | refine s_pur (p_lssF rfl rfl (by omega)) rfl ?_ | refine s_pur (p_leqT rfl rfl (by omega)) rfl ?_ | refine s_pur (p_leqF rfl rfl (by omega)) rfl ?_ | refine s_pur (p_gtrT rfl rfl (by omega)) rfl ?_ | refine s_pur (p_gtrF rfl rfl (by omega)) rfl ?_ | refine s_pur (p_geqT rfl rfl (by omega)) rfl ?_ | refine s_pur (p_geqF rfl rfl (by omega)) rfl ?_ | refine s_pur (p_eqlT rfl rfl (by omega)) rfl ?_ | refine s_pur (p_eqlF rfl rfl (by omega)) rfl ?_ | refine s_pur (p_neqT rfl rfl (by omega)) rfl ?_ | refine s_pur (p_neqF rfl rfl (by omega)) rfl ?_)
      refine s_eff0 (e_wr rfl rfl rfl Yba.sizeOf5 ⟨c, hc1, hc2⟩ (by omega)) ?_
      intro _ y wy
      repeat (first | refine c_seq ?_ | refine c_region ?_ | refine c_block ?_ | refine c_skip ?_ | refine c_exit ?_ | refine c_ret ?_ | refine n_then ?_ | refine n_block ?_ | refine x_then ?_ | refine x_block_eq ?_ | refine x_block_ne rfl ?_ | refine r_then ?_ | refine r_block ?_ | refine s_nil ?_ | refine c_true rfl ?_ | refine c_false rfl ?_ | refine s_pur (p_move rfl) rfl ?_ | refine s_pur (p_assign rfl) rfl ?_ | refine s_pur (p_nil rfl) rfl ?_ | refine s_pur (p_pick_t rfl rfl) rfl ?_ | refine s_pur (p_pick_f rfl rfl) rfl ?_ | refine s_pur (p_add rfl rfl rfl (by omega) (by omega)) rfl ?_)
      have kp2 : Kp q y := ⟨by rw [wy.size]; exact kx.size, fun b hb => by rw [wy.other b (by omega)]; exact kx.same b hb⟩
      refine c_next (j + 1) ⟨hlt, kp2, ?_⟩ (by repeat (first | exact Sub.nil | refine Sub.cons rfl ?_)) (by omega)
      obtain ⟨c', hc1', hc2'⟩ := wy.blk _ _ _ ⟨c, hc1, hc2⟩
      refine ⟨c', hc1', hc2', fun t ht => ?_⟩
      by_cases htj : t = j
      · subst htj
        have := wy.at_
        rw [hc_of hc1', Nat.zero_add] at this
        exact ⟨z, this, hz'⟩
      · have := wy.cell q.size t (fun ⟨_, e⟩ => htj (by omega))
        rw [hc_of hc1', hc_of hc1] at this
        rw [this]
        exact hc3 t ht
    · repeat (first | refine c_seq ?_ | refine c_region ?_ | refine c_block ?_ | refine c_skip ?_ | refine c_exit ?_ | refine c_ret ?_ | refine n_then ?_ | refine n_block ?_ | refine x_then ?_ | refine x_block_eq ?_ | refine x_block_ne rfl ?_ | refine r_then ?_ | refine r_block ?_ | refine s_nil ?_ | refine c_true rfl ?_ | refine c_false rfl ?_ | refine s_pur (p_move rfl) rfl ?_ | refine s_pur (p_assign rfl) rfl ?_ | refine s_pur (p_nil rfl) rfl ?_ | refine s_pur (p_pick_t rfl rfl) rfl ?_ | refine s_pur (p_pick_f rfl rfl) rfl ?_ | refine s_pur (p_len rfl Yba.underlying25) rfl ?_ | refine s_pur (p_idx1 rfl rfl rfl (by omega) Yba.underlying25 Yba.sizeOf5) rfl ?_ | refine s_pur (p_lssT rfl rfl (by omega)) rfl ?_ | refine s_pur (p_lssF rfl rfl (by omega)) rfl ?_ | refine s_pur (p_leqT rfl rfl (by omega)) rfl ?_ | refine s_pur (p_leqF rfl rfl (by omega)) rfl ?_ | refine s_pur (p_gtrT rfl rfl (by omega)) rfl ?_ | refine s_pur (p_gtrF rfl rfl (by omega)) rfl ?_ | refine s_pur (p_geqT rfl rfl (by omega)) rfl ?_ | refine s_pur (p_geqF rfl rfl (by omega)) rfl ?_ | refine s_pur (p_eqlT rfl rfl (by omega)) rfl ?_ | refine s_pur (p_eqlF rfl rfl (by omega)) rfl ?_ | refine s_pur (p_neqT rfl rfl (by omega)) rfl ?_ | refine s_pur (p_neqF rfl rfl (by omega)) rfl ?_)
      exact m_done ⟨kx, bx⟩ (by repeat (first | exact Sub.nil | refine Sub.cons rfl ?_))
  rintro h2 ⟨kp2, by2⟩
  have sz0 := iv.low.size
  have sz2 := kp2.size
  have fu2 := iv.full.kp kp2
  have mv2 := iv.mv.kp kp2
  have lo2 : Low h.size h h2 := Frm.lowOf iv.low (kp2.frm sz0)
  have hsum : sumL n E ≤ cap := iv.full.2
  refine c_mid ((18, .int .u64 (kid : Int)) :: (19, .int .i64 (koff : Int)) :: (20, .slice (some ⟨q.size, 0, none⟩) len len) :: envL va ns vc id off cap (h.size + 1) v (sumL n E) k) (fun x => AddRes h2 h.size (h.size + 1) h.size (h.size + 2) cap n len q.size E kid koff (.tuple #[]) x) ?_ ?_
  · repeat (first | refine c_seq ?_ | refine c_region ?_ | refine c_block ?_ | refine c_skip ?_ | refine c_exit ?_ | refine c_ret ?_ | refine n_then ?_ | refine n_block ?_ | refine x_then ?_ | refine x_block_eq ?_ | refine x_block_ne rfl ?_ | refine r_then ?_ | refine r_block ?_ | refine s_nil ?_ | refine c_true rfl ?_ | refine c_false rfl ?_ | refine s_pur (p_move rfl) rfl ?_ | refine s_pur (p_assign rfl) rfl ?_ | refine s_pur (p_nil rfl) rfl ?_ | refine s_pur (p_pick_t rfl rfl) rfl ?_ | refine s_pur (p_pick_f rfl rfl) rfl ?_)
    refine s_call Yba.call6 rfl rfl (add_ok h2 h.size (h.size + 1) h.size (h.size + 2) cap n len q.size E kid koff fu2 by2 hcap hlen (by omega)) ?_
    intro u x hx
    have hu := hx.1
    rw [hu] at hx
    repeat (first | refine c_seq ?_ | refine c_region ?_ | refine c_block ?_ | refine c_skip ?_ | refine c_exit ?_ | refine c_ret ?_ | refine n_then ?_ | refine n_block ?_ | refine x_then ?_ | refine x_block_eq ?_ | refine x_block_ne rfl ?_ | refine r_then ?_ | refine r_block ?_ | refine s_nil ?_ | refine c_true rfl ?_ | refine c_false rfl ?_ | refine s_pur (p_move rfl) rfl ?_ | refine s_pur (p_assign rfl) rfl ?_ | refine s_pur (p_nil rfl) rfl ?_ | refine s_pur (p_pick_t rfl rfl) rfl ?_ | refine s_pur (p_pick_f rfl rfl) rfl ?_)
    exact m_done hx (by repeat (first | exact Sub.nil | refine Sub.cons rfl ?_))
  rintro h3 ⟨_, f3, ha⟩
  have mv3 := mv2.frm f3
  have sz3 := f3.size
  repeat (first | refine c_seq ?_ | refine c_region ?_ | refine c_block ?_ | refine c_skip ?_ | refine c_exit ?_ | refine c_ret ?_ | refine n_then ?_ | refine n_block ?_ | refine x_then ?_ | refine x_block_eq ?_ | refine x_block_ne rfl ?_ | refine r_then ?_ | refine r_block ?_ | refine s_nil ?_ | refine c_true rfl ?_ | refine c_false rfl ?_ | refine s_pur (p_move rfl) rfl ?_ | refine s_pur (p_assign rfl) rfl ?_ | refine s_pur (p_nil rfl) rfl ?_ | refine s_pur (p_pick_t rfl rfl) rfl ?_ | refine s_pur (p_pick_f rfl rfl) rfl ?_)
  refine s_call Yba.call7 rfl rfl (zadd_ok h3 cap n len q.size E kid koff v mv3 (by omega) hsum hcap hlen) ?_
  rintro u h4 ⟨kp4, hz⟩
  have lo4 : Low h.size h h4 := Frm.lowOf (Frm.lowOf lo2 f3) (kp4.frm (by omega))
  rcases ha with ⟨hearly, fu3⟩ | ⟨hle', hno, nb, fu3⟩
  · rcases hz with ⟨_, rfl⟩ | ⟨hle', hno, _⟩
    · repeat (first | refine c_seq ?_ | refine c_region ?_ | refine c_block ?_ | refine c_skip ?_ | refine c_exit ?_ | refine c_ret ?_ | refine n_then ?_ | refine n_block ?_ | refine x_then ?_ | refine x_block_eq ?_ | refine x_block_ne rfl ?_ | refine r_then ?_ | refine r_block ?_ | refine s_nil ?_ | refine c_true rfl ?_ | refine c_false rfl ?_ | refine s_pur (p_move rfl) rfl ?_ | refine s_pur (p_assign rfl) rfl ?_ | refine s_pur (p_nil rfl) rfl ?_ | refine s_pur (p_pick_t rfl rfl) rfl ?_ | refine s_pur (p_pick_f rfl rfl) rfl ?_ | refine s_pur (p_extract rfl rfl) rfl ?_)
      exact cut _ (by repeat (first | exact Sub.nil | refine Sub.cons rfl ?_)) (hK n E v h4 ⟨lo4, fu3.kp kp4, mv3.kp kp4, by omega⟩)
    · rcases hearly with h1 | ⟨i, hi, hkey⟩
      · omega
      · exact absurd hkey (hno i hi)
  · rcases hz with ⟨hearly, _⟩ | ⟨_, _, v', rfl, hmv⟩
    · rcases hearly with h1 | ⟨i, hi, hkey⟩
      · omega
      · exact absurd hkey (hno i hi)
    · have hev := evict_le cap len E n
      repeat (first | refine c_seq ?_ | refine c_region ?_ | refine c_block ?_ | refine c_skip ?_ | refine c_exit ?_ | refine c_ret ?_ | refine n_then ?_ | refine n_block ?_ | refine x_then ?_ | refine x_block_eq ?_ | refine x_block_ne rfl ?_ | refine r_then ?_ | refine r_block ?_ | refine s_nil ?_ | refine c_true rfl ?_ | refine c_false rfl ?_ | refine s_pur (p_move rfl) rfl ?_ | refine s_pur (p_assign rfl) rfl ?_ | refine s_pur (p_nil rfl) rfl ?_ | refine s_pur (p_pick_t rfl rfl) rfl ?_ | refine s_pur (p_pick_f rfl rfl) rfl ?_ | refine s_pur (p_extract rfl rfl) rfl ?_)
      have e1 : len + sumL (evict cap len E n) E = sumL (evict cap len E n + 1) (cns ⟨kid, koff, q.size, len, nb⟩ E) := by rw [sumL_cns]
      rw [e1]
      exact cut _ (by repeat (first | exact Sub.nil | refine Sub.cons rfl ?_)) (hK _ _ v' h4 ⟨lo4, fu3.kp kp4, hmv nb, by omega⟩)

set_option maxHeartbeats 8000000 in
/-- The arm that looks. -/
theorem armGet {h q : Heap} {va : Option Addr} {ns vc cap k n : Nat} {id off : Int} {kid koff : Nat} {E : Nat → Ent} {v : Value} {w0 : World} {Q : Exit → Act → World → Prop} (hk : k < ns) (hns : ns ≤ 65536) (iv : Inv h cap k n E v q)
    (hK : ∀ n' E' v' q', Inv h cap (k + 1) n' E' v' q' → V.Fin 118 w0 (XW Q .normal) (envL va ns vc id off cap (h.size + 1) v' (sumL n' E') k) q') :
    V.Fin 118 w0 (CW Yba.prog (V.sub (Yba.f3.body.getD .skip) [1, 1, 1, 1, 1, 1, 1, 1, 0, 1, 0, 0, 1, 1, 0, 0, 1, 1, 1, 1, 1]) Q) ((18, .int .u64 (kid : Int)) :: (19, .int .i64 (koff : Int)) :: envL va ns vc id off cap (h.size + 1) v (sumL n E) k) q := by
  have hnk := iv.nk
  have sz0 := iv.low.size
  refine c_seq ?_
  repeat (first | refine c_region ?_ | refine c_block ?_ | refine c_skip ?_ | refine c_exit ?_ | refine c_ret ?_ | refine n_then ?_ | refine n_block ?_ | refine x_then ?_ | refine x_block_eq ?_ | refine x_block_ne rfl ?_ | refine r_then ?_ | refine r_block ?_ | refine s_nil ?_ | refine c_true rfl ?_ | refine c_false rfl ?_ | refine s_pur (p_move rfl) rfl ?_ | refine s_pur (p_assign rfl) rfl ?_ | refine s_pur (p_nil rfl) rfl ?_ | refine s_pur (p_pick_t rfl rfl) rfl ?_ | refine s_pur (p_pick_f rfl rfl) rfl ?_)
  refine c_seq ?_
  repeat (first | refine c_region ?_ | refine c_block ?_ | refine c_skip ?_ | refine c_exit ?_ | refine c_ret ?_ | refine n_then ?_ | refine n_block ?_ | refine x_then ?_ | refine x_block_eq ?_ | refine x_block_ne rfl ?_ | refine r_then ?_ | refine r_block ?_ | refine s_nil ?_ | refine c_true rfl ?_ | refine c_false rfl ?_ | refine s_pur (p_move rfl) rfl ?_ | refine s_pur (p_assign rfl) rfl ?_ | refine s_pur (p_nil rfl) rfl ?_ | refine s_pur (p_pick_t rfl rfl) rfl ?_ | refine s_pur (p_pick_f rfl rfl) rfl ?_)
  refine s_call Yba.call8 rfl rfl (check_ok q h.size (h.size + 1) h.size (h.size + 2) cap n E kid koff v iv.full iv.mv (by omega) sz0) ?_
  rintro _ q' ⟨f1, v', E', rfl, fu, mv', hsum⟩
  repeat (first | refine c_seq ?_ | refine c_region ?_ | refine c_block ?_ | refine c_skip ?_ | refine c_exit ?_ | refine c_ret ?_ | refine n_then ?_ | refine n_block ?_ | refine x_then ?_ | refine x_block_eq ?_ | refine x_block_ne rfl ?_ | refine r_then ?_ | refine r_block ?_ | refine s_nil ?_ | refine c_true rfl ?_ | refine c_false rfl ?_ | refine s_pur (p_move rfl) rfl ?_ | refine s_pur (p_assign rfl) rfl ?_ | refine s_pur (p_nil rfl) rfl ?_ | refine s_pur (p_pick_t rfl rfl) rfl ?_ | refine s_pur (p_pick_f rfl rfl) rfl ?_ | refine s_pur (p_extract rfl rfl) rfl ?_ | refine s_pur (p_not rfl) rfl ?_)
  have := hK n E' v' q' ⟨Frm.lowOf iv.low f1, fu, mv', by omega⟩
  rw [hsum] at this
  exact cut _ (by repeat (first | exact Sub.nil | refine Sub.cons rfl ?_)) this

set_option maxHeartbeats 8000000 in
theorem law_ok (h : Heap) (va : Option Addr) (ns vc : Nat) (capacity id off : Int) (Z : Nat → Nat → Nat) (hin : StepsIn h va ns Z) (hZ : ∀ i t, Z i t < 256) (hmax : ns ≤ 9223372036854775807) :
    CallsH Yba.prog 3 #[.int .i64 capacity, .slice va ns vc, .int .u64 id, .int .i64 off] h (fun u h' => u = .bool true ∧ Low h.size h h') := by
  refine calls_of (N := 118) [(0, .int .i64 capacity), (1, .slice va ns vc), (2, .int .u64 id), (3, .int .i64 off)] Yba.func3 rfl rfl (by simp) (by repeat (first | exact ArgsAre.nil | refine ArgsAre.cons rfl ?_)) ?_
  intro w0 _
  refine c_seq ?_
  repeat (first | refine c_region ?_ | refine c_block ?_ | refine c_skip ?_ | refine c_exit ?_ | refine c_ret ?_ | refine n_then ?_ | refine n_block ?_ | refine x_then ?_ | refine x_block_eq ?_ | refine x_block_ne rfl ?_ | refine r_then ?_ | refine r_block ?_ | refine s_nil ?_ | refine c_true rfl ?_ | refine c_false rfl ?_ | refine s_pur (p_move rfl) rfl ?_ | refine s_pur (p_assign rfl) rfl ?_ | refine s_pur (p_nil rfl) rfl ?_ | refine s_pur (p_pick_t rfl rfl) rfl ?_ | refine s_pur (p_pick_f rfl rfl) rfl ?_)
  refine cut [(0, .int .i64 capacity), (1, .slice va ns vc), (2, .int .u64 id), (3, .int .i64 off)] (by repeat (first | exact Sub.nil | refine Sub.cons rfl ?_)) ?_
  by_cases hns : 65536 < ns
  · repeat (first | refine c_seq ?_ | refine c_region ?_ | refine c_block ?_ | refine c_skip ?_ | refine c_exit ?_ | refine c_ret ?_ | refine n_then ?_ | refine n_block ?_ | refine x_then ?_ | refine x_block_eq ?_ | refine x_block_ne rfl ?_ | refine r_then ?_ | refine r_block ?_ | refine s_nil ?_ | refine c_true rfl ?_ | refine c_false rfl ?_ | refine s_pur (p_move rfl) rfl ?_ | refine s_pur (p_assign rfl) rfl ?_ | refine s_pur (p_nil rfl) rfl ?_ | refine s_pur (p_pick_t rfl rfl) rfl ?_ | refine s_pur (p_pick_f rfl rfl) rfl ?_ | refine s_pur (p_len rfl Yba.underlying22) rfl ?_ | refine s_pur (p_idx rfl rfl rfl (by omega) Yba.underlying22 Yba.sizeOf31) rfl ?_ | refine s_pur (p_lssT rfl rfl (by omega)) rfl ?_ | refine s_pur (p_lssF rfl rfl (by omega)) rfl ?_ | refine s_pur (p_leqT rfl rfl (by omega)) rfl ?_ | refine s_pur (p_leqF rfl rfl (by omega)) rfl ?_ | refine s_pur (p_gtrT rfl rfl (by omega)) rfl ?_ | refine s_pur (p_gtrF rfl rfl (by omega)) rfl ?_ | refine s_pur (p_geqT rfl rfl (by omega)) rfl ?_ | refine s_pur (p_geqF rfl rfl (by omega)) rfl ?_ | refine s_pur (p_eqlT rfl rfl (by omega)) rfl ?_ | refine s_pur (p_eqlF rfl rfl (by omega)) rfl ?_ | refine s_pur (p_neqT rfl rfl (by omega)) rfl ?_ | refine s_pur (p_neqF rfl rfl (by omega)) rfl ?_)
    exact ret1 Yba.results3 rfl ⟨rfl, Low.refl _ _⟩
  refine c_mid [(0, .int .i64 capacity), (1, .slice va ns vc), (2, .int .u64 id), (3, .int .i64 off)] (fun q => h = q) ?_ ?_
  · repeat (first | refine c_seq ?_ | refine c_region ?_ | refine c_block ?_ | refine c_skip ?_ | refine c_exit ?_ | refine c_ret ?_ | refine n_then ?_ | refine n_block ?_ | refine x_then ?_ | refine x_block_eq ?_ | refine x_block_ne rfl ?_ | refine r_then ?_ | refine r_block ?_ | refine s_nil ?_ | refine c_true rfl ?_ | refine c_false rfl ?_ | refine s_pur (p_move rfl) rfl ?_ | refine s_pur (p_assign rfl) rfl ?_ | refine s_pur (p_nil rfl) rfl ?_ | refine s_pur (p_pick_t rfl rfl) rfl ?_ | refine s_pur (p_pick_f rfl rfl) rfl ?_ | refine s_pur (p_len rfl Yba.underlying22) rfl ?_ | refine s_pur (p_idx rfl rfl rfl (by omega) Yba.underlying22 Yba.sizeOf31) rfl ?_ | refine s_pur (p_lssT rfl rfl (by omega)) rfl ?_ | refine s_pur (p_lssF rfl rfl (by omega)) rfl ?_ | refine s_pur (p_leqT rfl rfl (by omega)) rfl ?_ | refine s_pur (p_leqF rfl rfl (by omega)) rfl ?_ | refine s_pur (p_gtrT rfl rfl (by omega)) rfl ?_ | refine s_pur (p_gtrF rfl rfl (by omega)) rfl ?_ | refine s_pur (p_geqT rfl rfl (by omega)) rfl ?_ | refine s_pur (p_geqF rfl rfl (by omega)) rfl ?_ | refine s_pur (p_eqlT rfl rfl (by omega)) rfl ?_ | refine s_pur (p_eqlF rfl rfl (by omega)) rfl ?_ | refine s_pur (p_neqT rfl rfl (by omega)) rfl ?_ | refine s_pur (p_neqF rfl rfl (by omega)) rfl ?_)
    exact m_done rfl (by repeat (first | exact Sub.nil | refine Sub.cons rfl ?_))
  rintro _ rfl
  refine c_mid [(0, .int .i64 capacity), (1, .slice va ns vc), (2, .int .u64 id), (3, .int .i64 off), (9, .pointer none)] (fun q => h = q) ?_ ?_
  · repeat (first | refine c_seq ?_ | refine c_region ?_ | refine c_block ?_ | refine c_skip ?_ | refine c_exit ?_ | refine c_ret ?_ | refine n_then ?_ | refine n_block ?_ | refine x_then ?_ | refine x_block_eq ?_ | refine x_block_ne rfl ?_ | refine r_then ?_ | refine r_block ?_ | refine s_nil ?_ | refine c_true rfl ?_ | refine c_false rfl ?_ | refine s_pur (p_move rfl) rfl ?_ | refine s_pur (p_assign rfl) rfl ?_ | refine s_pur (p_nil rfl) rfl ?_ | refine s_pur (p_pick_t rfl rfl) rfl ?_ | refine s_pur (p_pick_f rfl rfl) rfl ?_)
    exact m_done rfl (by repeat (first | exact Sub.nil | refine Sub.cons rfl ?_))
  rintro _ rfl
  refine c_mid [(0, .int .i64 capacity), (1, .slice va ns vc), (2, .int .u64 id), (3, .int .i64 off)] (fun q => h = q) ?_ ?_
  · repeat (first | refine c_seq ?_ | refine c_region ?_ | refine c_block ?_ | refine c_skip ?_ | refine c_exit ?_ | refine c_ret ?_ | refine n_then ?_ | refine n_block ?_ | refine x_then ?_ | refine x_block_eq ?_ | refine x_block_ne rfl ?_ | refine r_then ?_ | refine r_block ?_ | refine s_nil ?_ | refine c_true rfl ?_ | refine c_false rfl ?_ | refine s_pur (p_move rfl) rfl ?_ | refine s_pur (p_assign rfl) rfl ?_ | refine s_pur (p_nil rfl) rfl ?_ | refine s_pur (p_pick_t rfl rfl) rfl ?_ | refine s_pur (p_pick_f rfl rfl) rfl ?_)
    refine s_call Yba.call4 rfl rfl (getNil_ok h id off) ?_
    rintro _ q ⟨rfl, hq⟩
    obtain rfl : h = q := hq.symm
    repeat (first | refine c_seq ?_ | refine c_region ?_ | refine c_block ?_ | refine c_skip ?_ | refine c_exit ?_ | refine c_ret ?_ | refine n_then ?_ | refine n_block ?_ | refine x_then ?_ | refine x_block_eq ?_ | refine x_block_ne rfl ?_ | refine r_then ?_ | refine r_block ?_ | refine s_nil ?_ | refine c_true rfl ?_ | refine c_false rfl ?_ | refine s_pur (p_move rfl) rfl ?_ | refine s_pur (p_assign rfl) rfl ?_ | refine s_pur (p_nil rfl) rfl ?_ | refine s_pur (p_pick_t rfl rfl) rfl ?_ | refine s_pur (p_pick_f rfl rfl) rfl ?_ | refine s_pur (p_extract rfl rfl) rfl ?_ | refine s_pur (V.p_slneq rfl rfl Yba.underlying25) rfl ?_ | refine s_skip rfl rfl rfl ?_ | refine s_skip' rfl rfl rfl ?_ | refine s_pur_g rfl (p_move rfl) rfl ?_ | refine s_pur_g rfl (p_assign rfl) rfl ?_ | refine s_pur_g rfl (p_nil rfl) rfl ?_ | refine s_pur_g rfl (p_pick_t rfl rfl) rfl ?_ | refine s_pur_g rfl (p_pick_f rfl rfl) rfl ?_ | refine s_pur_g rfl (p_extract rfl rfl) rfl ?_ | refine s_pur_g rfl (V.p_slneq rfl rfl Yba.underlying25) rfl ?_)
    exact m_done rfl (by repeat (first | exact Sub.nil | refine Sub.cons rfl ?_))
  rintro _ rfl
  obtain ⟨W, hW, hW0, hW1⟩ : ∃ W : Nat, IntKind.u64.wrap capacity = (W : Int) ∧ 0 ≤ W ∧ W < 18446744073709551616 := by
    have : 0 ≤ IntKind.u64.wrap capacity ∧ IntKind.u64.wrap capacity < 18446744073709551616 := by
      simp only [IntKind.wrap, IntKind.bits, IntKind.signed]; simp; omega
    exact ⟨(IntKind.u64.wrap capacity).toNat, by omega, by omega, by omega⟩
  have hcap : W % 1000 < 1000 := Nat.mod_lt _ (by omega)
  generalize hce : W % 1000 = cap at hcap
  refine c_mid [(1, .slice va ns vc), (2, .int .u64 id), (3, .int .i64 off), (12, .int .i64 (cap : Int))] (fun q => h = q) ?_ ?_
  · repeat (first | refine c_seq ?_ | refine c_region ?_ | refine c_block ?_ | refine c_skip ?_ | refine c_exit ?_ | refine c_ret ?_ | refine n_then ?_ | refine n_block ?_ | refine x_then ?_ | refine x_block_eq ?_ | refine x_block_ne rfl ?_ | refine r_then ?_ | refine r_block ?_ | refine s_nil ?_ | refine c_true rfl ?_ | refine c_false rfl ?_ | refine s_pur (p_move rfl) rfl ?_ | refine s_pur (p_assign rfl) rfl ?_ | refine s_pur (p_nil rfl) rfl ?_ | refine s_pur (p_pick_t rfl rfl) rfl ?_ | refine s_pur (p_pick_f rfl rfl) rfl ?_ | refine s_pur (hW ▸ p_conv rfl Yba.underlying2 Yba.underlying23 : Pur Yba.prog (.convert 2 23 (.tmp 40)) _ _ _ (.int .u64 (W : Int))) rfl ?_ | refine s_pur (p_remN (n := 1000) (r := cap) rfl rfl (by omega) hce) rfl ?_ | refine s_pur (p_conv64 rfl Yba.underlying23 Yba.underlying2 (by omega) (by omega)) rfl ?_)
    exact m_done rfl (by repeat (first | exact Sub.nil | refine Sub.cons rfl ?_))
  rintro _ rfl
  let E0 : Nat → Ent := fun _ => ⟨0, 0, 0, 0, 0⟩
  refine c_mid [(1, .slice va ns vc), (2, .int .u64 id), (3, .int .i64 off), (12, .int .i64 (cap : Int)), (13, .pointer (some ⟨h.size + 1, 0, none⟩))] (fun q => Full q h.size (h.size + 1) h.size (h.size + 2) cap 0 E0 ∧ Kp h q) ?_ ?_
  · repeat (first | refine c_seq ?_ | refine c_region ?_ | refine c_block ?_ | refine c_skip ?_ | refine c_exit ?_ | refine c_ret ?_ | refine n_then ?_ | refine n_block ?_ | refine x_then ?_ | refine x_block_eq ?_ | refine x_block_ne rfl ?_ | refine r_then ?_ | refine r_block ?_ | refine s_nil ?_ | refine c_true rfl ?_ | refine c_false rfl ?_ | refine s_pur (p_move rfl) rfl ?_ | refine s_pur (p_assign rfl) rfl ?_ | refine s_pur (p_nil rfl) rfl ?_ | refine s_pur (p_pick_t rfl rfl) rfl ?_ | refine s_pur (p_pick_f rfl rfl) rfl ?_)
    refine s_call Yba.call5 rfl rfl (new_ok h cap E0 hcap) ?_
    rintro _ q ⟨rfl, hq⟩
    repeat (first | refine c_seq ?_ | refine c_region ?_ | refine c_block ?_ | refine c_skip ?_ | refine c_exit ?_ | refine c_ret ?_ | refine n_then ?_ | refine n_block ?_ | refine x_then ?_ | refine x_block_eq ?_ | refine x_block_ne rfl ?_ | refine r_then ?_ | refine r_block ?_ | refine s_nil ?_ | refine c_true rfl ?_ | refine c_false rfl ?_ | refine s_pur (p_move rfl) rfl ?_ | refine s_pur (p_assign rfl) rfl ?_ | refine s_pur (p_nil rfl) rfl ?_ | refine s_pur (p_pick_t rfl rfl) rfl ?_ | refine s_pur (p_pick_f rfl rfl) rfl ?_)
    exact m_done hq (by repeat (first | exact Sub.nil | refine Sub.cons rfl ?_))
  rintro h1 ⟨fu1, kp1⟩
  have iv1 : Inv h cap 0 0 E0 (.slice none 0 0) h1 := ⟨⟨kp1.size, kp1.same⟩, fu1, .inl ⟨rfl, rfl⟩, Nat.le_refl _⟩
  refine c_seq ?_
  repeat (first | refine c_region ?_ | refine c_block ?_ | refine c_skip ?_ | refine c_exit ?_ | refine c_ret ?_ | refine n_then ?_ | refine n_block ?_ | refine x_then ?_ | refine x_block_eq ?_ | refine x_block_ne rfl ?_ | refine r_then ?_ | refine r_block ?_ | refine s_nil ?_ | refine c_true rfl ?_ | refine c_false rfl ?_ | refine s_pur (p_move rfl) rfl ?_ | refine s_pur (p_assign rfl) rfl ?_ | refine s_pur (p_nil rfl) rfl ?_ | refine s_pur (p_pick_t rfl rfl) rfl ?_ | refine s_pur (p_pick_f rfl rfl) rfl ?_)
  refine c_seq ?_
  repeat (first | refine c_region ?_ | refine c_block ?_ | refine c_skip ?_ | refine c_exit ?_ | refine c_ret ?_ | refine n_then ?_ | refine n_block ?_ | refine x_then ?_ | refine x_block_eq ?_ | refine x_block_ne rfl ?_ | refine r_then ?_ | refine r_block ?_ | refine s_nil ?_ | refine c_true rfl ?_ | refine c_false rfl ?_ | refine s_pur (p_move rfl) rfl ?_ | refine s_pur (p_assign rfl) rfl ?_ | refine s_pur (p_nil rfl) rfl ?_ | refine s_pur (p_pick_t rfl rfl) rfl ?_ | refine s_pur (p_pick_f rfl rfl) rfl ?_)
  refine c_seq ?_
  repeat (first | refine c_seq ?_ | refine c_region ?_ | refine c_block ?_ | refine c_skip ?_ | refine c_exit ?_ | refine c_ret ?_ | refine n_then ?_ | refine n_block ?_ | refine x_then ?_ | refine x_block_eq ?_ | refine x_block_ne rfl ?_ | refine r_then ?_ | refine r_block ?_ | refine s_nil ?_ | refine c_true rfl ?_ | refine c_false rfl ?_ | refine s_pur (p_move rfl) rfl ?_ | refine s_pur (p_assign rfl) rfl ?_ | refine s_pur (p_nil rfl) rfl ?_ | refine s_pur (p_pick_t rfl rfl) rfl ?_ | refine s_pur (p_pick_f rfl rfl) rfl ?_ | refine s_pur (p_len rfl Yba.underlying22) rfl ?_ | refine s_pur (p_idx rfl rfl rfl (by omega) Yba.underlying22 Yba.sizeOf31) rfl ?_)
  refine c_loop (fun x : Nat × Nat × (Nat → Ent) × Value => envL va ns vc id off cap (h.size + 1) x.2.2.2 (sumL x.2.1 x.2.2.1) x.1) (fun x q => x.1 ≤ ns ∧ Inv h cap x.1 x.2.1 x.2.2.1 x.2.2.2 q) (fun x => ns - x.1) (0, 0, E0, .slice none 0 0) ⟨Nat.zero_le _, iv1⟩ (by repeat (first | exact Sub.nil | refine Sub.cons rfl ?_)) ?_
  rintro ⟨k, n, E, v⟩ q ⟨hk, iv⟩
  simp only at hk iv
  refine cut (envL va ns vc id off cap (h.size + 1) v (sumL n E) k) Sub.refl ?_
  have hnk := iv.nk
  have sz0 := iv.low.size
  by_cases hlt : k < ns
  · obtain ⟨b, o, rfl, hcell⟩ := hin k hlt
    have hcell' : ∀ t, t < 4 → hc q b (o + k * 4 + t) = (stp Z k)[t]? := fun t ht => by
      have h1 := hcell t ht
      have hlt' : b < h.size := by
        obtain ⟨u, hu⟩ : ∃ u, (stp Z k)[t]? = some u := ⟨_, List.getElem?_eq_getElem (by simpa [stp] using ht)⟩
        rw [hu] at h1
        exact lt_of_hc h1
      rw [hc_congr (iv.low.same b hlt')]; exact h1
    refine c_seq ?_
    repeat (first | refine c_region ?_ | refine c_block ?_ | refine c_skip ?_ | refine c_exit ?_ | refine c_ret ?_ | refine n_then ?_ | refine n_block ?_ | refine x_then ?_ | refine x_block_eq ?_ | refine x_block_ne rfl ?_ | refine r_then ?_ | refine r_block ?_ | refine s_nil ?_ | refine c_true rfl ?_ | refine c_false rfl ?_ | refine s_pur (p_move rfl) rfl ?_ | refine s_pur (p_assign rfl) rfl ?_ | refine s_pur (p_nil rfl) rfl ?_ | refine s_pur (p_pick_t rfl rfl) rfl ?_ | refine s_pur (p_pick_f rfl rfl) rfl ?_ | refine s_pur (p_lssT rfl rfl (by omega)) rfl ?_ | refine s_pur (p_lssF rfl rfl (by omega)) rfl ?_ | refine s_pur (p_leqT rfl rfl (by omega)) rfl ?_ | refine s_pur (p_leqF rfl rfl (by omega)) rfl ?_ | refine s_pur (p_gtrT rfl rfl (by omega)) rfl ?_ | refine s_pur (p_gtrF rfl rfl (by omega)) rfl ?_ | refine s_pur (p_geqT rfl rfl (by omega)) rfl ?_ | refine s_pur (p_geqF rfl rfl (by omega)) rfl ?_ | refine s_pur (p_eqlT rfl rfl (by omega)) rfl ?_ | refine s_pur (p_eqlF rfl rfl (by omega)) rfl ?_ | refine s_pur (p_neqT rfl rfl (by omega)) rfl ?_ | refine s_pur (p_neqF rfl rfl (by omega)) rfl ?_)
    refine c_seq ?_
    repeat (first | refine c_region ?_ | refine c_block ?_ | refine c_skip ?_ | refine c_exit ?_ | refine c_ret ?_ | refine n_then ?_ | refine n_block ?_ | refine x_then ?_ | refine x_block_eq ?_ | refine x_block_ne rfl ?_ | refine r_then ?_ | refine r_block ?_ | refine s_nil ?_ | refine c_true rfl ?_ | refine c_false rfl ?_ | refine s_pur (p_move rfl) rfl ?_ | refine s_pur (p_assign rfl) rfl ?_ | refine s_pur (p_nil rfl) rfl ?_ | refine s_pur (p_pick_t rfl rfl) rfl ?_ | refine s_pur (p_pick_f rfl rfl) rfl ?_)
    refine c_seq ?_
    refine c_block ?_
    refine c_mid ((16, .int .i64 (k : Int)) :: (17, .pointer (some ⟨q.size, 0, none⟩)) :: envL (some ⟨b, o, none⟩) ns vc id off cap (h.size + 1) v (sumL n E) k) (fun x => Kp q x ∧ x[q.size]? = some (.cells (stp Z k).toArray 31 (0, 0))) ?_ ?_
    · repeat (first | refine c_seq ?_ | refine c_region ?_ | refine c_block ?_ | refine c_skip ?_ | refine c_exit ?_ | refine c_ret ?_ | refine n_then ?_ | refine n_block ?_ | refine x_then ?_ | refine x_block_eq ?_ | refine x_block_ne rfl ?_ | refine r_then ?_ | refine r_block ?_ | refine s_nil ?_ | refine c_true rfl ?_ | refine c_false rfl ?_ | refine s_pur (p_move rfl) rfl ?_ | refine s_pur (p_assign rfl) rfl ?_ | refine s_pur (p_nil rfl) rfl ?_ | refine s_pur (p_pick_t rfl rfl) rfl ?_ | refine s_pur (p_pick_f rfl rfl) rfl ?_ | refine s_pur (p_len rfl Yba.underlying22) rfl ?_ | refine s_pur (p_idx rfl rfl rfl (by omega) Yba.underlying22 Yba.sizeOf31) rfl ?_ | refine s_pur (p_loadA (vs := stp Z k) rfl Yba.isAgg31 Yba.sizeOf31 rfl hcell') rfl ?_)
      refine s_eff (e_alloc Yba.zeroValue31) rfl ?_
      rintro _ h2 ⟨rfl, n2⟩
      repeat (first | refine c_seq ?_ | refine c_region ?_ | refine c_block ?_ | refine c_skip ?_ | refine c_exit ?_ | refine c_ret ?_ | refine n_then ?_ | refine n_block ?_ | refine x_then ?_ | refine x_block_eq ?_ | refine x_block_ne rfl ?_ | refine r_then ?_ | refine r_block ?_ | refine s_nil ?_ | refine c_true rfl ?_ | refine c_false rfl ?_ | refine s_pur (p_move rfl) rfl ?_ | refine s_pur (p_assign rfl) rfl ?_ | refine s_pur (p_nil rfl) rfl ?_ | refine s_pur (p_pick_t rfl rfl) rfl ?_ | refine s_pur (p_pick_f rfl rfl) rfl ?_)
      refine s_eff0 (e_storeAll (vs := stp Z k) rfl rfl Yba.sizeOf31 rfl n2.at_ rfl (by simp [stp, Value.oneCell'])) ?_
      intro _ h3 u3
      repeat (first | refine c_seq ?_ | refine c_region ?_ | refine c_block ?_ | refine c_skip ?_ | refine c_exit ?_ | refine c_ret ?_ | refine n_then ?_ | refine n_block ?_ | refine x_then ?_ | refine x_block_eq ?_ | refine x_block_ne rfl ?_ | refine r_then ?_ | refine r_block ?_ | refine s_nil ?_ | refine c_true rfl ?_ | refine c_false rfl ?_ | refine s_pur (p_move rfl) rfl ?_ | refine s_pur (p_assign rfl) rfl ?_ | refine s_pur (p_nil rfl) rfl ?_ | refine s_pur (p_pick_t rfl rfl) rfl ?_ | refine s_pur (p_pick_f rfl rfl) rfl ?_)
      exact m_done ⟨⟨by rw [u3.size]; have := n2.size; omega, fun k hk => by rw [u3.other k (by omega), n2.other k hk]⟩, u3.at_⟩ (by repeat (first | exact Sub.nil | refine Sub.cons rfl ?_))
    rintro q1 ⟨kq1, hst⟩
    have iv1 : Inv h cap k n E v q1 := ⟨Frm.lowOf iv.low (kq1.frm sz0), iv.full.kp kq1, iv.mv.kp kq1, iv.nk⟩
    have l0 : hc q1 q.size (0 + 0) = some (.int .u8 ((Z k 0 : Nat) : Int)) := by rw [hc_of hst]; rfl
    have l1 : hc q1 q.size (0 + 1) = some (.int .u8 ((Z k 1 : Nat) : Int)) := by rw [hc_of hst]; rfl
    have l2 : hc q1 q.size (0 + 2) = some (.int .u8 ((Z k 2 : Nat) : Int)) := by rw [hc_of hst]; rfl
    have z0 := hZ k 0
    have z1 := hZ k 1
    have z2 := hZ k 2
    refine c_mid ((16, .int .i64 (k : Int)) :: (17, .pointer (some ⟨q.size, 0, none⟩)) :: (18, .int .u64 ((Z k 1 % 4 : Nat) : Int)) :: envL (some ⟨b, o, none⟩) ns vc id off cap (h.size + 1) v (sumL n E) k) (fun x => q1 = x) ?_ ?_
    · repeat (first | refine c_seq ?_ | refine c_region ?_ | refine c_block ?_ | refine c_skip ?_ | refine c_exit ?_ | refine c_ret ?_ | refine n_then ?_ | refine n_block ?_ | refine x_then ?_ | refine x_block_eq ?_ | refine x_block_ne rfl ?_ | refine r_then ?_ | refine r_block ?_ | refine s_nil ?_ | refine c_true rfl ?_ | refine c_false rfl ?_ | refine s_pur (p_move rfl) rfl ?_ | refine s_pur (p_assign rfl) rfl ?_ | refine s_pur (p_nil rfl) rfl ?_ | refine s_pur (p_pick_t rfl rfl) rfl ?_ | refine s_pur (p_pick_f rfl rfl) rfl ?_ | refine s_pur (p_fld (off := 1) rfl Yba.underlying31 rfl Yba.sizeOf5 rfl) rfl ?_ | refine s_pur (p_load rfl Yba.isAgg5 (by assumption)) rfl ?_ | refine s_pur (p_remN (n := 4) rfl rfl (by omega) rfl) rfl ?_ | refine s_pur (p_convU64 rfl Yba.underlying5 Yba.underlying23 (by omega) (by omega)) rfl ?_)
      exact m_done rfl (by repeat (first | exact Sub.nil | refine Sub.cons rfl ?_))
    rintro _ rfl
    refine c_mid ((16, .int .i64 (k : Int)) :: (17, .pointer (some ⟨q.size, 0, none⟩)) :: (18, .int .u64 ((Z k 1 % 4 : Nat) : Int)) :: (19, .int .i64 ((Z k 2 % 4 : Nat) : Int)) :: envL (some ⟨b, o, none⟩) ns vc id off cap (h.size + 1) v (sumL n E) k) (fun x => q1 = x) ?_ ?_
    · repeat (first | refine c_seq ?_ | refine c_region ?_ | refine c_block ?_ | refine c_skip ?_ | refine c_exit ?_ | refine c_ret ?_ | refine n_then ?_ | refine n_block ?_ | refine x_then ?_ | refine x_block_eq ?_ | refine x_block_ne rfl ?_ | refine r_then ?_ | refine r_block ?_ | refine s_nil ?_ | refine c_true rfl ?_ | refine c_false rfl ?_ | refine s_pur (p_move rfl) rfl ?_ | refine s_pur (p_assign rfl) rfl ?_ | refine s_pur (p_nil rfl) rfl ?_ | refine s_pur (p_pick_t rfl rfl) rfl ?_ | refine s_pur (p_pick_f rfl rfl) rfl ?_ | refine s_pur (p_fld (off := 2) rfl Yba.underlying31 rfl Yba.sizeOf5 rfl) rfl ?_ | refine s_pur (p_load rfl Yba.isAgg5 (by assumption)) rfl ?_ | refine s_pur (p_remN (n := 4) rfl rfl (by omega) rfl) rfl ?_ | refine s_pur (p_conv64 rfl Yba.underlying5 Yba.underlying2 (by omega) (by omega)) rfl ?_)
      exact m_done rfl (by repeat (first | exact Sub.nil | refine Sub.cons rfl ?_))
    rintro _ rfl
    refine c_seq ?_
    repeat (first | refine c_region ?_ | refine c_block ?_ | refine c_skip ?_ | refine c_exit ?_ | refine c_ret ?_ | refine n_then ?_ | refine n_block ?_ | refine x_then ?_ | refine x_block_eq ?_ | refine x_block_ne rfl ?_ | refine r_then ?_ | refine r_block ?_ | refine s_nil ?_ | refine c_true rfl ?_ | refine c_false rfl ?_ | refine s_pur (p_move rfl) rfl ?_ | refine s_pur (p_assign rfl) rfl ?_ | refine s_pur (p_nil rfl) rfl ?_ | refine s_pur (p_pick_t rfl rfl) rfl ?_ | refine s_pur (p_pick_f rfl rfl) rfl ?_ | refine s_pur (p_fld (off := 0) rfl Yba.underlying31 rfl Yba.sizeOf5 rfl) rfl ?_ | refine s_pur (p_load rfl Yba.isAgg5 (by assumption)) rfl ?_ | refine s_pur (p_remN (n := 2) rfl rfl (by omega) rfl) rfl ?_ | refine s_pur (p_eql rfl rfl) rfl ?_)
    refine c_if rfl (fun he => ?_) (fun he => ?_)
    · refine cut ((16, .int .i64 (k : Int)) :: (17, .pointer (some ⟨q.size, 0, none⟩)) :: (18, .int .u64 ((Z k 1 % 4 : Nat) : Int)) :: (19, .int .i64 ((Z k 2 % 4 : Nat) : Int)) :: envL (some ⟨b, o, none⟩) ns vc id off cap (h.size + 1) v (sumL n E) k) (by repeat (first | exact Sub.nil | refine Sub.cons rfl ?_)) ?_
      refine armAdd hlt (by omega) iv1 hcap hst (hZ k) ?_
      intro n' E' v' q' iv'
      repeat (first | refine c_seq ?_ | refine c_region ?_ | refine c_block ?_ | refine c_skip ?_ | refine c_exit ?_ | refine c_ret ?_ | refine n_then ?_ | refine n_block ?_ | refine x_then ?_ | refine x_block_eq ?_ | refine x_block_ne rfl ?_ | refine r_then ?_ | refine r_block ?_ | refine s_nil ?_ | refine c_true rfl ?_ | refine c_false rfl ?_ | refine s_pur (p_move rfl) rfl ?_ | refine s_pur (p_assign rfl) rfl ?_ | refine s_pur (p_nil rfl) rfl ?_ | refine s_pur (p_pick_t rfl rfl) rfl ?_ | refine s_pur (p_pick_f rfl rfl) rfl ?_ | refine s_pur (p_add rfl rfl rfl (by omega) (by omega)) rfl ?_)
      exact c_next (k + 1, n', E', v') ⟨hlt, iv'⟩ (by repeat (first | exact Sub.nil | refine Sub.cons rfl ?_)) (by simp only; omega)
    · refine cut ((18, .int .u64 ((Z k 1 % 4 : Nat) : Int)) :: (19, .int .i64 ((Z k 2 % 4 : Nat) : Int)) :: envL (some ⟨b, o, none⟩) ns vc id off cap (h.size + 1) v (sumL n E) k) (by repeat (first | exact Sub.nil | refine Sub.cons rfl ?_)) ?_
      refine armGet hlt (by omega) iv1 ?_
      intro n' E' v' q' iv'
      repeat (first | refine c_seq ?_ | refine c_region ?_ | refine c_block ?_ | refine c_skip ?_ | refine c_exit ?_ | refine c_ret ?_ | refine n_then ?_ | refine n_block ?_ | refine x_then ?_ | refine x_block_eq ?_ | refine x_block_ne rfl ?_ | refine r_then ?_ | refine r_block ?_ | refine s_nil ?_ | refine c_true rfl ?_ | refine c_false rfl ?_ | refine s_pur (p_move rfl) rfl ?_ | refine s_pur (p_assign rfl) rfl ?_ | refine s_pur (p_nil rfl) rfl ?_ | refine s_pur (p_pick_t rfl rfl) rfl ?_ | refine s_pur (p_pick_f rfl rfl) rfl ?_ | refine s_pur (p_add rfl rfl rfl (by omega) (by omega)) rfl ?_)
      exact c_next (k + 1, n', E', v') ⟨hlt, iv'⟩ (by repeat (first | exact Sub.nil | refine Sub.cons rfl ?_)) (by simp only; omega)
  · refine c_seq ?_
    repeat (first | refine c_region ?_ | refine c_block ?_ | refine c_skip ?_ | refine c_exit ?_ | refine c_ret ?_ | refine n_then ?_ | refine n_block ?_ | refine x_then ?_ | refine x_block_eq ?_ | refine x_block_ne rfl ?_ | refine r_then ?_ | refine r_block ?_ | refine s_nil ?_ | refine c_true rfl ?_ | refine c_false rfl ?_ | refine s_pur (p_move rfl) rfl ?_ | refine s_pur (p_assign rfl) rfl ?_ | refine s_pur (p_nil rfl) rfl ?_ | refine s_pur (p_pick_t rfl rfl) rfl ?_ | refine s_pur (p_pick_f rfl rfl) rfl ?_ | refine s_pur (p_lssT rfl rfl (by omega)) rfl ?_ | refine s_pur (p_lssF rfl rfl (by omega)) rfl ?_ | refine s_pur (p_leqT rfl rfl (by omega)) rfl ?_ | refine s_pur (p_leqF rfl rfl (by omega)) rfl ?_ | refine s_pur (p_gtrT rfl rfl (by omega)) rfl ?_ | refine s_pur (p_gtrF rfl rfl (by omega)) rfl ?_ | refine s_pur (p_geqT rfl rfl (by omega)) rfl ?_ | refine s_pur (p_geqF rfl rfl (by omega)) rfl ?_ | refine s_pur (p_eqlT rfl rfl (by omega)) rfl ?_ | refine s_pur (p_eqlF rfl rfl (by omega)) rfl ?_ | refine s_pur (p_neqT rfl rfl (by omega)) rfl ?_ | refine s_pur (p_neqF rfl rfl (by omega)) rfl ?_)
    refine c_seq ?_
    repeat (first | refine c_region ?_ | refine c_block ?_ | refine c_skip ?_ | refine c_exit ?_ | refine c_ret ?_ | refine n_then ?_ | refine n_block ?_ | refine x_then ?_ | refine x_block_eq ?_ | refine x_block_ne rfl ?_ | refine r_then ?_ | refine r_block ?_ | refine s_nil ?_ | refine c_true rfl ?_ | refine c_false rfl ?_ | refine s_pur (p_move rfl) rfl ?_ | refine s_pur (p_assign rfl) rfl ?_ | refine s_pur (p_nil rfl) rfl ?_ | refine s_pur (p_pick_t rfl rfl) rfl ?_ | refine s_pur (p_pick_f rfl rfl) rfl ?_)
    refine c_seq ?_
    repeat (first | refine c_region ?_ | refine c_block ?_ | refine c_skip ?_ | refine c_exit ?_ | refine c_ret ?_ | refine n_then ?_ | refine n_block ?_ | refine x_then ?_ | refine x_block_eq ?_ | refine x_block_ne rfl ?_ | refine r_then ?_ | refine r_block ?_ | refine s_nil ?_ | refine c_true rfl ?_ | refine c_false rfl ?_ | refine s_pur (p_move rfl) rfl ?_ | refine s_pur (p_assign rfl) rfl ?_ | refine s_pur (p_nil rfl) rfl ?_ | refine s_pur (p_pick_t rfl rfl) rfl ?_ | refine s_pur (p_pick_f rfl rfl) rfl ?_)
    refine s_call Yba.call8 rfl rfl (check_ok q h.size (h.size + 1) h.size (h.size + 2) cap n E id off v iv.full iv.mv (by omega) sz0) ?_
    rintro _ q' ⟨f1, v', E', rfl, fu, mv', hsum⟩
    repeat (first | refine c_seq ?_ | refine c_region ?_ | refine c_block ?_ | refine c_skip ?_ | refine c_exit ?_ | refine c_ret ?_ | refine n_then ?_ | refine n_block ?_ | refine x_then ?_ | refine x_block_eq ?_ | refine x_block_ne rfl ?_ | refine r_then ?_ | refine r_block ?_ | refine s_nil ?_ | refine c_true rfl ?_ | refine c_false rfl ?_ | refine s_pur (p_move rfl) rfl ?_ | refine s_pur (p_assign rfl) rfl ?_ | refine s_pur (p_nil rfl) rfl ?_ | refine s_pur (p_pick_t rfl rfl) rfl ?_ | refine s_pur (p_pick_f rfl rfl) rfl ?_ | refine s_pur (p_extract rfl rfl) rfl ?_)
    exact ret1 Yba.results3 rfl ⟨rfl, Frm.lowOf iv.low f1⟩
end Go.Proofs.Ybulkdire
