/-
  A1: the small functions of scenario.LawS5489AWhole: what each call does.
-/
import Derived.Test.YbulkdiqqProg
import Derived.Test.YbulkdiqqFOps
namespace Go.Proofs.Ybulkdiqq
set_option linter.unusedSimpArgs false
set_option linter.unusedVariables false
set_option linter.unnecessarySimpa false
open Go Go.RowKit V Flt
set_option maxRecDepth 100000

/-- A slice that holds these numbers. -/
def SlI (k : IntKind) (h : Heap) (v : Value) (xs : List Int) : Prop :=
  ∃ a c, v = .slice a xs.length c ∧ (xs.length = 0 ∨ ∃ b o, a = some ⟨b, o, none⟩ ∧ ∀ j, j < xs.length → hc h b (o + j) = some (.int k (xs.getD j 0)))

def keyI (ks : List Int) (i : Nat) : Int := (if ks.length = 0 then 0 else ks.getD (i % ks.length) 0) * 1024 + i

theorem c1024 : IsI 4652218415073722368 1024 := by
  refine ⟨false, 4503599627370496, 42, by decide +kernel, by decide, by decide, by decide⟩

/-- The last region: float64(v)*1024 + float64(i). -/
theorem key_float (v : Int) (i : Nat) (hv : -32768 ≤ v ∧ v ≤ 32767) (hi : i < 1000) :
    ∃ p s, Ieee.double.mul (Ieee.double.nearest (decide (v < 0)) v.natAbs 0) 4652218415073722368 = some p ∧
      Ieee.double.add p (Ieee.double.nearest (decide ((i : Int) < 0)) (i : Int).natAbs 0) = some s ∧ IsI s (v * 1024 + i) := by
  obtain ⟨p, hp, ip⟩ := mul_int (of_int v (by omega)) c1024 (by omega)
  obtain ⟨s, hs, is⟩ := add_int ip (of_int (i : Int) (by omega)) (by omega)
  exact ⟨p, s, hp, hs, is⟩

theorem key_ok (h : Heap) (v : Value) (ks : List Int) (i : Nat) (hv : SlI .i16 h v ks) (hb : ∀ x ∈ ks, -32768 ≤ x ∧ x ≤ 32767) (hi : i < 1000) (hl : ks.length ≤ 9223372036854775807) :
    CallsH Yba.prog 5 #[v, .int .i64 i] h (fun u h' => h' = h ∧ ∃ x, u = .float .f64 x ∧ IsI x (keyI ks i)) := by
  obtain ⟨a, c, rfl, hcase⟩ := hv
  refine calls_of [(0, .slice a ks.length c), (1, .int .i64 i)] Yba.func5 rfl Yba.ntmps5 (by simp) (.cons rfl (.cons rfl .nil)) ?_
  intro w0 hw0
  by_cases h0 : ks.length = 0
  · obtain ⟨p, s, hp, hs, is⟩ := key_float 0 i (by omega) hi
    have hk : keyI ks i = 0 * 1024 + i := by simp [keyI, h0]
    repeat (first | refine c_seq ?_ | refine c_region ?_ | refine c_block ?_ | refine c_skip ?_ | refine c_exit ?_ | refine c_ret ?_ | refine n_then ?_ | refine n_block ?_ | refine x_then ?_ | refine x_block_eq ?_ | refine x_block_ne rfl ?_ | refine r_then ?_ | refine r_block ?_ | refine s_nil ?_ | refine c_true rfl ?_ | refine c_false rfl ?_ | refine s_pur (p_move rfl) rfl ?_ | refine s_pur (p_assign rfl) rfl ?_ | refine s_pur (p_nil rfl) rfl ?_ | refine s_pur (p_pick_t rfl rfl) rfl ?_ | refine s_pur (p_pick_f rfl rfl) rfl ?_ | refine s_pur (p_len rfl Yba.underlying24) rfl ?_ | refine s_pur (p_idx1 rfl rfl rfl (by omega) Yba.underlying24 Yba.sizeOf112) rfl ?_ | refine s_pur (p_convF rfl Yba.underlying3 Yba.underlying28) rfl ?_ | refine s_pur (p_fmul rfl rfl hp) rfl ?_ | refine s_pur (p_fadd rfl rfl hs) rfl ?_ | refine s_pur (p_lssT rfl rfl (by omega)) rfl ?_ | refine s_pur (p_lssF rfl rfl (by omega)) rfl ?_ | refine s_pur (p_leqT rfl rfl (by omega)) rfl ?_ | refine s_pur (p_leqF rfl rfl (by omega)) rfl ?_ | refine s_pur (p_gtrT rfl rfl (by omega)) rfl ?_ | refine s_pur (p_gtrF rfl rfl (by omega)) rfl ?_ | refine s_pur (p_geqT rfl rfl (by omega)) rfl ?_ | refine s_pur (p_geqF rfl rfl (by omega)) rfl ?_ | refine s_pur (p_eqlT rfl rfl (by omega)) rfl ?_ | refine s_pur (p_eqlF rfl rfl (by omega)) rfl ?_ | refine s_pur (p_neqT rfl rfl (by omega)) rfl ?_ | refine s_pur (p_neqF rfl rfl (by omega)) rfl ?_)
    exact ret1 Yba.results5 rfl ⟨rfl, s, rfl, hk ▸ is⟩
  · have hm : i % ks.length < ks.length := Nat.mod_lt _ (by omega)
    obtain ⟨b, o, rfl, hcell⟩ := hcase.resolve_left h0
    have hld := hcell _ hm
    generalize hx : ks.getD (i % ks.length) 0 = x at hld
    have hxb : -32768 ≤ x ∧ x ≤ 32767 := by
      rw [← hx]
      refine hb _ ?_
      rw [List.getD_eq_getElem?_getD, List.getElem?_eq_getElem hm]
      exact List.getElem_mem hm
    obtain ⟨p, s, hp, hs, is⟩ := key_float x i hxb hi
    have hk : keyI ks i = x * 1024 + i := by simp only [keyI, h0, if_false, hx]
    repeat (first | refine c_seq ?_ | refine c_region ?_ | refine c_block ?_ | refine c_skip ?_ | refine c_exit ?_ | refine c_ret ?_ | refine n_then ?_ | refine n_block ?_ | refine x_then ?_ | refine x_block_eq ?_ | refine x_block_ne rfl ?_ | refine r_then ?_ | refine r_block ?_ | refine s_nil ?_ | refine c_true rfl ?_ | refine c_false rfl ?_ | refine s_pur (p_move rfl) rfl ?_ | refine s_pur (p_assign rfl) rfl ?_ | refine s_pur (p_nil rfl) rfl ?_ | refine s_pur (p_pick_t rfl rfl) rfl ?_ | refine s_pur (p_pick_f rfl rfl) rfl ?_ | refine s_pur (p_len rfl Yba.underlying24) rfl ?_ | refine s_pur (p_idx1 rfl rfl rfl (by omega) Yba.underlying24 Yba.sizeOf112) rfl ?_ | refine s_pur (p_load rfl Yba.isAgg112 (by assumption)) rfl ?_ | refine s_pur (p_remN rfl rfl (by omega) rfl) rfl ?_ | refine s_pur (p_conv64 rfl Yba.underlying112 Yba.underlying3 (by omega) (by omega)) rfl ?_ | refine s_pur (p_convF rfl Yba.underlying3 Yba.underlying28) rfl ?_ | refine s_pur (p_fmul rfl rfl hp) rfl ?_ | refine s_pur (p_fadd rfl rfl hs) rfl ?_ | refine s_pur (p_lssT rfl rfl (by omega)) rfl ?_ | refine s_pur (p_lssF rfl rfl (by omega)) rfl ?_ | refine s_pur (p_leqT rfl rfl (by omega)) rfl ?_ | refine s_pur (p_leqF rfl rfl (by omega)) rfl ?_ | refine s_pur (p_gtrT rfl rfl (by omega)) rfl ?_ | refine s_pur (p_gtrF rfl rfl (by omega)) rfl ?_ | refine s_pur (p_geqT rfl rfl (by omega)) rfl ?_ | refine s_pur (p_geqF rfl rfl (by omega)) rfl ?_ | refine s_pur (p_eqlT rfl rfl (by omega)) rfl ?_ | refine s_pur (p_eqlF rfl rfl (by omega)) rfl ?_ | refine s_pur (p_neqT rfl rfl (by omega)) rfl ?_ | refine s_pur (p_neqF rfl rfl (by omega)) rfl ?_)
    exact ret1 Yba.results5 rfl ⟨rfl, s, rfl, hk ▸ is⟩

theorem SlI.low {k : IntKind} {h h' : Heap} {v : Value} {xs : List Int} (hs : SlI k h v xs) (hl : Low h.size h h') : SlI k h' v xs := by
  obtain ⟨a, c, rfl, hcase⟩ := hs
  refine ⟨a, c, rfl, hcase.imp id ?_⟩
  rintro ⟨b, o, rfl, hcell⟩
  refine ⟨b, o, rfl, fun j hj => ?_⟩
  have h1 := hcell j hj
  rw [hc_congr (hl.same b (lt_of_hc h1))]; exact h1

theorem info3 : ∃ i, Yba.prog.info? 3 = some i ∧ i.zero = some (.int .i64 0) ∧ i.size = 1 ∧ i.bytes = 8 := info_parts (by kernel_rfl)

/-- append(xs, u) at []int, u laid as a slice of one just before. -/
theorem app23 {l : Env} {h : Heap} {ty : TypeId} {x y : Operand} {base n b : Nat} {v : Value} {u : Int} {xs : List Value} (hx : ev l x = some v) (hy : ev l y = some (.slice (some ⟨b, 0, none⟩) 1 1))
    (hown : Owns h base 3 1 v n xs) (hb : hc h b 0 = some (.int .i64 u)) (hn : n ≤ 1099511627776) (hbase : base ≤ h.size) :
    Eff Yba.prog (.call { callee := .builtin .append, args := #[x, y], argTypes := #[23, 23] }) ty l h
      (fun v' h' => Owns h' base 3 1 v' (n + 1) (xs ++ [.int .i64 u]) ∧ Grow h h' v.ownBlock ∧ ¬ v' = .slice none 0 0 ∧ (v'.ownBlock = v.ownBlock ∨ v'.ownBlock = some h.size)) := by
  obtain ⟨i, hi, hz, hs, hby⟩ := info3
  exact e_append1 hx hy Yba.underlying23 hi hz hs hby rfl hown hb rfl (by simp only [maxLen]; omega) (by omega) hbase

def ints (zs : List Int) : List Value := zs.map (Value.int .i64)
theorem ints_snoc (zs : List Int) (z : Int) : ints (zs ++ [z]) = ints zs ++ [.int .i64 z] := by simp [ints]

def mapE (n : Nat) (e : Int) : Int := (e % 18446744073709551616) % n

theorem take_snoc (xs : List Int) (k : Nat) (hk : k < xs.length) : xs.take (k + 1) = xs.take k ++ [xs.getD k 0] := by
  rw [List.take_succ_eq_append_getElem hk, List.getD_eq_getElem?_getD, List.getElem?_eq_getElem hk]; rfl

theorem wrapU (e : Int) : IntKind.u64.wrap e = e % 18446744073709551616 := by
  simp only [IntKind.wrap, IntKind.bits, IntKind.signed]; simp

theorem amap_ok (h : Heap) (v : Value) (xs : List Int) (n : Nat) (hv : SlI .i64 h v xs) (hl : xs.length ≤ 1000) (hn : n ≤ 1000) :
    CallsH Yba.prog 6 #[v, .int .i64 n] h (fun u h' => Owns h' h.size 3 1 u (if n = 0 then 0 else xs.length) (ints (if n = 0 then [] else xs.map (mapE n))) ∧ Low h.size h h' ∧ ¬ u = .slice none 0 0) := by
  obtain ⟨a, c, rfl, hcase⟩ := id hv
  refine calls_of [(0, .slice a xs.length c), (1, .int .i64 n)] Yba.func6 rfl Yba.ntmps6 (by simp) (.cons rfl (.cons rfl .nil)) ?_
  intro w0 hw0
  by_cases h0 : n = 0
  · repeat (first | refine c_seq ?_ | refine c_region ?_ | refine c_block ?_ | refine c_skip ?_ | refine c_exit ?_ | refine c_ret ?_ | refine n_then ?_ | refine n_block ?_ | refine x_then ?_ | refine x_block_eq ?_ | refine x_block_ne rfl ?_ | refine r_then ?_ | refine r_block ?_ | refine s_nil ?_ | refine c_true rfl ?_ | refine c_false rfl ?_ | refine s_pur (p_move rfl) rfl ?_ | refine s_pur (p_assign rfl) rfl ?_ | refine s_pur (p_nil rfl) rfl ?_ | refine s_pur (p_pick_t rfl rfl) rfl ?_ | refine s_pur (p_pick_f rfl rfl) rfl ?_ | refine s_pur (p_lssT rfl rfl (by omega)) rfl ?_ | refine s_pur (p_lssF rfl rfl (by omega)) rfl ?_ | refine s_pur (p_leqT rfl rfl (by omega)) rfl ?_ | refine s_pur (p_leqF rfl rfl (by omega)) rfl ?_ | refine s_pur (p_gtrT rfl rfl (by omega)) rfl ?_ | refine s_pur (p_gtrF rfl rfl (by omega)) rfl ?_ | refine s_pur (p_geqT rfl rfl (by omega)) rfl ?_ | refine s_pur (p_geqF rfl rfl (by omega)) rfl ?_ | refine s_pur (p_eqlT rfl rfl (by omega)) rfl ?_ | refine s_pur (p_eqlF rfl rfl (by omega)) rfl ?_ | refine s_pur (p_neqT rfl rfl (by omega)) rfl ?_ | refine s_pur (p_neqF rfl rfl (by omega)) rfl ?_)
    refine s_eff (e_slice0 Yba.underlying23 Yba.sizeOf3) rfl ?_
    rintro _ h1 ⟨rfl, hn1⟩
    repeat (first | refine c_seq ?_ | refine c_region ?_ | refine c_block ?_ | refine c_skip ?_ | refine c_exit ?_ | refine c_ret ?_ | refine n_then ?_ | refine n_block ?_ | refine x_then ?_ | refine x_block_eq ?_ | refine x_block_ne rfl ?_ | refine r_then ?_ | refine r_block ?_ | refine s_nil ?_ | refine c_true rfl ?_ | refine c_false rfl ?_ | refine s_pur (p_move rfl) rfl ?_ | refine s_pur (p_assign rfl) rfl ?_ | refine s_pur (p_nil rfl) rfl ?_ | refine s_pur (p_pick_t rfl rfl) rfl ?_ | refine s_pur (p_pick_f rfl rfl) rfl ?_ | refine s_pur (p_lssT rfl rfl (by omega)) rfl ?_ | refine s_pur (p_lssF rfl rfl (by omega)) rfl ?_ | refine s_pur (p_leqT rfl rfl (by omega)) rfl ?_ | refine s_pur (p_leqF rfl rfl (by omega)) rfl ?_ | refine s_pur (p_gtrT rfl rfl (by omega)) rfl ?_ | refine s_pur (p_gtrF rfl rfl (by omega)) rfl ?_ | refine s_pur (p_geqT rfl rfl (by omega)) rfl ?_ | refine s_pur (p_geqF rfl rfl (by omega)) rfl ?_ | refine s_pur (p_eqlT rfl rfl (by omega)) rfl ?_ | refine s_pur (p_eqlF rfl rfl (by omega)) rfl ?_ | refine s_pur (p_neqT rfl rfl (by omega)) rfl ?_ | refine s_pur (p_neqF rfl rfl (by omega)) rfl ?_)
    refine ret1 Yba.results6 rfl ⟨?_, (Low.refl _ _).new hn1 (Nat.le_refl _), by simp⟩
    simp only [h0, if_true]
    exact Owns.empty hn1 (Nat.le_refl _)
  · repeat (first | refine c_seq ?_ | refine c_region ?_ | refine c_block ?_ | refine c_skip ?_ | refine c_exit ?_ | refine c_ret ?_ | refine n_then ?_ | refine n_block ?_ | refine x_then ?_ | refine x_block_eq ?_ | refine x_block_ne rfl ?_ | refine r_then ?_ | refine r_block ?_ | refine s_nil ?_ | refine c_true rfl ?_ | refine c_false rfl ?_ | refine s_pur (p_move rfl) rfl ?_ | refine s_pur (p_assign rfl) rfl ?_ | refine s_pur (p_nil rfl) rfl ?_ | refine s_pur (p_pick_t rfl rfl) rfl ?_ | refine s_pur (p_pick_f rfl rfl) rfl ?_ | refine s_pur (p_lssT rfl rfl (by omega)) rfl ?_ | refine s_pur (p_lssF rfl rfl (by omega)) rfl ?_ | refine s_pur (p_leqT rfl rfl (by omega)) rfl ?_ | refine s_pur (p_leqF rfl rfl (by omega)) rfl ?_ | refine s_pur (p_gtrT rfl rfl (by omega)) rfl ?_ | refine s_pur (p_gtrF rfl rfl (by omega)) rfl ?_ | refine s_pur (p_geqT rfl rfl (by omega)) rfl ?_ | refine s_pur (p_geqF rfl rfl (by omega)) rfl ?_ | refine s_pur (p_eqlT rfl rfl (by omega)) rfl ?_ | refine s_pur (p_eqlF rfl rfl (by omega)) rfl ?_ | refine s_pur (p_neqT rfl rfl (by omega)) rfl ?_ | refine s_pur (p_neqF rfl rfl (by omega)) rfl ?_)
    refine s_eff (e_slice0 Yba.underlying23 Yba.sizeOf3) rfl ?_
    rintro _ h1 ⟨rfl, hn1⟩
    repeat (first | refine c_seq ?_ | refine c_region ?_ | refine c_block ?_ | refine c_skip ?_ | refine c_exit ?_ | refine c_ret ?_ | refine n_then ?_ | refine n_block ?_ | refine x_then ?_ | refine x_block_eq ?_ | refine x_block_ne rfl ?_ | refine r_then ?_ | refine r_block ?_ | refine s_nil ?_ | refine c_true rfl ?_ | refine c_false rfl ?_ | refine s_pur (p_move rfl) rfl ?_ | refine s_pur (p_assign rfl) rfl ?_ | refine s_pur (p_nil rfl) rfl ?_ | refine s_pur (p_pick_t rfl rfl) rfl ?_ | refine s_pur (p_pick_f rfl rfl) rfl ?_ | refine s_pur (p_len rfl Yba.underlying23) rfl ?_ | refine s_pur (p_idx1 rfl rfl rfl (by omega) Yba.underlying23 Yba.sizeOf3) rfl ?_ | refine s_pur (p_lssT rfl rfl (by omega)) rfl ?_ | refine s_pur (p_lssF rfl rfl (by omega)) rfl ?_ | refine s_pur (p_leqT rfl rfl (by omega)) rfl ?_ | refine s_pur (p_leqF rfl rfl (by omega)) rfl ?_ | refine s_pur (p_gtrT rfl rfl (by omega)) rfl ?_ | refine s_pur (p_gtrF rfl rfl (by omega)) rfl ?_ | refine s_pur (p_geqT rfl rfl (by omega)) rfl ?_ | refine s_pur (p_geqF rfl rfl (by omega)) rfl ?_ | refine s_pur (p_eqlT rfl rfl (by omega)) rfl ?_ | refine s_pur (p_eqlF rfl rfl (by omega)) rfl ?_ | refine s_pur (p_neqT rfl rfl (by omega)) rfl ?_ | refine s_pur (p_neqF rfl rfl (by omega)) rfl ?_)
    refine c_loop (fun x : Nat × Value => [(1, .int .i64 n), (5, x.2), (12, .slice a xs.length c), (13, .int .i64 xs.length), (14, .int .i64 x.1)])
      (fun x h' => x.1 ≤ xs.length ∧ Owns h' h.size 3 1 x.2 x.1 (ints ((xs.take x.1).map (mapE n))) ∧ Low h.size h h' ∧ ¬ x.2 = .slice none 0 0) (fun x => xs.length - x.1) (0, .slice (some ⟨h.size, 0, none⟩) 0 0)
      ⟨by simp, by simpa [ints] using Owns.empty hn1 (Nat.le_refl _), (Low.refl _ _).new hn1 (Nat.le_refl _), by simp⟩ (.cons rfl (.cons rfl (.cons rfl (.cons rfl (.cons rfl .nil))))) ?_
    rintro ⟨k, u⟩ hr ⟨hk, hown, hlow, hnn⟩
    by_cases hlt : k < xs.length
    · obtain ⟨b, o, rfl, hcell⟩ := hcase.resolve_left (by omega)
      have hld := hcell k hlt
      rw [← hc_congr (hlow.same b (lt_of_hc hld))] at hld
      generalize hx : xs.getD k 0 = x at hld
      have hU : IntKind.u64.wrap (n : Int) = n := wrapU64_eq (by omega) (by omega)
      have hU2 : IntKind.u64.wrap x = ((x % 18446744073709551616).toNat : Int) := by rw [wrapU]; omega
      have hmod : (x % 18446744073709551616).toNat % n < n := Nat.mod_lt _ (by omega)
      have hmE : mapE n x = (((x % 18446744073709551616).toNat % n : Nat) : Int) := by unfold mapE; rw [Int.natCast_emod, Int.toNat_of_nonneg (by omega)]
      repeat (first | refine c_seq ?_ | refine c_region ?_ | refine c_block ?_ | refine c_skip ?_ | refine c_exit ?_ | refine c_ret ?_ | refine n_then ?_ | refine n_block ?_ | refine x_then ?_ | refine x_block_eq ?_ | refine x_block_ne rfl ?_ | refine r_then ?_ | refine r_block ?_ | refine s_nil ?_ | refine c_true rfl ?_ | refine c_false rfl ?_ | refine s_pur (p_move rfl) rfl ?_ | refine s_pur (p_assign rfl) rfl ?_ | refine s_pur (p_nil rfl) rfl ?_ | refine s_pur (p_pick_t rfl rfl) rfl ?_ | refine s_pur (p_pick_f rfl rfl) rfl ?_ | refine s_pur (p_len rfl Yba.underlying23) rfl ?_ | refine s_pur (p_idx1 rfl rfl rfl (by omega) Yba.underlying23 Yba.sizeOf3) rfl ?_ | refine s_pur (p_load rfl Yba.isAgg3 (by assumption)) rfl ?_ | refine s_pur (hU2 ▸ p_conv rfl Yba.underlying3 Yba.underlying113 : Pur Yba.prog (.convert 3 113 (.tmp 19)) _ _ _ (.int .u64 ((x % 18446744073709551616).toNat : Int))) rfl ?_ | refine s_pur (p_convU64 rfl Yba.underlying3 Yba.underlying113 (by omega) (by omega)) rfl ?_ | refine s_pur (p_remN rfl rfl (by omega) rfl) rfl ?_ | refine s_pur (p_conv64 rfl Yba.underlying113 Yba.underlying3 (by omega) (by omega)) rfl ?_ | refine s_pur (p_lssT rfl rfl (by omega)) rfl ?_ | refine s_pur (p_lssF rfl rfl (by omega)) rfl ?_ | refine s_pur (p_leqT rfl rfl (by omega)) rfl ?_ | refine s_pur (p_leqF rfl rfl (by omega)) rfl ?_ | refine s_pur (p_gtrT rfl rfl (by omega)) rfl ?_ | refine s_pur (p_gtrF rfl rfl (by omega)) rfl ?_ | refine s_pur (p_geqT rfl rfl (by omega)) rfl ?_ | refine s_pur (p_geqF rfl rfl (by omega)) rfl ?_ | refine s_pur (p_eqlT rfl rfl (by omega)) rfl ?_ | refine s_pur (p_eqlF rfl rfl (by omega)) rfl ?_ | refine s_pur (p_neqT rfl rfl (by omega)) rfl ?_ | refine s_pur (p_neqF rfl rfl (by omega)) rfl ?_)
      refine s_eff (e_slice1 rfl Yba.underlying23 Yba.sizeOf3 Yba.zeroValue3 rfl) rfl ?_
      rintro _ h2 ⟨rfl, hn2⟩
      refine s_eff (app23 rfl rfl (hown.new hn2) (by rw [hc_of hn2.at_]; rfl) (by omega) (by have := hn2.size; have := hlow.size; omega)) rfl ?_
      rintro v' h3 ⟨hown3, hg3, hnn3, _⟩
      repeat (first | refine c_seq ?_ | refine c_region ?_ | refine c_block ?_ | refine c_skip ?_ | refine c_exit ?_ | refine c_ret ?_ | refine n_then ?_ | refine n_block ?_ | refine x_then ?_ | refine x_block_eq ?_ | refine x_block_ne rfl ?_ | refine r_then ?_ | refine r_block ?_ | refine s_nil ?_ | refine c_true rfl ?_ | refine c_false rfl ?_ | refine s_pur (p_move rfl) rfl ?_ | refine s_pur (p_assign rfl) rfl ?_ | refine s_pur (p_nil rfl) rfl ?_ | refine s_pur (p_pick_t rfl rfl) rfl ?_ | refine s_pur (p_pick_f rfl rfl) rfl ?_ | refine s_pur (p_add rfl rfl rfl (by omega) (by omega)) rfl ?_)
      refine c_next (k + 1, v') ⟨hlt, ?_, ?_, hnn3⟩ (.cons rfl (.cons rfl (.cons rfl (.cons rfl (.cons rfl .nil))))) (by simp only; omega)
      · rw [take_snoc xs k hlt, List.map_append, List.map_cons, List.map_nil, ints_snoc, hx, hmE]; exact hown3
      · exact (hlow.new hn2 (by have := hlow.size; omega)).grow hg3 (by have := hn2.size; have := hlow.size; omega) hown.base
    · repeat (first | refine c_seq ?_ | refine c_region ?_ | refine c_block ?_ | refine c_skip ?_ | refine c_exit ?_ | refine c_ret ?_ | refine n_then ?_ | refine n_block ?_ | refine x_then ?_ | refine x_block_eq ?_ | refine x_block_ne rfl ?_ | refine r_then ?_ | refine r_block ?_ | refine s_nil ?_ | refine c_true rfl ?_ | refine c_false rfl ?_ | refine s_pur (p_move rfl) rfl ?_ | refine s_pur (p_assign rfl) rfl ?_ | refine s_pur (p_nil rfl) rfl ?_ | refine s_pur (p_pick_t rfl rfl) rfl ?_ | refine s_pur (p_pick_f rfl rfl) rfl ?_ | refine s_pur (p_lssT rfl rfl (by omega)) rfl ?_ | refine s_pur (p_lssF rfl rfl (by omega)) rfl ?_ | refine s_pur (p_leqT rfl rfl (by omega)) rfl ?_ | refine s_pur (p_leqF rfl rfl (by omega)) rfl ?_ | refine s_pur (p_gtrT rfl rfl (by omega)) rfl ?_ | refine s_pur (p_gtrF rfl rfl (by omega)) rfl ?_ | refine s_pur (p_geqT rfl rfl (by omega)) rfl ?_ | refine s_pur (p_geqF rfl rfl (by omega)) rfl ?_ | refine s_pur (p_eqlT rfl rfl (by omega)) rfl ?_ | refine s_pur (p_eqlF rfl rfl (by omega)) rfl ?_ | refine s_pur (p_neqT rfl rfl (by omega)) rfl ?_ | refine s_pur (p_neqF rfl rfl (by omega)) rfl ?_)
      refine ret1 Yba.results6 rfl ⟨?_, hlow, hnn⟩
      have : k = xs.length := by omega
      subst this
      simp only [h0, if_false]
      rw [List.take_length] at hown
      exact hown
/-! ### rotated, reversed -/
def rotE (zs : List Int) (rot : Nat) : List Int := (List.range zs.length).map fun i => zs.getD ((i + rot % zs.length) % zs.length) 0

theorem range_take_snoc {α : Type} (f : Nat → α) (k : Nat) : (List.range (k + 1)).map f = (List.range k).map f ++ [f k] := by
  rw [List.range_succ]; simp

theorem rotated_ok (h : Heap) (v : Value) (xs : List Int) (rot : Nat) (hv : SlI .i64 h v xs) (hl : xs.length ≤ 1000) (hr : rot < 256) :
    CallsH Yba.prog 7 #[v, .int .u8 rot] h (fun u h' => Owns h' h.size 3 1 u xs.length (ints (rotE xs rot)) ∧ Low h.size h h' ∧ ¬ u = .slice none 0 0) := by
  obtain ⟨a, c, rfl, hcase⟩ := id hv
  refine calls_of [(0, .slice a xs.length c), (1, .int .u8 rot)] Yba.func7 rfl Yba.ntmps7 (by simp) (.cons rfl (.cons rfl .nil)) ?_
  intro w0 hw0
  by_cases h0 : xs.length = 0
  · repeat (first | refine c_seq ?_ | refine c_region ?_ | refine c_block ?_ | refine c_skip ?_ | refine c_exit ?_ | refine c_ret ?_ | refine n_then ?_ | refine n_block ?_ | refine x_then ?_ | refine x_block_eq ?_ | refine x_block_ne rfl ?_ | refine r_then ?_ | refine r_block ?_ | refine s_nil ?_ | refine c_true rfl ?_ | refine c_false rfl ?_ | refine s_pur (p_move rfl) rfl ?_ | refine s_pur (p_assign rfl) rfl ?_ | refine s_pur (p_nil rfl) rfl ?_ | refine s_pur (p_pick_t rfl rfl) rfl ?_ | refine s_pur (p_pick_f rfl rfl) rfl ?_ | refine s_pur (p_lssT rfl rfl (by omega)) rfl ?_ | refine s_pur (p_lssF rfl rfl (by omega)) rfl ?_ | refine s_pur (p_leqT rfl rfl (by omega)) rfl ?_ | refine s_pur (p_leqF rfl rfl (by omega)) rfl ?_ | refine s_pur (p_gtrT rfl rfl (by omega)) rfl ?_ | refine s_pur (p_gtrF rfl rfl (by omega)) rfl ?_ | refine s_pur (p_geqT rfl rfl (by omega)) rfl ?_ | refine s_pur (p_geqF rfl rfl (by omega)) rfl ?_ | refine s_pur (p_eqlT rfl rfl (by omega)) rfl ?_ | refine s_pur (p_eqlF rfl rfl (by omega)) rfl ?_ | refine s_pur (p_neqT rfl rfl (by omega)) rfl ?_ | refine s_pur (p_neqF rfl rfl (by omega)) rfl ?_)
    refine s_eff (e_slice0 Yba.underlying23 Yba.sizeOf3) rfl ?_
    rintro _ h1 ⟨rfl, hn1⟩
    repeat (first | refine c_seq ?_ | refine c_region ?_ | refine c_block ?_ | refine c_skip ?_ | refine c_exit ?_ | refine c_ret ?_ | refine n_then ?_ | refine n_block ?_ | refine x_then ?_ | refine x_block_eq ?_ | refine x_block_ne rfl ?_ | refine r_then ?_ | refine r_block ?_ | refine s_nil ?_ | refine c_true rfl ?_ | refine c_false rfl ?_ | refine s_pur (p_move rfl) rfl ?_ | refine s_pur (p_assign rfl) rfl ?_ | refine s_pur (p_nil rfl) rfl ?_ | refine s_pur (p_pick_t rfl rfl) rfl ?_ | refine s_pur (p_pick_f rfl rfl) rfl ?_ | refine s_pur (p_len rfl Yba.underlying23) rfl ?_ | refine s_pur (p_idx1 rfl rfl rfl (by omega) Yba.underlying23 Yba.sizeOf3) rfl ?_ | refine s_pur (p_lssT rfl rfl (by omega)) rfl ?_ | refine s_pur (p_lssF rfl rfl (by omega)) rfl ?_ | refine s_pur (p_leqT rfl rfl (by omega)) rfl ?_ | refine s_pur (p_leqF rfl rfl (by omega)) rfl ?_ | refine s_pur (p_gtrT rfl rfl (by omega)) rfl ?_ | refine s_pur (p_gtrF rfl rfl (by omega)) rfl ?_ | refine s_pur (p_geqT rfl rfl (by omega)) rfl ?_ | refine s_pur (p_geqF rfl rfl (by omega)) rfl ?_ | refine s_pur (p_eqlT rfl rfl (by omega)) rfl ?_ | refine s_pur (p_eqlF rfl rfl (by omega)) rfl ?_ | refine s_pur (p_neqT rfl rfl (by omega)) rfl ?_ | refine s_pur (p_neqF rfl rfl (by omega)) rfl ?_)
    refine ret1 Yba.results7 rfl ⟨?_, (Low.refl _ _).new hn1 (Nat.le_refl _), by simp⟩
    have : xs = [] := List.eq_nil_of_length_eq_zero h0
    subst this
    exact Owns.empty hn1 (Nat.le_refl _)
  · obtain ⟨b, o, rfl, hcell⟩ := hcase.resolve_left h0
    have hrm : rot % xs.length < xs.length := Nat.mod_lt _ (by omega)
    repeat (first | refine c_seq ?_ | refine c_region ?_ | refine c_block ?_ | refine c_skip ?_ | refine c_exit ?_ | refine c_ret ?_ | refine n_then ?_ | refine n_block ?_ | refine x_then ?_ | refine x_block_eq ?_ | refine x_block_ne rfl ?_ | refine r_then ?_ | refine r_block ?_ | refine s_nil ?_ | refine c_true rfl ?_ | refine c_false rfl ?_ | refine s_pur (p_move rfl) rfl ?_ | refine s_pur (p_assign rfl) rfl ?_ | refine s_pur (p_nil rfl) rfl ?_ | refine s_pur (p_pick_t rfl rfl) rfl ?_ | refine s_pur (p_pick_f rfl rfl) rfl ?_ | refine s_pur (p_lssT rfl rfl (by omega)) rfl ?_ | refine s_pur (p_lssF rfl rfl (by omega)) rfl ?_ | refine s_pur (p_leqT rfl rfl (by omega)) rfl ?_ | refine s_pur (p_leqF rfl rfl (by omega)) rfl ?_ | refine s_pur (p_gtrT rfl rfl (by omega)) rfl ?_ | refine s_pur (p_gtrF rfl rfl (by omega)) rfl ?_ | refine s_pur (p_geqT rfl rfl (by omega)) rfl ?_ | refine s_pur (p_geqF rfl rfl (by omega)) rfl ?_ | refine s_pur (p_eqlT rfl rfl (by omega)) rfl ?_ | refine s_pur (p_eqlF rfl rfl (by omega)) rfl ?_ | refine s_pur (p_neqT rfl rfl (by omega)) rfl ?_ | refine s_pur (p_neqF rfl rfl (by omega)) rfl ?_)
    refine s_eff (e_slice0 Yba.underlying23 Yba.sizeOf3) rfl ?_
    rintro _ h1 ⟨rfl, hn1⟩
    repeat (first | refine c_seq ?_ | refine c_region ?_ | refine c_block ?_ | refine c_skip ?_ | refine c_exit ?_ | refine c_ret ?_ | refine n_then ?_ | refine n_block ?_ | refine x_then ?_ | refine x_block_eq ?_ | refine x_block_ne rfl ?_ | refine r_then ?_ | refine r_block ?_ | refine s_nil ?_ | refine c_true rfl ?_ | refine c_false rfl ?_ | refine s_pur (p_move rfl) rfl ?_ | refine s_pur (p_assign rfl) rfl ?_ | refine s_pur (p_nil rfl) rfl ?_ | refine s_pur (p_pick_t rfl rfl) rfl ?_ | refine s_pur (p_pick_f rfl rfl) rfl ?_ | refine s_pur (p_len rfl Yba.underlying23) rfl ?_ | refine s_pur (p_idx1 rfl rfl rfl (by omega) Yba.underlying23 Yba.sizeOf3) rfl ?_ | refine s_pur (p_conv64 rfl Yba.underlying5 Yba.underlying3 (by omega) (by omega)) rfl ?_ | refine s_pur (p_remN rfl rfl (by omega) rfl) rfl ?_ | refine s_pur (p_lssT rfl rfl (by omega)) rfl ?_ | refine s_pur (p_lssF rfl rfl (by omega)) rfl ?_ | refine s_pur (p_leqT rfl rfl (by omega)) rfl ?_ | refine s_pur (p_leqF rfl rfl (by omega)) rfl ?_ | refine s_pur (p_gtrT rfl rfl (by omega)) rfl ?_ | refine s_pur (p_gtrF rfl rfl (by omega)) rfl ?_ | refine s_pur (p_geqT rfl rfl (by omega)) rfl ?_ | refine s_pur (p_geqF rfl rfl (by omega)) rfl ?_ | refine s_pur (p_eqlT rfl rfl (by omega)) rfl ?_ | refine s_pur (p_eqlF rfl rfl (by omega)) rfl ?_ | refine s_pur (p_neqT rfl rfl (by omega)) rfl ?_ | refine s_pur (p_neqF rfl rfl (by omega)) rfl ?_)
    refine c_loop (fun x : Nat × Value => [(0, .slice (some ⟨b, o, none⟩) xs.length c), (5, x.2), (6, .int .i64 ((rot % xs.length : Nat) : Int)), (7, .int .i64 x.1)])
      (fun x h' => x.1 ≤ xs.length ∧ Owns h' h.size 3 1 x.2 x.1 (ints ((List.range x.1).map fun i => xs.getD ((i + rot % xs.length) % xs.length) 0)) ∧ Low h.size h h' ∧ ¬ x.2 = .slice none 0 0) (fun x => xs.length - x.1) (0, .slice (some ⟨h.size, 0, none⟩) 0 0)
      ⟨by simp, by simpa [ints] using Owns.empty hn1 (Nat.le_refl _), (Low.refl _ _).new hn1 (Nat.le_refl _), by simp⟩ (.cons rfl (.cons rfl (.cons rfl (.cons rfl .nil)))) ?_
    rintro ⟨k, u⟩ hr ⟨hk, hown, hlow, hnn⟩
    by_cases hlt : k < xs.length
    · have hm : (k + rot % xs.length) % xs.length < xs.length := Nat.mod_lt _ (by omega)
      have hld := hcell _ hm
      rw [← hc_congr (hlow.same b (lt_of_hc hld))] at hld
      repeat (first | refine c_seq ?_ | refine c_region ?_ | refine c_block ?_ | refine c_skip ?_ | refine c_exit ?_ | refine c_ret ?_ | refine n_then ?_ | refine n_block ?_ | refine x_then ?_ | refine x_block_eq ?_ | refine x_block_ne rfl ?_ | refine r_then ?_ | refine r_block ?_ | refine s_nil ?_ | refine c_true rfl ?_ | refine c_false rfl ?_ | refine s_pur (p_move rfl) rfl ?_ | refine s_pur (p_assign rfl) rfl ?_ | refine s_pur (p_nil rfl) rfl ?_ | refine s_pur (p_pick_t rfl rfl) rfl ?_ | refine s_pur (p_pick_f rfl rfl) rfl ?_ | refine s_pur (p_len rfl Yba.underlying23) rfl ?_ | refine s_pur (p_idx1 rfl rfl rfl (by omega) Yba.underlying23 Yba.sizeOf3) rfl ?_ | refine s_pur (p_load rfl Yba.isAgg3 (by assumption)) rfl ?_ | refine s_pur (p_add rfl rfl (c := ((k + rot % xs.length : Nat) : Int)) (by omega) (by omega) (by omega)) rfl ?_ | refine s_pur (p_remN rfl rfl (by omega) rfl) rfl ?_ | refine s_pur (p_lssT rfl rfl (by omega)) rfl ?_ | refine s_pur (p_lssF rfl rfl (by omega)) rfl ?_ | refine s_pur (p_leqT rfl rfl (by omega)) rfl ?_ | refine s_pur (p_leqF rfl rfl (by omega)) rfl ?_ | refine s_pur (p_gtrT rfl rfl (by omega)) rfl ?_ | refine s_pur (p_gtrF rfl rfl (by omega)) rfl ?_ | refine s_pur (p_geqT rfl rfl (by omega)) rfl ?_ | refine s_pur (p_geqF rfl rfl (by omega)) rfl ?_ | refine s_pur (p_eqlT rfl rfl (by omega)) rfl ?_ | refine s_pur (p_eqlF rfl rfl (by omega)) rfl ?_ | refine s_pur (p_neqT rfl rfl (by omega)) rfl ?_ | refine s_pur (p_neqF rfl rfl (by omega)) rfl ?_)
      refine s_eff (e_slice1 rfl Yba.underlying23 Yba.sizeOf3 Yba.zeroValue3 rfl) rfl ?_
      rintro _ h2 ⟨rfl, hn2⟩
      refine s_eff (app23 rfl rfl (hown.new hn2) (by rw [hc_of hn2.at_]; rfl) (by omega) (by have := hn2.size; have := hlow.size; omega)) rfl ?_
      rintro v' h3 ⟨hown3, hg3, hnn3, _⟩
      repeat (first | refine c_seq ?_ | refine c_region ?_ | refine c_block ?_ | refine c_skip ?_ | refine c_exit ?_ | refine c_ret ?_ | refine n_then ?_ | refine n_block ?_ | refine x_then ?_ | refine x_block_eq ?_ | refine x_block_ne rfl ?_ | refine r_then ?_ | refine r_block ?_ | refine s_nil ?_ | refine c_true rfl ?_ | refine c_false rfl ?_ | refine s_pur (p_move rfl) rfl ?_ | refine s_pur (p_assign rfl) rfl ?_ | refine s_pur (p_nil rfl) rfl ?_ | refine s_pur (p_pick_t rfl rfl) rfl ?_ | refine s_pur (p_pick_f rfl rfl) rfl ?_ | refine s_pur (p_add rfl rfl rfl (by omega) (by omega)) rfl ?_)
      refine c_next (k + 1, v') ⟨hlt, ?_, ?_, hnn3⟩ (.cons rfl (.cons rfl (.cons rfl (.cons rfl .nil)))) (by simp only; omega)
      · rw [range_take_snoc, ints_snoc]; exact hown3
      · exact (hlow.new hn2 (by have := hlow.size; omega)).grow hg3 (by have := hn2.size; have := hlow.size; omega) hown.base
    · repeat (first | refine c_seq ?_ | refine c_region ?_ | refine c_block ?_ | refine c_skip ?_ | refine c_exit ?_ | refine c_ret ?_ | refine n_then ?_ | refine n_block ?_ | refine x_then ?_ | refine x_block_eq ?_ | refine x_block_ne rfl ?_ | refine r_then ?_ | refine r_block ?_ | refine s_nil ?_ | refine c_true rfl ?_ | refine c_false rfl ?_ | refine s_pur (p_move rfl) rfl ?_ | refine s_pur (p_assign rfl) rfl ?_ | refine s_pur (p_nil rfl) rfl ?_ | refine s_pur (p_pick_t rfl rfl) rfl ?_ | refine s_pur (p_pick_f rfl rfl) rfl ?_ | refine s_pur (p_len rfl Yba.underlying23) rfl ?_ | refine s_pur (p_idx1 rfl rfl rfl (by omega) Yba.underlying23 Yba.sizeOf3) rfl ?_ | refine s_pur (p_lssT rfl rfl (by omega)) rfl ?_ | refine s_pur (p_lssF rfl rfl (by omega)) rfl ?_ | refine s_pur (p_leqT rfl rfl (by omega)) rfl ?_ | refine s_pur (p_leqF rfl rfl (by omega)) rfl ?_ | refine s_pur (p_gtrT rfl rfl (by omega)) rfl ?_ | refine s_pur (p_gtrF rfl rfl (by omega)) rfl ?_ | refine s_pur (p_geqT rfl rfl (by omega)) rfl ?_ | refine s_pur (p_geqF rfl rfl (by omega)) rfl ?_ | refine s_pur (p_eqlT rfl rfl (by omega)) rfl ?_ | refine s_pur (p_eqlF rfl rfl (by omega)) rfl ?_ | refine s_pur (p_neqT rfl rfl (by omega)) rfl ?_ | refine s_pur (p_neqF rfl rfl (by omega)) rfl ?_)
      refine ret1 Yba.results7 rfl ⟨?_, hlow, hnn⟩
      have : k = xs.length := by omega
      subst this
      exact hown

theorem reversed_ok (h : Heap) (v : Value) (xs : List Int) (hv : SlI .i64 h v xs) (hl : xs.length ≤ 1000) :
    CallsH Yba.prog 8 #[v] h (fun u h' => Owns h' h.size 3 1 u xs.length (ints xs.reverse) ∧ Low h.size h h' ∧ ¬ u = .slice none 0 0) := by
  obtain ⟨a, c, rfl, hcase⟩ := id hv
  refine calls_of [(0, .slice a xs.length c)] Yba.func8 rfl Yba.ntmps8 (by simp) (.cons rfl .nil) ?_
  intro w0 hw0
  repeat (first | refine c_seq ?_ | refine c_region ?_ | refine c_block ?_ | refine c_skip ?_ | refine c_exit ?_ | refine c_ret ?_ | refine n_then ?_ | refine n_block ?_ | refine x_then ?_ | refine x_block_eq ?_ | refine x_block_ne rfl ?_ | refine r_then ?_ | refine r_block ?_ | refine s_nil ?_ | refine c_true rfl ?_ | refine c_false rfl ?_ | refine s_pur (p_move rfl) rfl ?_ | refine s_pur (p_assign rfl) rfl ?_ | refine s_pur (p_nil rfl) rfl ?_ | refine s_pur (p_pick_t rfl rfl) rfl ?_ | refine s_pur (p_pick_f rfl rfl) rfl ?_ | refine s_pur (p_lssT rfl rfl (by omega)) rfl ?_ | refine s_pur (p_lssF rfl rfl (by omega)) rfl ?_ | refine s_pur (p_leqT rfl rfl (by omega)) rfl ?_ | refine s_pur (p_leqF rfl rfl (by omega)) rfl ?_ | refine s_pur (p_gtrT rfl rfl (by omega)) rfl ?_ | refine s_pur (p_gtrF rfl rfl (by omega)) rfl ?_ | refine s_pur (p_geqT rfl rfl (by omega)) rfl ?_ | refine s_pur (p_geqF rfl rfl (by omega)) rfl ?_ | refine s_pur (p_eqlT rfl rfl (by omega)) rfl ?_ | refine s_pur (p_eqlF rfl rfl (by omega)) rfl ?_ | refine s_pur (p_neqT rfl rfl (by omega)) rfl ?_ | refine s_pur (p_neqF rfl rfl (by omega)) rfl ?_)
  refine s_eff (e_slice0 Yba.underlying23 Yba.sizeOf3) rfl ?_
  rintro _ h1 ⟨rfl, hn1⟩
  repeat (first | refine c_seq ?_ | refine c_region ?_ | refine c_block ?_ | refine c_skip ?_ | refine c_exit ?_ | refine c_ret ?_ | refine n_then ?_ | refine n_block ?_ | refine x_then ?_ | refine x_block_eq ?_ | refine x_block_ne rfl ?_ | refine r_then ?_ | refine r_block ?_ | refine s_nil ?_ | refine c_true rfl ?_ | refine c_false rfl ?_ | refine s_pur (p_move rfl) rfl ?_ | refine s_pur (p_assign rfl) rfl ?_ | refine s_pur (p_nil rfl) rfl ?_ | refine s_pur (p_pick_t rfl rfl) rfl ?_ | refine s_pur (p_pick_f rfl rfl) rfl ?_ | refine s_pur (p_len rfl Yba.underlying23) rfl ?_ | refine s_pur (p_idx1 rfl rfl rfl (by omega) Yba.underlying23 Yba.sizeOf3) rfl ?_ | refine s_pur (p_sub rfl rfl rfl (by omega) (by omega)) rfl ?_ | refine s_pur (p_lssT rfl rfl (by omega)) rfl ?_ | refine s_pur (p_lssF rfl rfl (by omega)) rfl ?_ | refine s_pur (p_leqT rfl rfl (by omega)) rfl ?_ | refine s_pur (p_leqF rfl rfl (by omega)) rfl ?_ | refine s_pur (p_gtrT rfl rfl (by omega)) rfl ?_ | refine s_pur (p_gtrF rfl rfl (by omega)) rfl ?_ | refine s_pur (p_geqT rfl rfl (by omega)) rfl ?_ | refine s_pur (p_geqF rfl rfl (by omega)) rfl ?_ | refine s_pur (p_eqlT rfl rfl (by omega)) rfl ?_ | refine s_pur (p_eqlF rfl rfl (by omega)) rfl ?_ | refine s_pur (p_neqT rfl rfl (by omega)) rfl ?_ | refine s_pur (p_neqF rfl rfl (by omega)) rfl ?_)
  refine c_loop (fun x : Nat × Value => [(0, .slice a xs.length c), (3, x.2), (4, .int .i64 ((xs.length : Int) - 1 - x.1))])
    (fun x h' => x.1 ≤ xs.length ∧ Owns h' h.size 3 1 x.2 x.1 (ints (xs.reverse.take x.1)) ∧ Low h.size h h' ∧ ¬ x.2 = .slice none 0 0) (fun x => xs.length - x.1) (0, .slice (some ⟨h.size, 0, none⟩) 0 0)
    ⟨by simp, by simpa [ints] using Owns.empty hn1 (Nat.le_refl _), (Low.refl _ _).new hn1 (Nat.le_refl _), by simp⟩ (.cons rfl (.cons rfl (.cons' rfl (int_eq (by simp)) .nil))) ?_
  rintro ⟨k, u⟩ hr ⟨hk, hown, hlow, hnn⟩
  by_cases hlt : k < xs.length
  · obtain ⟨b, o, rfl, hcell⟩ := hcase.resolve_left (by omega)
    have hld := hcell (xs.length - 1 - k) (by omega)
    rw [← hc_congr (hlow.same b (lt_of_hc hld))] at hld
    have hrev : xs.reverse.take (k + 1) = xs.reverse.take k ++ [xs.getD (xs.length - 1 - k) 0] := by
      rw [take_snoc _ k (by simpa using hlt)]
      congr 2
      rw [List.getD_eq_getElem?_getD, List.getD_eq_getElem?_getD, List.getElem?_reverse hlt]
    repeat (first | refine c_seq ?_ | refine c_region ?_ | refine c_block ?_ | refine c_skip ?_ | refine c_exit ?_ | refine c_ret ?_ | refine n_then ?_ | refine n_block ?_ | refine x_then ?_ | refine x_block_eq ?_ | refine x_block_ne rfl ?_ | refine r_then ?_ | refine r_block ?_ | refine s_nil ?_ | refine c_true rfl ?_ | refine c_false rfl ?_ | refine s_pur (p_move rfl) rfl ?_ | refine s_pur (p_assign rfl) rfl ?_ | refine s_pur (p_nil rfl) rfl ?_ | refine s_pur (p_pick_t rfl rfl) rfl ?_ | refine s_pur (p_pick_f rfl rfl) rfl ?_ | refine s_pur (p_load rfl Yba.isAgg3 (by assumption)) rfl ?_ | refine s_pur (p_idx1 (j := xs.length - 1 - k) rfl rfl (by omega) (by omega) Yba.underlying23 Yba.sizeOf3) rfl ?_ | refine s_pur (p_lssT rfl rfl (by omega)) rfl ?_ | refine s_pur (p_lssF rfl rfl (by omega)) rfl ?_ | refine s_pur (p_leqT rfl rfl (by omega)) rfl ?_ | refine s_pur (p_leqF rfl rfl (by omega)) rfl ?_ | refine s_pur (p_gtrT rfl rfl (by omega)) rfl ?_ | refine s_pur (p_gtrF rfl rfl (by omega)) rfl ?_ | refine s_pur (p_geqT rfl rfl (by omega)) rfl ?_ | refine s_pur (p_geqF rfl rfl (by omega)) rfl ?_ | refine s_pur (p_eqlT rfl rfl (by omega)) rfl ?_ | refine s_pur (p_eqlF rfl rfl (by omega)) rfl ?_ | refine s_pur (p_neqT rfl rfl (by omega)) rfl ?_ | refine s_pur (p_neqF rfl rfl (by omega)) rfl ?_)
    refine s_eff (e_slice1 rfl Yba.underlying23 Yba.sizeOf3 Yba.zeroValue3 rfl) rfl ?_
    rintro _ h2 ⟨rfl, hn2⟩
    refine s_eff (app23 rfl rfl (hown.new hn2) (by rw [hc_of hn2.at_]; rfl) (by omega) (by have := hn2.size; have := hlow.size; omega)) rfl ?_
    rintro v' h3 ⟨hown3, hg3, hnn3, _⟩
    repeat (first | refine c_seq ?_ | refine c_region ?_ | refine c_block ?_ | refine c_skip ?_ | refine c_exit ?_ | refine c_ret ?_ | refine n_then ?_ | refine n_block ?_ | refine x_then ?_ | refine x_block_eq ?_ | refine x_block_ne rfl ?_ | refine r_then ?_ | refine r_block ?_ | refine s_nil ?_ | refine c_true rfl ?_ | refine c_false rfl ?_ | refine s_pur (p_move rfl) rfl ?_ | refine s_pur (p_assign rfl) rfl ?_ | refine s_pur (p_nil rfl) rfl ?_ | refine s_pur (p_pick_t rfl rfl) rfl ?_ | refine s_pur (p_pick_f rfl rfl) rfl ?_ | refine s_pur (p_sub rfl rfl rfl (by omega) (by omega)) rfl ?_ | refine s_pur (p_add rfl rfl rfl (by omega) (by omega)) rfl ?_)
    refine c_next (k + 1, v') ⟨hlt, ?_, ?_, hnn3⟩ (.cons rfl (.cons rfl (.cons' rfl (int_eq (by simp only; omega)) .nil))) (by simp only; omega)
    · rw [hrev, ints_snoc]; exact hown3
    · exact (hlow.new hn2 (by have := hlow.size; omega)).grow hg3 (by have := hn2.size; have := hlow.size; omega) hown.base
  · repeat (first | refine c_seq ?_ | refine c_region ?_ | refine c_block ?_ | refine c_skip ?_ | refine c_exit ?_ | refine c_ret ?_ | refine n_then ?_ | refine n_block ?_ | refine x_then ?_ | refine x_block_eq ?_ | refine x_block_ne rfl ?_ | refine r_then ?_ | refine r_block ?_ | refine s_nil ?_ | refine c_true rfl ?_ | refine c_false rfl ?_ | refine s_pur (p_move rfl) rfl ?_ | refine s_pur (p_assign rfl) rfl ?_ | refine s_pur (p_nil rfl) rfl ?_ | refine s_pur (p_pick_t rfl rfl) rfl ?_ | refine s_pur (p_pick_f rfl rfl) rfl ?_ | refine s_pur (p_len rfl Yba.underlying23) rfl ?_ | refine s_pur (p_idx1 rfl rfl rfl (by omega) Yba.underlying23 Yba.sizeOf3) rfl ?_ | refine s_pur (p_lssT rfl rfl (by omega)) rfl ?_ | refine s_pur (p_lssF rfl rfl (by omega)) rfl ?_ | refine s_pur (p_leqT rfl rfl (by omega)) rfl ?_ | refine s_pur (p_leqF rfl rfl (by omega)) rfl ?_ | refine s_pur (p_gtrT rfl rfl (by omega)) rfl ?_ | refine s_pur (p_gtrF rfl rfl (by omega)) rfl ?_ | refine s_pur (p_geqT rfl rfl (by omega)) rfl ?_ | refine s_pur (p_geqF rfl rfl (by omega)) rfl ?_ | refine s_pur (p_eqlT rfl rfl (by omega)) rfl ?_ | refine s_pur (p_eqlF rfl rfl (by omega)) rfl ?_ | refine s_pur (p_neqT rfl rfl (by omega)) rfl ?_ | refine s_pur (p_neqF rfl rfl (by omega)) rfl ?_)
    refine ret1 Yba.results8 rfl ⟨?_, hlow, hnn⟩
    have : k = xs.length := by omega
    subst this
    rw [show xs.reverse.take xs.length = xs.reverse from by rw [← List.length_reverse, List.take_length]] at hown
    exact hown
end Go.Proofs.Ybulkdiqq
