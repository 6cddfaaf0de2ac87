/-
  C10: zzs5490aadd.
-/
import Derived.Test.YbulkdireC9
namespace Go.Proofs.Ybulkdire
set_option linter.unusedSimpArgs false
set_option linter.unusedVariables false
set_option linter.unnecessarySimpa false
open Go Go.RowKit V
set_option maxRecDepth 100000

namespace V
section
variable {P : Program} {N : Nt} {w0 : World} {l : Env} {h : Heap} {Q : Exit → Act → World → Prop} {ops : Array Oper} {rest : List Oper} {ty : TypeId}
/-- A call that its guard wants. -/
theorem s_call_g {d f : Nat} {xs : List Operand} {ats : Array TypeId} {p : String} {af : Array Edge} {vs : List Value} {R : Value → Heap → Prop} {j : Nat} {want : Bool} (hg : gd ops l j = some want)
    (hcall : ∀ args w, (callFunc f args).run P w = .ok (.enter f args) w) (hx : evl l xs = some vs) (hd : Nat.blt d N.n = true) (hc : CallsH P f vs.toArray h R)
    (k : ∀ v h', R v h' → Fin N w0 (LW P ops Q rest) ((d, v) :: l) h') :
    Fin N w0 (LW P ops Q (⟨some d, .call { callee := .value (.func f), args := xs.toArray, argTypes := ats }, ty, p, af, some (j, want)⟩ :: rest)) l h := by
  refine ⟨fun a w ha hw => ⟨?_⟩⟩
  have hy := yielded_of ha hg
  refine BigFrame.wpList_want (by simp [Region.wanted, hy]) fun K hK => ?_
  have hm := evl_map ha.evOk xs vs hx
  have hrun : (execOp a.eval ⟨some d, .call { callee := .value (.func f), args := xs.toArray, argTypes := ats }, ty, p, af, some (j, want)⟩).run P w = .ok (.enter f vs.toArray) w := by
    simp only [execOp, resolve, Sem.run_bind, Act.eval, Deferred.ofValue, Sem.run_pure, Result.andThen_ok, invoke, List.map_toArray, Array.empty_append, Array.append_empty]
    rw [show xs.map a.eval = vs from hm]
    exact hcall _ _
  unfold Oper.wp
  rw [hrun, Oper.upon_enter]
  refine (hc.out w hw.heap).mono ?_
  rintro e w' ⟨v, rfl, hR, h1, h2, h3⟩
  exact hK _ _ ((k v _ hR).out _ _ (ha.put (lt_of_blt hd) v) (hw.same h1 h2 h3)).out
/-- x[:q]. -/
theorem p_sliceH {x hi : Operand} {t e : TypeId} {b o n c q size : Nat} {k' : IntKind} (hx : ev l x = some (.slice (some ⟨b, o, none⟩) n c)) (hhi : ev l hi = some (.int k' (q : Int))) (h2 : q ≤ c)
    (hu : P.underlying t = some (.slice e)) (hs : ∀ w, (sizeOf e).run P w = .ok size w) :
    Pur P (.slice t x none (some hi) none) ty l h (.slice (some ⟨b, o, none⟩) q c) := by
  refine ⟨fun ρ w d pp af g hρ hw => ?_⟩
  have h2' : (q : Int) ≤ (c : Int) := by omega
  simp only [execOp, hρ _ _ hx, hρ _ _ hhi, Instr.sliceAt, Instr.slice, Sem.run_bind, run_underlying hu, Result.andThen_ok, Option.map_none, Option.map_some, Instr.sliceBounds, Instr.sliceBound, asIntOf, Sem.run_pure, Option.isSome_none]
  simp [h2', hs, add_none]
theorem p_append_none {x y : Operand} {t e : TypeId} {i : TypeInfo} {base size n : Nat} {v : Value} {xs : List Value} (hx : ev l x = some v) (hy : ev l y = some (.slice none 0 0))
    (hu : P.underlying t = some (.slice e)) (hi : P.info? e = some i) (hown : Owns h base e size v n xs) :
    Pur P (.call { callee := .builtin .append, args := #[x, y], argTypes := #[t, t] }) ty l h v := by
  refine ⟨fun ρ w d p af g hρ hw => ?_⟩
  subst hw
  have hrun := run_append_owned_none (P := P) (w := w) base t ty e i size hu hi v n xs hown
  simp [execOp, resolve, invoke, builtin, hρ _ _ hx, hρ _ _ hy, hrun]
theorem Owns.make0N {h h' : Heap} {base : Nat} {e : TypeId} {c size : Nat} {cells : Array Value} (hn : New h h' (.cells cells e)) (hs : cells.size = c * size) (hb : base ≤ h.size) (hm : c ≤ maxLen) : Owns h' base e size (.slice (some ⟨h.size, 0, none⟩) 0 c) 0 [] :=
  ⟨by simp, .inr ⟨h.size, c, cells, rfl, hb, hn.at_, by omega, hm, hs, by simp⟩⟩
end
end V

theorem info61 : ∃ i, Yba.prog.info? 61 = some i ∧ i.zero = some (.agg #[.int .u64 0, .int .i64 0, .slice none 0 0]) ∧ i.size = 3 ∧ i.bytes = 40 := info_parts (by kernel_rfl)

theorem p_build61 {l : Env} {h : Heap} {ty : TypeId} {x y z : Operand} {a b : Int} {s : Option Addr} {n c : Nat} (h0 : ev l x = some (.int .u64 a)) (h1 : ev l y = some (.int .i64 b)) (h2 : ev l z = some (.slice s n c)) :
    Pur Yba.prog (.build 61 #[(0, x), (1, y), (2, z)]) ty l h (.agg [.int .u64 a, .int .i64 b, .slice s n c].toArray) := by
  refine ⟨fun ρ w d p af g hρ hw => ?_⟩
  simp only [execOp, Instr.build, List.map_toArray, List.map_cons, List.map_nil, hρ _ _ h0, hρ _ _ h1, hρ _ _ h2]
  simp [Yba.zeroValue61, run_underlying Yba.underlying61, Array.mapM_eq_mapM_toList, List.mapM_cons, Yba.sizeOf23, Yba.sizeOf2, Yba.sizeOf25, Instr.fill, Value.cells]
theorem e_one61 {l : Env} {h : Heap} {ty : TypeId} {x : Operand} {e : Ent} (hx : ev l x = some (.agg (ents e).toArray)) :
    Eff Yba.prog (.buildSlice 29 1 #[(0, x)]) ty l h (fun u h' => u = .slice (some ⟨h.size, 0, none⟩) 1 1 ∧ New h h' (.cells (ents e).toArray 61)) := by
  refine ⟨fun ρ w d p af g hρ hw => ?_⟩
  refine ⟨.slice (some ⟨h.size, 0, none⟩) 1 1, w.alloc (.cells (ents e).toArray 61), .inl ?_, ⟨rfl, ?_⟩, rfl, rfl, rfl⟩
  · simp [execOp, Instr.buildSlice, run_underlying Yba.underlying29, Yba.sizeOf61, Yba.zeroValue61, newRow, hw, Instr.fill, hρ _ _ hx, Value.cells, ents, Array.range_succ, Array.range_zero']
  · rw [← hw]; exact New.push _ _
/-- append(out, e). -/
theorem app61 {l : Env} {h : Heap} {ty : TypeId} {x y : Operand} {base n b : Nat} {v : Value} {e : Ent} {xs : List Value} (hx : ev l x = some v) (hy : ev l y = some (.slice (some ⟨b, 0, none⟩) 1 1))
    (hown : Owns h base 61 3 v n xs) (hb : h[b]? = some (.cells (ents e).toArray 61 (0, 0))) (hn : n ≤ 1048576) (hbase : base ≤ h.size) :
    Eff Yba.prog (.call { callee := .builtin .append, args := #[x, y], argTypes := #[29, 29] }) ty l h
      (fun v' h' => Owns h' base 61 3 v' (n + 1) (xs ++ ents e) ∧ Grow h h' v.ownBlock) := by
  obtain ⟨i, hi, hz, hs, hby⟩ := info61
  have := e_append (P := Yba.prog) (ty := ty) hx hy Yba.underlying29 hi hz hs hby rfl (by omega) hown (news := ents e) rfl (by
    intro j u hj
    rw [add_none, cell_hc]
    show hc h b (0 + j) = _
    rw [hc_of hb]
    simpa using hj) (by
    intro u hu
    simp [ents] at hu
    rcases hu with rfl | rfl | rfl <;> rfl) (by simp only [maxLen]; omega) (by omega) hbase
  refine ⟨fun ρ w d p af g hρ hw => ?_⟩
  obtain ⟨v', w', hr, ⟨h2, h3, h4, h5⟩, rest⟩ := this.out ρ w d p af g hρ hw
  exact ⟨v', w', hr, ⟨h2, h3⟩, rest⟩
/-- append(out, m...). -/
theorem appM {l : Env} {h : Heap} {ty : TypeId} {x y : Operand} {base n m : Nat} {v u : Value} {E : Nat → Ent} {xs : List Value} (hx : ev l x = some v) (hy : ev l y = some u)
    (hown : Owns h base 61 3 v n xs) (mv : MV h u m E) (hn : n + m ≤ 1048576) (hbase : base ≤ h.size) :
    Eff Yba.prog (.call { callee := .builtin .append, args := #[x, y], argTypes := #[29, 29] }) ty l h
      (fun v' h' => Owns h' base 61 3 v' (n + m) (xs ++ rowM m E) ∧ Grow h h' v.ownBlock) := by
  obtain ⟨i, hi, hz, hs, hby⟩ := info61
  rcases mv with ⟨rfl, rfl⟩ | ⟨b, o, mc, c, rfl, hmc, hb, hcell⟩
  · have := p_append_none (P := Yba.prog) (ty := ty) hx hy Yba.underlying29 hi hown
    refine ⟨fun ρ w d p af g hρ hw => ⟨v, w, .inl (this.out ρ w d p af g hρ hw), ⟨?_, ?_⟩, rfl, rfl, rfl⟩⟩
    · rw [hw]; simpa [rowM] using hown
    · rw [hw]; exact ⟨Nat.le_refl _, fun _ _ _ => rfl⟩
  · have := e_append (P := Yba.prog) (ty := ty) hx hy Yba.underlying29 hi hz hs hby rfl (by omega) hown (news := rowM m E) (rowM_len m E) (by
      intro j w hj
      have hlt : j < m * 3 := by
        have := (List.getElem?_eq_some_iff.1 hj).1
        rwa [rowM_len] at this
      rw [add_none, cell_hc]
      show hc h b (o + j) = _
      rw [hc_of hb]
      have e1 := hcell (j / 3) (by omega) (j % 3) (by omega)
      have e2 := rowM_get (E := E) (show j / 3 < m by omega) (show j % 3 < 3 by omega)
      rw [show j / 3 * 3 + j % 3 = j by omega] at e2
      rw [show o + j / 3 * 3 + j % 3 = o + j by omega] at e1
      rw [e1, ← e2]; exact hj) rowM_one (by simp only [maxLen]; omega) (by omega) hbase
    refine ⟨fun ρ w d p af g hρ hw => ?_⟩
    obtain ⟨v', w', hr, ⟨h2, h3, h4, h5⟩, rest⟩ := this.out ρ w d p af g hρ hw
    exact ⟨v', w', hr, ⟨h2, h3⟩, rest⟩

theorem Kp.grow {h h1 h2 : Heap} {base n : Nat} {v : Value} {xs : List Value} {e : TypeId} {size : Nat} (a : Kp h h1) (g : Grow h1 h2 v.ownBlock) (ho : Owns h1 base e size v n xs) (hb : h.size ≤ base) : Kp h h2 :=
  ⟨Nat.le_trans a.size g.size, fun k hk => by
    rw [g.other k (Nat.lt_of_lt_of_le hk a.size) (fun e => by have := ho.base k e.symm; omega)]
    exact a.same k hk⟩

set_option maxHeartbeats 8000000 in
theorem zadd_ok (h : Heap) (cap n len bb : Nat) (E : Nat → Ent) (id off : Int) (v : Value) (mv : MV h v n E) (hn : n ≤ 65536) (hsum : sumL n E ≤ cap) (hcap : cap < 1000) (hlen : len < 64) :
    CallsH Yba.prog 7 #[v, .int .i64 (sumL n E : Nat), .int .i64 cap, .int .u64 id, .int .i64 off, .slice (some ⟨bb, 0, none⟩) len len] h (fun u h' => Kp h h' ∧
      (((cap < len ∨ ∃ i, i < n ∧ (E i).key = (id, off)) ∧ u = .tuple #[v, .int .i64 (sumL n E : Nat)]) ∨
       (len ≤ cap ∧ (∀ i, i < n → (E i).key ≠ (id, off)) ∧ ∃ v', u = .tuple #[v', .int .i64 ((len + sumL (evict cap len E n) E : Nat) : Int)] ∧ ∀ nb, MV h' v' (evict cap len E n + 1) (cns ⟨id, off, bb, len, nb⟩ E)))) := by
  refine calls_of (N := 73) [(0, v), (1, .int .i64 (sumL n E : Nat)), (2, .int .i64 cap), (3, .int .u64 id), (4, .int .i64 off), (5, .slice (some ⟨bb, 0, none⟩) len len)] Yba.func7 rfl rfl (by simp) (by repeat (first | exact ArgsAre.nil | refine ArgsAre.cons rfl ?_)) ?_
  intro w0 _
  obtain ⟨va, vc, rfl⟩ := mv.slice
  obtain ⟨i61, hi61, hz61, hs61, hb61⟩ := info61
  refine c_seq ?_
  repeat (first | refine c_region ?_ | refine c_block ?_ | refine c_skip ?_ | refine c_exit ?_ | refine c_ret ?_ | refine n_then ?_ | refine n_block ?_ | refine x_then ?_ | refine x_block_eq ?_ | refine x_block_ne rfl ?_ | refine r_then ?_ | refine r_block ?_ | refine s_nil ?_ | refine c_true rfl ?_ | refine c_false rfl ?_ | refine s_pur (p_move rfl) rfl ?_ | refine s_pur (p_assign rfl) rfl ?_ | refine s_pur (p_nil rfl) rfl ?_ | refine s_pur (p_pick_t rfl rfl) rfl ?_ | refine s_pur (p_pick_f rfl rfl) rfl ?_)
  refine c_mid [(0, .slice va n vc), (1, .int .i64 (sumL n E : Nat)), (2, .int .i64 cap), (3, .int .u64 id), (4, .int .i64 off), (5, .slice (some ⟨bb, 0, none⟩) len len), (14, .int .i64 len)] (fun q => h = q) ?_ ?_
  · repeat (first | refine c_seq ?_ | refine c_region ?_ | refine c_block ?_ | refine c_skip ?_ | refine c_exit ?_ | refine c_ret ?_ | refine n_then ?_ | refine n_block ?_ | refine x_then ?_ | refine x_block_eq ?_ | refine x_block_ne rfl ?_ | refine r_then ?_ | refine r_block ?_ | refine s_nil ?_ | refine c_true rfl ?_ | refine c_false rfl ?_ | refine s_pur (p_move rfl) rfl ?_ | refine s_pur (p_assign rfl) rfl ?_ | refine s_pur (p_nil rfl) rfl ?_ | refine s_pur (p_pick_t rfl rfl) rfl ?_ | refine s_pur (p_pick_f rfl rfl) rfl ?_ | refine s_pur (p_len rfl Yba.underlying25) rfl ?_ | refine s_pur (p_idx1 rfl rfl rfl (by omega) Yba.underlying25 Yba.sizeOf5) rfl ?_)
    exact m_done rfl (by repeat (first | exact Sub.nil | refine Sub.cons rfl ?_))
  rintro _ rfl
  by_cases hbig : cap < len
  · repeat (first | refine c_seq ?_ | refine c_region ?_ | refine c_block ?_ | refine c_skip ?_ | refine c_exit ?_ | refine c_ret ?_ | refine n_then ?_ | refine n_block ?_ | refine x_then ?_ | refine x_block_eq ?_ | refine x_block_ne rfl ?_ | refine r_then ?_ | refine r_block ?_ | refine s_nil ?_ | refine c_true rfl ?_ | refine c_false rfl ?_ | refine s_pur (p_move rfl) rfl ?_ | refine s_pur (p_assign rfl) rfl ?_ | refine s_pur (p_nil rfl) rfl ?_ | refine s_pur (p_pick_t rfl rfl) rfl ?_ | refine s_pur (p_pick_f rfl rfl) rfl ?_ | refine s_pur (p_lssT rfl rfl (by omega)) rfl ?_ | refine s_pur (p_lssF rfl rfl (by omega)) rfl ?_ | refine s_pur (p_leqT rfl rfl (by omega)) rfl ?_ | refine s_pur (p_leqF rfl rfl (by omega)) rfl ?_ | refine s_pur (p_gtrT rfl rfl (by omega)) rfl ?_ | refine s_pur (p_gtrF rfl rfl (by omega)) rfl ?_ | refine s_pur (p_geqT rfl rfl (by omega)) rfl ?_ | refine s_pur (p_geqF rfl rfl (by omega)) rfl ?_ | refine s_pur (p_eqlT rfl rfl (by omega)) rfl ?_ | refine s_pur (p_eqlF rfl rfl (by omega)) rfl ?_ | refine s_pur (p_neqT rfl rfl (by omega)) rfl ?_ | refine s_pur (p_neqF rfl rfl (by omega)) rfl ?_ | refine s_skip rfl rfl rfl ?_ | refine s_skip' rfl rfl rfl ?_ | refine s_pur_g rfl (p_move rfl) rfl ?_ | refine s_pur_g rfl (p_assign rfl) rfl ?_ | refine s_pur_g rfl (p_nil rfl) rfl ?_ | refine s_pur_g rfl (p_pick_t rfl rfl) rfl ?_ | refine s_pur_g rfl (p_pick_f rfl rfl) rfl ?_ | refine s_pur_g rfl (p_lssT rfl rfl (by omega)) rfl ?_ | refine s_pur_g rfl (p_lssF rfl rfl (by omega)) rfl ?_ | refine s_pur_g rfl (p_leqT rfl rfl (by omega)) rfl ?_ | refine s_pur_g rfl (p_leqF rfl rfl (by omega)) rfl ?_ | refine s_pur_g rfl (p_gtrT rfl rfl (by omega)) rfl ?_ | refine s_pur_g rfl (p_gtrF rfl rfl (by omega)) rfl ?_ | refine s_pur_g rfl (p_geqT rfl rfl (by omega)) rfl ?_ | refine s_pur_g rfl (p_geqF rfl rfl (by omega)) rfl ?_ | refine s_pur_g rfl (p_eqlT rfl rfl (by omega)) rfl ?_ | refine s_pur_g rfl (p_eqlF rfl rfl (by omega)) rfl ?_ | refine s_pur_g rfl (p_neqT rfl rfl (by omega)) rfl ?_ | refine s_pur_g rfl (p_neqF rfl rfl (by omega)) rfl ?_)
    exact ret2 Yba.results7 rfl rfl ⟨Kp.refl _, .inl ⟨.inl hbig, rfl⟩⟩
  by_cases hin : ∃ i, i < n ∧ (E i).key = (id, off)
  · have hin' := hin
    obtain ⟨i, hi, hkey⟩ := hin
    repeat (first | refine c_seq ?_ | refine c_region ?_ | refine c_block ?_ | refine c_skip ?_ | refine c_exit ?_ | refine c_ret ?_ | refine n_then ?_ | refine n_block ?_ | refine x_then ?_ | refine x_block_eq ?_ | refine x_block_ne rfl ?_ | refine r_then ?_ | refine r_block ?_ | refine s_nil ?_ | refine c_true rfl ?_ | refine c_false rfl ?_ | refine s_pur (p_move rfl) rfl ?_ | refine s_pur (p_assign rfl) rfl ?_ | refine s_pur (p_nil rfl) rfl ?_ | refine s_pur (p_pick_t rfl rfl) rfl ?_ | refine s_pur (p_pick_f rfl rfl) rfl ?_ | refine s_pur (p_lssT rfl rfl (by omega)) rfl ?_ | refine s_pur (p_lssF rfl rfl (by omega)) rfl ?_ | refine s_pur (p_leqT rfl rfl (by omega)) rfl ?_ | refine s_pur (p_leqF rfl rfl (by omega)) rfl ?_ | refine s_pur (p_gtrT rfl rfl (by omega)) rfl ?_ | refine s_pur (p_gtrF rfl rfl (by omega)) rfl ?_ | refine s_pur (p_geqT rfl rfl (by omega)) rfl ?_ | refine s_pur (p_geqF rfl rfl (by omega)) rfl ?_ | refine s_pur (p_eqlT rfl rfl (by omega)) rfl ?_ | refine s_pur (p_eqlF rfl rfl (by omega)) rfl ?_ | refine s_pur (p_neqT rfl rfl (by omega)) rfl ?_ | refine s_pur (p_neqF rfl rfl (by omega)) rfl ?_ | refine s_skip rfl rfl rfl ?_ | refine s_skip' rfl rfl rfl ?_ | refine s_pur_g rfl (p_move rfl) rfl ?_ | refine s_pur_g rfl (p_assign rfl) rfl ?_ | refine s_pur_g rfl (p_nil rfl) rfl ?_ | refine s_pur_g rfl (p_pick_t rfl rfl) rfl ?_ | refine s_pur_g rfl (p_pick_f rfl rfl) rfl ?_ | refine s_pur_g rfl (p_lssT rfl rfl (by omega)) rfl ?_ | refine s_pur_g rfl (p_lssF rfl rfl (by omega)) rfl ?_ | refine s_pur_g rfl (p_leqT rfl rfl (by omega)) rfl ?_ | refine s_pur_g rfl (p_leqF rfl rfl (by omega)) rfl ?_ | refine s_pur_g rfl (p_gtrT rfl rfl (by omega)) rfl ?_ | refine s_pur_g rfl (p_gtrF rfl rfl (by omega)) rfl ?_ | refine s_pur_g rfl (p_geqT rfl rfl (by omega)) rfl ?_ | refine s_pur_g rfl (p_geqF rfl rfl (by omega)) rfl ?_ | refine s_pur_g rfl (p_eqlT rfl rfl (by omega)) rfl ?_ | refine s_pur_g rfl (p_eqlF rfl rfl (by omega)) rfl ?_ | refine s_pur_g rfl (p_neqT rfl rfl (by omega)) rfl ?_ | refine s_pur_g rfl (p_neqF rfl rfl (by omega)) rfl ?_)
    refine s_call_g rfl Yba.call14 rfl rfl (find_ok h va n vc E id off mv (by omega)) ?_
    rintro _ q ⟨rfl, (⟨hno, rfl⟩ | ⟨j, hj, _, rfl⟩)⟩
    · exact absurd hkey (hno i hi)
    · repeat (first | refine c_seq ?_ | refine c_region ?_ | refine c_block ?_ | refine c_skip ?_ | refine c_exit ?_ | refine c_ret ?_ | refine n_then ?_ | refine n_block ?_ | refine x_then ?_ | refine x_block_eq ?_ | refine x_block_ne rfl ?_ | refine r_then ?_ | refine r_block ?_ | refine s_nil ?_ | refine c_true rfl ?_ | refine c_false rfl ?_ | refine s_pur (p_move rfl) rfl ?_ | refine s_pur (p_assign rfl) rfl ?_ | refine s_pur (p_nil rfl) rfl ?_ | refine s_pur (p_pick_t rfl rfl) rfl ?_ | refine s_pur (p_pick_f rfl rfl) rfl ?_ | refine s_pur (p_lssT rfl rfl (by omega)) rfl ?_ | refine s_pur (p_lssF rfl rfl (by omega)) rfl ?_ | refine s_pur (p_leqT rfl rfl (by omega)) rfl ?_ | refine s_pur (p_leqF rfl rfl (by omega)) rfl ?_ | refine s_pur (p_gtrT rfl rfl (by omega)) rfl ?_ | refine s_pur (p_gtrF rfl rfl (by omega)) rfl ?_ | refine s_pur (p_geqT rfl rfl (by omega)) rfl ?_ | refine s_pur (p_geqF rfl rfl (by omega)) rfl ?_ | refine s_pur (p_eqlT rfl rfl (by omega)) rfl ?_ | refine s_pur (p_eqlF rfl rfl (by omega)) rfl ?_ | refine s_pur (p_neqT rfl rfl (by omega)) rfl ?_ | refine s_pur (p_neqF rfl rfl (by omega)) rfl ?_ | refine s_skip rfl rfl rfl ?_ | refine s_skip' rfl rfl rfl ?_ | refine s_pur_g rfl (p_move rfl) rfl ?_ | refine s_pur_g rfl (p_assign rfl) rfl ?_ | refine s_pur_g rfl (p_nil rfl) rfl ?_ | refine s_pur_g rfl (p_pick_t rfl rfl) rfl ?_ | refine s_pur_g rfl (p_pick_f rfl rfl) rfl ?_ | refine s_pur_g rfl (p_lssT rfl rfl (by omega)) rfl ?_ | refine s_pur_g rfl (p_lssF rfl rfl (by omega)) rfl ?_ | refine s_pur_g rfl (p_leqT rfl rfl (by omega)) rfl ?_ | refine s_pur_g rfl (p_leqF rfl rfl (by omega)) rfl ?_ | refine s_pur_g rfl (p_gtrT rfl rfl (by omega)) rfl ?_ | refine s_pur_g rfl (p_gtrF rfl rfl (by omega)) rfl ?_ | refine s_pur_g rfl (p_geqT rfl rfl (by omega)) rfl ?_ | refine s_pur_g rfl (p_geqF rfl rfl (by omega)) rfl ?_ | refine s_pur_g rfl (p_eqlT rfl rfl (by omega)) rfl ?_ | refine s_pur_g rfl (p_eqlF rfl rfl (by omega)) rfl ?_ | refine s_pur_g rfl (p_neqT rfl rfl (by omega)) rfl ?_ | refine s_pur_g rfl (p_neqF rfl rfl (by omega)) rfl ?_)
      exact ret2 Yba.results7 rfl rfl ⟨Kp.refl _, .inl ⟨.inr hin', rfl⟩⟩
  have hno : ∀ i, i < n → (E i).key ≠ (id, off) := fun i hi e => hin ⟨i, hi, e⟩
  refine c_mid [(0, .slice va n vc), (1, .int .i64 (sumL n E : Nat)), (2, .int .i64 cap), (3, .int .u64 id), (4, .int .i64 off), (5, .slice (some ⟨bb, 0, none⟩) len len), (14, .int .i64 len)] (fun q => h = q) ?_ ?_
  · repeat (first | refine c_seq ?_ | refine c_region ?_ | refine c_block ?_ | refine c_skip ?_ | refine c_exit ?_ | refine c_ret ?_ | refine n_then ?_ | refine n_block ?_ | refine x_then ?_ | refine x_block_eq ?_ | refine x_block_ne rfl ?_ | refine r_then ?_ | refine r_block ?_ | refine s_nil ?_ | refine c_true rfl ?_ | refine c_false rfl ?_ | refine s_pur (p_move rfl) rfl ?_ | refine s_pur (p_assign rfl) rfl ?_ | refine s_pur (p_nil rfl) rfl ?_ | refine s_pur (p_pick_t rfl rfl) rfl ?_ | refine s_pur (p_pick_f rfl rfl) rfl ?_ | refine s_pur (p_lssT rfl rfl (by omega)) rfl ?_ | refine s_pur (p_lssF rfl rfl (by omega)) rfl ?_ | refine s_pur (p_leqT rfl rfl (by omega)) rfl ?_ | refine s_pur (p_leqF rfl rfl (by omega)) rfl ?_ | refine s_pur (p_gtrT rfl rfl (by omega)) rfl ?_ | refine s_pur (p_gtrF rfl rfl (by omega)) rfl ?_ | refine s_pur (p_geqT rfl rfl (by omega)) rfl ?_ | refine s_pur (p_geqF rfl rfl (by omega)) rfl ?_ | refine s_pur (p_eqlT rfl rfl (by omega)) rfl ?_ | refine s_pur (p_eqlF rfl rfl (by omega)) rfl ?_ | refine s_pur (p_neqT rfl rfl (by omega)) rfl ?_ | refine s_pur (p_neqF rfl rfl (by omega)) rfl ?_ | refine s_skip rfl rfl rfl ?_ | refine s_skip' rfl rfl rfl ?_ | refine s_pur_g rfl (p_move rfl) rfl ?_ | refine s_pur_g rfl (p_assign rfl) rfl ?_ | refine s_pur_g rfl (p_nil rfl) rfl ?_ | refine s_pur_g rfl (p_pick_t rfl rfl) rfl ?_ | refine s_pur_g rfl (p_pick_f rfl rfl) rfl ?_ | refine s_pur_g rfl (p_lssT rfl rfl (by omega)) rfl ?_ | refine s_pur_g rfl (p_lssF rfl rfl (by omega)) rfl ?_ | refine s_pur_g rfl (p_leqT rfl rfl (by omega)) rfl ?_ | refine s_pur_g rfl (p_leqF rfl rfl (by omega)) rfl ?_ | refine s_pur_g rfl (p_gtrT rfl rfl (by omega)) rfl ?_ | refine s_pur_g rfl (p_gtrF rfl rfl (by omega)) rfl ?_ | refine s_pur_g rfl (p_geqT rfl rfl (by omega)) rfl ?_ | refine s_pur_g rfl (p_geqF rfl rfl (by omega)) rfl ?_ | refine s_pur_g rfl (p_eqlT rfl rfl (by omega)) rfl ?_ | refine s_pur_g rfl (p_eqlF rfl rfl (by omega)) rfl ?_ | refine s_pur_g rfl (p_neqT rfl rfl (by omega)) rfl ?_ | refine s_pur_g rfl (p_neqF rfl rfl (by omega)) rfl ?_)
    refine s_call_g rfl Yba.call14 rfl rfl (find_ok h va n vc E id off mv (by omega)) ?_
    rintro _ q ⟨hq, (⟨_, rfl⟩ | ⟨j, hj, hk, rfl⟩)⟩
    · obtain rfl : h = q := hq.symm
      repeat (first | refine c_seq ?_ | refine c_region ?_ | refine c_block ?_ | refine c_skip ?_ | refine c_exit ?_ | refine c_ret ?_ | refine n_then ?_ | refine n_block ?_ | refine x_then ?_ | refine x_block_eq ?_ | refine x_block_ne rfl ?_ | refine r_then ?_ | refine r_block ?_ | refine s_nil ?_ | refine c_true rfl ?_ | refine c_false rfl ?_ | refine s_pur (p_move rfl) rfl ?_ | refine s_pur (p_assign rfl) rfl ?_ | refine s_pur (p_nil rfl) rfl ?_ | refine s_pur (p_pick_t rfl rfl) rfl ?_ | refine s_pur (p_pick_f rfl rfl) rfl ?_ | refine s_pur (p_lssT rfl rfl (by omega)) rfl ?_ | refine s_pur (p_lssF rfl rfl (by omega)) rfl ?_ | refine s_pur (p_leqT rfl rfl (by omega)) rfl ?_ | refine s_pur (p_leqF rfl rfl (by omega)) rfl ?_ | refine s_pur (p_gtrT rfl rfl (by omega)) rfl ?_ | refine s_pur (p_gtrF rfl rfl (by omega)) rfl ?_ | refine s_pur (p_geqT rfl rfl (by omega)) rfl ?_ | refine s_pur (p_geqF rfl rfl (by omega)) rfl ?_ | refine s_pur (p_eqlT rfl rfl (by omega)) rfl ?_ | refine s_pur (p_eqlF rfl rfl (by omega)) rfl ?_ | refine s_pur (p_neqT rfl rfl (by omega)) rfl ?_ | refine s_pur (p_neqF rfl rfl (by omega)) rfl ?_ | refine s_skip rfl rfl rfl ?_ | refine s_skip' rfl rfl rfl ?_ | refine s_pur_g rfl (p_move rfl) rfl ?_ | refine s_pur_g rfl (p_assign rfl) rfl ?_ | refine s_pur_g rfl (p_nil rfl) rfl ?_ | refine s_pur_g rfl (p_pick_t rfl rfl) rfl ?_ | refine s_pur_g rfl (p_pick_f rfl rfl) rfl ?_ | refine s_pur_g rfl (p_lssT rfl rfl (by omega)) rfl ?_ | refine s_pur_g rfl (p_lssF rfl rfl (by omega)) rfl ?_ | refine s_pur_g rfl (p_leqT rfl rfl (by omega)) rfl ?_ | refine s_pur_g rfl (p_leqF rfl rfl (by omega)) rfl ?_ | refine s_pur_g rfl (p_gtrT rfl rfl (by omega)) rfl ?_ | refine s_pur_g rfl (p_gtrF rfl rfl (by omega)) rfl ?_ | refine s_pur_g rfl (p_geqT rfl rfl (by omega)) rfl ?_ | refine s_pur_g rfl (p_geqF rfl rfl (by omega)) rfl ?_ | refine s_pur_g rfl (p_eqlT rfl rfl (by omega)) rfl ?_ | refine s_pur_g rfl (p_eqlF rfl rfl (by omega)) rfl ?_ | refine s_pur_g rfl (p_neqT rfl rfl (by omega)) rfl ?_ | refine s_pur_g rfl (p_neqF rfl rfl (by omega)) rfl ?_)
      exact m_done rfl (by repeat (first | exact Sub.nil | refine Sub.cons rfl ?_))
    · exact absurd hk (hno j hj)
  rintro _ rfl
  clear hin
  refine c_mid [(0, .slice va (evict cap len E n) vc), (1, .int .i64 (sumL (evict cap len E n) E : Nat)), (3, .int .u64 id), (4, .int .i64 off), (5, .slice (some ⟨bb, 0, none⟩) len len), (14, .int .i64 len)] (fun q => h = q) ?_ ?_
  · repeat (first | refine c_seq ?_ | refine c_region ?_ | refine c_block ?_ | refine c_skip ?_ | refine c_exit ?_ | refine c_ret ?_ | refine n_then ?_ | refine n_block ?_ | refine x_then ?_ | refine x_block_eq ?_ | refine x_block_ne rfl ?_ | refine r_then ?_ | refine r_block ?_ | refine s_nil ?_ | refine c_true rfl ?_ | refine c_false rfl ?_ | refine s_pur (p_move rfl) rfl ?_ | refine s_pur (p_assign rfl) rfl ?_ | refine s_pur (p_nil rfl) rfl ?_ | refine s_pur (p_pick_t rfl rfl) rfl ?_ | refine s_pur (p_pick_f rfl rfl) rfl ?_)
    refine c_loop (fun k : Nat => [(0, .slice va k vc), (1, .int .i64 (sumL k E : Nat)), (2, .int .i64 cap), (3, .int .u64 id), (4, .int .i64 off), (5, .slice (some ⟨bb, 0, none⟩) len len), (14, .int .i64 len)])
      (fun k q => k ≤ n ∧ evict cap len E k = evict cap len E n ∧ sumL k E ≤ cap ∧ h = q) (fun k => k) n ⟨Nat.le_refl _, rfl, hsum, rfl⟩ (by repeat (first | exact Sub.nil | refine Sub.cons rfl ?_)) ?_
    rintro k _ ⟨hk, hev, hsk, rfl⟩
    by_cases hgo : cap < sumL k E + len
    · obtain ⟨m, rfl⟩ : ∃ m, k = m + 1 := ⟨k - 1, by
        have : k ≠ 0 := by rintro rfl; simp [sumL] at hgo; omega
        omega⟩
      obtain ⟨b, o, mc, c, hv, hmc, hb, hcell⟩ := mv.resolve_left (by omega)
      cases hv
      have l2 : hc h b (o + m * 3 + 2) = some (.slice (some ⟨(E m).bb, 0, none⟩) (E m).len (E m).len) := by rw [hc_of hb]; exact hcell m (by omega) 2 (by omega)
      have hsm : sumL (m + 1) E = sumL m E + (E m).len := rfl
      refine c_mid [(0, .slice (some ⟨b, o, none⟩) (m + 1) vc), (1, .int .i64 (sumL (m + 1) E : Nat)), (2, .int .i64 cap), (3, .int .u64 id), (4, .int .i64 off), (5, .slice (some ⟨bb, 0, none⟩) len len), (14, .int .i64 len)] (fun q => h = q) ?_ ?_
      · repeat (first | refine c_seq ?_ | refine c_region ?_ | refine c_block ?_ | refine c_skip ?_ | refine c_exit ?_ | refine c_ret ?_ | refine n_then ?_ | refine n_block ?_ | refine x_then ?_ | refine x_block_eq ?_ | refine x_block_ne rfl ?_ | refine r_then ?_ | refine r_block ?_ | refine s_nil ?_ | refine c_true rfl ?_ | refine c_false rfl ?_ | refine s_pur (p_move rfl) rfl ?_ | refine s_pur (p_assign rfl) rfl ?_ | refine s_pur (p_nil rfl) rfl ?_ | refine s_pur (p_pick_t rfl rfl) rfl ?_ | refine s_pur (p_pick_f rfl rfl) rfl ?_ | refine s_pur (p_len rfl Yba.underlying29) rfl ?_ | refine s_pur (p_idx rfl rfl rfl (by omega) Yba.underlying29 Yba.sizeOf61) rfl ?_ | refine s_pur (p_lssT rfl rfl (by omega)) rfl ?_ | refine s_pur (p_lssF rfl rfl (by omega)) rfl ?_ | refine s_pur (p_leqT rfl rfl (by omega)) rfl ?_ | refine s_pur (p_leqF rfl rfl (by omega)) rfl ?_ | refine s_pur (p_gtrT rfl rfl (by omega)) rfl ?_ | refine s_pur (p_gtrF rfl rfl (by omega)) rfl ?_ | refine s_pur (p_geqT rfl rfl (by omega)) rfl ?_ | refine s_pur (p_geqF rfl rfl (by omega)) rfl ?_ | refine s_pur (p_eqlT rfl rfl (by omega)) rfl ?_ | refine s_pur (p_eqlF rfl rfl (by omega)) rfl ?_ | refine s_pur (p_neqT rfl rfl (by omega)) rfl ?_ | refine s_pur (p_neqF rfl rfl (by omega)) rfl ?_ | refine s_pur (p_add rfl rfl rfl (by omega) (by omega)) rfl ?_ | refine s_skip rfl rfl rfl ?_ | refine s_skip' rfl rfl rfl ?_ | refine s_pur_g rfl (p_move rfl) rfl ?_ | refine s_pur_g rfl (p_assign rfl) rfl ?_ | refine s_pur_g rfl (p_nil rfl) rfl ?_ | refine s_pur_g rfl (p_pick_t rfl rfl) rfl ?_ | refine s_pur_g rfl (p_pick_f rfl rfl) rfl ?_ | refine s_pur_g rfl (p_len rfl Yba.underlying29) rfl ?_ | refine s_pur_g rfl (p_idx rfl rfl rfl (by omega) Yba.underlying29 Yba.sizeOf61) rfl ?_ | refine s_pur_g rfl (p_lssT rfl rfl (by omega)) rfl ?_ | refine s_pur_g rfl (p_lssF rfl rfl (by omega)) rfl ?_ | refine s_pur_g rfl (p_leqT rfl rfl (by omega)) rfl ?_ | refine s_pur_g rfl (p_leqF rfl rfl (by omega)) rfl ?_ | refine s_pur_g rfl (p_gtrT rfl rfl (by omega)) rfl ?_ | refine s_pur_g rfl (p_gtrF rfl rfl (by omega)) rfl ?_ | refine s_pur_g rfl (p_geqT rfl rfl (by omega)) rfl ?_ | refine s_pur_g rfl (p_geqF rfl rfl (by omega)) rfl ?_ | refine s_pur_g rfl (p_eqlT rfl rfl (by omega)) rfl ?_ | refine s_pur_g rfl (p_eqlF rfl rfl (by omega)) rfl ?_ | refine s_pur_g rfl (p_neqT rfl rfl (by omega)) rfl ?_ | refine s_pur_g rfl (p_neqF rfl rfl (by omega)) rfl ?_ | refine s_pur_g rfl (p_add rfl rfl rfl (by omega) (by omega)) rfl ?_)
        exact m_done rfl (by repeat (first | exact Sub.nil | refine Sub.cons rfl ?_))
      rintro _ rfl
      refine c_block ?_
      refine c_mid [(0, .slice (some ⟨b, o, none⟩) (m + 1) vc), (1, .int .i64 (sumL m E : Nat)), (2, .int .i64 cap), (3, .int .u64 id), (4, .int .i64 off), (5, .slice (some ⟨bb, 0, none⟩) len len), (14, .int .i64 len)] (fun q => h = q) ?_ ?_
      · repeat (first | refine c_seq ?_ | refine c_region ?_ | refine c_block ?_ | refine c_skip ?_ | refine c_exit ?_ | refine c_ret ?_ | refine n_then ?_ | refine n_block ?_ | refine x_then ?_ | refine x_block_eq ?_ | refine x_block_ne rfl ?_ | refine r_then ?_ | refine r_block ?_ | refine s_nil ?_ | refine c_true rfl ?_ | refine c_false rfl ?_ | refine s_pur (p_move rfl) rfl ?_ | refine s_pur (p_assign rfl) rfl ?_ | refine s_pur (p_nil rfl) rfl ?_ | refine s_pur (p_pick_t rfl rfl) rfl ?_ | refine s_pur (p_pick_f rfl rfl) rfl ?_ | refine s_pur (p_len rfl Yba.underlying29) rfl ?_ | refine s_pur (p_idx rfl rfl rfl (by omega) Yba.underlying29 Yba.sizeOf61) rfl ?_ | refine s_pur (p_len rfl Yba.underlying25) rfl ?_ | refine s_pur (p_idx1 rfl rfl rfl (by omega) Yba.underlying25 Yba.sizeOf5) rfl ?_ | refine s_pur (p_fld (off := 2) rfl Yba.underlying61 rfl Yba.sizeOf25 rfl) rfl ?_ | refine s_pur (p_load rfl Yba.isAgg25 (by assumption)) rfl ?_ | refine s_pur (p_sub (c := ((m : Nat) : Int)) rfl rfl (by omega) (by omega) (by omega)) rfl ?_ | refine s_pur (p_sub (c := ((sumL m E : Nat) : Int)) rfl rfl (by omega) (by omega) (by omega)) rfl ?_)
        exact m_done rfl (by repeat (first | exact Sub.nil | refine Sub.cons rfl ?_))
      rintro _ rfl
      repeat (first | refine c_seq ?_ | refine c_region ?_ | refine c_block ?_ | refine c_skip ?_ | refine c_exit ?_ | refine c_ret ?_ | refine n_then ?_ | refine n_block ?_ | refine x_then ?_ | refine x_block_eq ?_ | refine x_block_ne rfl ?_ | refine r_then ?_ | refine r_block ?_ | refine s_nil ?_ | refine c_true rfl ?_ | refine c_false rfl ?_ | refine s_pur (p_move rfl) rfl ?_ | refine s_pur (p_assign rfl) rfl ?_ | refine s_pur (p_nil rfl) rfl ?_ | refine s_pur (p_pick_t rfl rfl) rfl ?_ | refine s_pur (p_pick_f rfl rfl) rfl ?_ | refine s_pur (p_len rfl Yba.underlying29) rfl ?_ | refine s_pur (p_idx rfl rfl rfl (by omega) Yba.underlying29 Yba.sizeOf61) rfl ?_ | refine s_pur (p_sub (c := ((m : Nat) : Int)) rfl rfl (by omega) (by omega) (by omega)) rfl ?_ | refine s_pur (p_sliceH (q := m) rfl rfl (by omega) Yba.underlying29 Yba.sizeOf61) rfl ?_)
      exact c_next m ⟨by omega, by rw [← hev]; exact (evict_go hgo).symm, by omega, rfl⟩ (by repeat (first | exact Sub.nil | refine Sub.cons rfl ?_)) (by omega)
    · have hst : evict cap len E n = k := by rw [← hev]; exact evict_stop (by omega)
      rw [hst]
      repeat (first | refine c_seq ?_ | refine c_region ?_ | refine c_block ?_ | refine c_skip ?_ | refine c_exit ?_ | refine c_ret ?_ | refine n_then ?_ | refine n_block ?_ | refine x_then ?_ | refine x_block_eq ?_ | refine x_block_ne rfl ?_ | refine r_then ?_ | refine r_block ?_ | refine s_nil ?_ | refine c_true rfl ?_ | refine c_false rfl ?_ | refine s_pur (p_move rfl) rfl ?_ | refine s_pur (p_assign rfl) rfl ?_ | refine s_pur (p_nil rfl) rfl ?_ | refine s_pur (p_pick_t rfl rfl) rfl ?_ | refine s_pur (p_pick_f rfl rfl) rfl ?_ | refine s_pur (p_len rfl Yba.underlying29) rfl ?_ | refine s_pur (p_idx rfl rfl rfl (by omega) Yba.underlying29 Yba.sizeOf61) rfl ?_ | refine s_pur (p_lssT rfl rfl (by omega)) rfl ?_ | refine s_pur (p_lssF rfl rfl (by omega)) rfl ?_ | refine s_pur (p_leqT rfl rfl (by omega)) rfl ?_ | refine s_pur (p_leqF rfl rfl (by omega)) rfl ?_ | refine s_pur (p_gtrT rfl rfl (by omega)) rfl ?_ | refine s_pur (p_gtrF rfl rfl (by omega)) rfl ?_ | refine s_pur (p_geqT rfl rfl (by omega)) rfl ?_ | refine s_pur (p_geqF rfl rfl (by omega)) rfl ?_ | refine s_pur (p_eqlT rfl rfl (by omega)) rfl ?_ | refine s_pur (p_eqlF rfl rfl (by omega)) rfl ?_ | refine s_pur (p_neqT rfl rfl (by omega)) rfl ?_ | refine s_pur (p_neqF rfl rfl (by omega)) rfl ?_ | refine s_pur (p_add rfl rfl rfl (by omega) (by omega)) rfl ?_ | refine s_skip rfl rfl rfl ?_ | refine s_skip' rfl rfl rfl ?_ | refine s_pur_g rfl (p_move rfl) rfl ?_ | refine s_pur_g rfl (p_assign rfl) rfl ?_ | refine s_pur_g rfl (p_nil rfl) rfl ?_ | refine s_pur_g rfl (p_pick_t rfl rfl) rfl ?_ | refine s_pur_g rfl (p_pick_f rfl rfl) rfl ?_ | refine s_pur_g rfl (p_len rfl Yba.underlying29) rfl ?_ | refine s_pur_g rfl (p_idx rfl rfl rfl (by omega) Yba.underlying29 Yba.sizeOf61) rfl ?_ | refine s_pur_g rfl (p_lssT rfl rfl (by omega)) rfl ?_ | refine s_pur_g rfl (p_lssF rfl rfl (by omega)) rfl ?_ | refine s_pur_g rfl (p_leqT rfl rfl (by omega)) rfl ?_ | refine s_pur_g rfl (p_leqF rfl rfl (by omega)) rfl ?_ | refine s_pur_g rfl (p_gtrT rfl rfl (by omega)) rfl ?_ | refine s_pur_g rfl (p_gtrF rfl rfl (by omega)) rfl ?_ | refine s_pur_g rfl (p_geqT rfl rfl (by omega)) rfl ?_ | refine s_pur_g rfl (p_geqF rfl rfl (by omega)) rfl ?_ | refine s_pur_g rfl (p_eqlT rfl rfl (by omega)) rfl ?_ | refine s_pur_g rfl (p_eqlF rfl rfl (by omega)) rfl ?_ | refine s_pur_g rfl (p_neqT rfl rfl (by omega)) rfl ?_ | refine s_pur_g rfl (p_neqF rfl rfl (by omega)) rfl ?_ | refine s_pur_g rfl (p_add rfl rfl rfl (by omega) (by omega)) rfl ?_)
      exact m_done rfl (by repeat (first | exact Sub.nil | refine Sub.cons rfl ?_))
  rintro _ rfl
  have hev := evict_le cap len E n
  have hroom := evict_room E (show len ≤ cap by omega) n
  generalize hme : evict cap len E n = m at *
  have mv1 : MV h (.slice va m vc) m E := by
    rcases mv with ⟨hv, hn0⟩ | ⟨b, o, mc, c, hv, hmc, hb, hcell⟩
    · cases hv
      exact .inl ⟨by rw [show m = 0 by omega], by omega⟩
    · cases hv
      exact .inr ⟨b, o, vc, c, rfl, by omega, hb, fun i hi => hcell i (by omega)⟩
  clear mv
  refine c_mid [(0, .slice va m vc), (1, .int .i64 (sumL m E : Nat)), (3, .int .u64 id), (4, .int .i64 off), (5, .slice (some ⟨bb, 0, none⟩) len len), (14, .int .i64 len), (15, .slice (some ⟨h.size, 0, none⟩) 0 (m + 1))] (fun q => Kp h q ∧ Owns q h.size 61 3 (.slice (some ⟨h.size, 0, none⟩) 0 (m + 1)) 0 []) ?_ ?_
  · repeat (first | refine c_seq ?_ | refine c_region ?_ | refine c_block ?_ | refine c_skip ?_ | refine c_exit ?_ | refine c_ret ?_ | refine n_then ?_ | refine n_block ?_ | refine x_then ?_ | refine x_block_eq ?_ | refine x_block_ne rfl ?_ | refine r_then ?_ | refine r_block ?_ | refine s_nil ?_ | refine c_true rfl ?_ | refine c_false rfl ?_ | refine s_pur (p_move rfl) rfl ?_ | refine s_pur (p_assign rfl) rfl ?_ | refine s_pur (p_nil rfl) rfl ?_ | refine s_pur (p_pick_t rfl rfl) rfl ?_ | refine s_pur (p_pick_f rfl rfl) rfl ?_ | refine s_pur (p_len rfl Yba.underlying29) rfl ?_ | refine s_pur (p_idx rfl rfl rfl (by omega) Yba.underlying29 Yba.sizeOf61) rfl ?_ | refine s_pur (p_add rfl rfl rfl (by omega) (by omega)) rfl ?_)
    refine s_eff (e_make (n := 0) (c := m + 1) rfl rfl Yba.underlying29 hi61 hz61 (by omega) (by rw [hb61]; omega) (by omega)) rfl ?_
    rintro _ q ⟨rfl, nq⟩
    repeat (first | refine c_seq ?_ | refine c_region ?_ | refine c_block ?_ | refine c_skip ?_ | refine c_exit ?_ | refine c_ret ?_ | refine n_then ?_ | refine n_block ?_ | refine x_then ?_ | refine x_block_eq ?_ | refine x_block_ne rfl ?_ | refine r_then ?_ | refine r_block ?_ | refine s_nil ?_ | refine c_true rfl ?_ | refine c_false rfl ?_ | refine s_pur (p_move rfl) rfl ?_ | refine s_pur (p_assign rfl) rfl ?_ | refine s_pur (p_nil rfl) rfl ?_ | refine s_pur (p_pick_t rfl rfl) rfl ?_ | refine s_pur (p_pick_f rfl rfl) rfl ?_)
    exact m_done ⟨Kp.of nq, Owns.make0N nq (by simp [madeCells, hs61]) (Nat.le_refl _) (by simp only [maxLen]; omega)⟩ (by repeat (first | exact Sub.nil | refine Sub.cons rfl ?_))
  rintro h1 ⟨kp1, ow1⟩
  have sz1 := kp1.size
  let x : Ent := ⟨id, off, bb, len, 0⟩
  refine c_seq ?_
  repeat (first | refine c_region ?_ | refine c_block ?_ | refine c_skip ?_ | refine c_exit ?_ | refine c_ret ?_ | refine n_then ?_ | refine n_block ?_ | refine x_then ?_ | refine x_block_eq ?_ | refine x_block_ne rfl ?_ | refine r_then ?_ | refine r_block ?_ | refine s_nil ?_ | refine c_true rfl ?_ | refine c_false rfl ?_ | refine s_pur (p_move rfl) rfl ?_ | refine s_pur (p_assign rfl) rfl ?_ | refine s_pur (p_nil rfl) rfl ?_ | refine s_pur (p_pick_t rfl rfl) rfl ?_ | refine s_pur (p_pick_f rfl rfl) rfl ?_ | refine s_pur (p_build61 rfl rfl rfl) rfl ?_)
  refine s_eff (e_one61 (e := x) rfl) rfl ?_
  rintro _ h2 ⟨rfl, n2⟩
  have s2 := n2.size
  refine s_eff (app61 (e := x) rfl rfl (ow1.new n2) n2.at_ (by omega) (by omega)) rfl ?_
  intro v3 h3 ⟨ow3, g3⟩
  have kp3 : Kp h h3 := (kp1.trans (Kp.of n2)).grow g3 (ow1.new n2) (Nat.le_refl _)
  repeat (first | refine c_region ?_ | refine c_block ?_ | refine c_skip ?_ | refine c_exit ?_ | refine c_ret ?_ | refine n_then ?_ | refine n_block ?_ | refine x_then ?_ | refine x_block_eq ?_ | refine x_block_ne rfl ?_ | refine r_then ?_ | refine r_block ?_ | refine s_nil ?_ | refine c_true rfl ?_ | refine c_false rfl ?_ | refine s_pur (p_move rfl) rfl ?_ | refine s_pur (p_assign rfl) rfl ?_ | refine s_pur (p_nil rfl) rfl ?_ | refine s_pur (p_pick_t rfl rfl) rfl ?_ | refine s_pur (p_pick_f rfl rfl) rfl ?_)
  refine cut [(0, .slice va m vc), (1, .int .i64 (sumL m E : Nat)), (14, .int .i64 len), (15, v3)] (by repeat (first | exact Sub.nil | refine Sub.cons rfl ?_)) ?_
  refine c_seq ?_
  repeat (first | refine c_region ?_ | refine c_block ?_ | refine c_skip ?_ | refine c_exit ?_ | refine c_ret ?_ | refine n_then ?_ | refine n_block ?_ | refine x_then ?_ | refine x_block_eq ?_ | refine x_block_ne rfl ?_ | refine r_then ?_ | refine r_block ?_ | refine s_nil ?_ | refine c_true rfl ?_ | refine c_false rfl ?_ | refine s_pur (p_move rfl) rfl ?_ | refine s_pur (p_assign rfl) rfl ?_ | refine s_pur (p_nil rfl) rfl ?_ | refine s_pur (p_pick_t rfl rfl) rfl ?_ | refine s_pur (p_pick_f rfl rfl) rfl ?_)
  have sz3 := kp3.size
  refine s_eff (appM rfl rfl ow3 (mv1.kp kp3) (by omega) (by omega)) rfl ?_
  intro v4 h4 ⟨ow4, g4⟩
  have kp4 : Kp h h4 := kp3.grow g4 ow3 (Nat.le_refl _)
  repeat (first | refine c_region ?_ | refine c_block ?_ | refine c_skip ?_ | refine c_exit ?_ | refine c_ret ?_ | refine n_then ?_ | refine n_block ?_ | refine x_then ?_ | refine x_block_eq ?_ | refine x_block_ne rfl ?_ | refine r_then ?_ | refine r_block ?_ | refine s_nil ?_ | refine c_true rfl ?_ | refine c_false rfl ?_ | refine s_pur (p_move rfl) rfl ?_ | refine s_pur (p_assign rfl) rfl ?_ | refine s_pur (p_nil rfl) rfl ?_ | refine s_pur (p_pick_t rfl rfl) rfl ?_ | refine s_pur (p_pick_f rfl rfl) rfl ?_)
  refine cut [(1, .int .i64 (sumL m E : Nat)), (14, .int .i64 len), (15, v4)] (by repeat (first | exact Sub.nil | refine Sub.cons rfl ?_)) ?_
  repeat (first | refine c_seq ?_ | refine c_region ?_ | refine c_block ?_ | refine c_skip ?_ | refine c_exit ?_ | refine c_ret ?_ | refine n_then ?_ | refine n_block ?_ | refine x_then ?_ | refine x_block_eq ?_ | refine x_block_ne rfl ?_ | refine r_then ?_ | refine r_block ?_ | refine s_nil ?_ | refine c_true rfl ?_ | refine c_false rfl ?_ | refine s_pur (p_move rfl) rfl ?_ | refine s_pur (p_assign rfl) rfl ?_ | refine s_pur (p_nil rfl) rfl ?_ | refine s_pur (p_pick_t rfl rfl) rfl ?_ | refine s_pur (p_pick_f rfl rfl) rfl ?_ | refine s_pur (p_add (c := ((len + sumL m E : Nat) : Int)) rfl rfl (by omega) (by omega) (by omega)) rfl ?_)
  refine ret2 Yba.results7 rfl rfl ⟨kp4, .inr ⟨by omega, hno, v4, rfl, fun nb => ?_⟩⟩
  have e1 : rowM (m + 1) (cns ⟨id, off, bb, len, nb⟩ E) = [] ++ ents x ++ rowM m E := by rw [rowM_cns]; rfl
  rw [← e1, show 0 + 1 + m = m + 1 by omega] at ow4
  exact MV.of ow4
end Go.Proofs.Ybulkdire
