/-
  E8: the row of link.LawS5492CWhole.
-/
import Derived.Test.YbulkdisgRows
import Derived.Test.YbulkdisgArg
import Derived.Test.YbulkdisgE7
namespace Go.Proofs.Ybulkdisg.lawCDone
open Go.ChangeShapes Go.WideShapes Go.ChangeAt Go.RowKit V
set_option linter.unusedVariables false

theorem own : ownKnob Yba.prog.godebug = none := by kernel_rfl
theorem laidOut : laidOutB Yba.prog = true := by kernel_rfl
theorem cells27 : Yba.prog.cellsOf 27 = 2 := by kernel_rfl
theorem cells46 : Yba.prog.cellsOf 46 = 1 := by kernel_rfl
theorem cells44 : Yba.prog.cellsOf 44 = 1 := by kernel_rfl
theorem cells3 : Yba.prog.cellsOf 3 = 1 := by kernel_rfl
theorem cells4 : Yba.prog.cellsOf 4 = 1 := by kernel_rfl
theorem cells5 : Yba.prog.cellsOf 5 = 1 := by kernel_rfl
theorem small8 {n : Int} (h : (Lit.int .u8 n).wf = true) : ∃ m : Nat, n = m ∧ m < 256 := by
  have e1 : IntKind.u8.min = 0 := by decide
  have e2 : IntKind.u8.max = 255 := by decide
  simp [Lit.wf, e1, e2] at h
  exact ⟨n.toNat, by omega, by omega⟩

theorem two_of {α : Type} {cs : List α} {u v : α} (h : cs.length = 2) (h0 : (cs.drop 0).take 1 = [u]) (h1 : (cs.drop 1).take 1 = [v]) : cs[0]? = some u ∧ cs[1]? = some v := by
  match cs, h with
  | [a, b], _ =>
    simp at h0 h1
    simp [h0, h1]
theorem drop1 {α : Type} {cs : List α} (h : cs.length = 1) : (cs.drop 0).take 1 = cs := by
  match cs, h with
  | [a], _ => rfl
theorem one_of {α : Type} {cs : List α} (h : cs.length = 1) : ∃ a, cs = [a] := by
  match cs, h with
  | [a], _ => exact ⟨a, rfl⟩

section
variable {H : Type} {enc : TypeId × Value → H} {w : World} {base : Nat} {spare : Nat → Bool} {held : Bool}
theorem pool_in {fuel : Nat} {a : Option Addr} {len cap : Nat} {x : DataW H × List MemPlace} (h : DataW.trod enc Yba.prog w base spare held fuel 22 (Value.slice a len cap).cells.toList = some x) :
    ∃ PL PM, PoolIn w.heap a len PL PM := by
  obtain ⟨_, hs⟩ := arg_sliceN Yba.underlying22 (by rw [cells27]; omega) h
  have each : ∀ i, i < len → ∃ (z : Int) (m : Bool), ∃ b o, a = some ⟨b, o, none⟩ ∧ hc w.heap b (o + i * 2 + 0) = some (.int .i64 z) ∧ hc w.heap b (o + i * 2 + 1) = some (.bool m) := by
    intro i hi
    obtain ⟨b, o, cs, m, y, rfl, hl, hcell, htr⟩ := hs i hi
    rw [cells27] at hl hcell
    obtain ⟨xs, n, _, _, _, hxl, hf⟩ := DataW.trod_struct Yba.underlying27 htr
    have f0 : DataW.trod enc Yba.prog w base spare held n 3 ((cs.drop 0).take (Yba.prog.cellsOf 3)) = xs[0]? := hf 0 _ rfl
    have f1 : DataW.trod enc Yba.prog w base spare held n 4 ((cs.drop 1).take (Yba.prog.cellsOf 4)) = xs[1]? := hf 1 _ rfl
    rw [List.getElem?_eq_getElem (by rw [hxl]; simp)] at f0 f1
    obtain ⟨z, e0, _⟩ := DataW.trod_int Yba.underlying3 f0
    obtain ⟨q, e1, _⟩ := DataW.trod_bool Yba.underlying4 f1
    rw [cells3] at e0
    rw [cells4] at e1
    have t0 := hcell 0 (by omega)
    have t1 := hcell 1 (by omega)
    obtain ⟨g0, g1⟩ := two_of hl e0 e1
    exact ⟨z, q, b, o, rfl, t0.trans g0, t1.trans g1⟩
  refine ⟨fun i => if hi : i < len then (each i hi).choose else 0, fun i => if hi : i < len then (each i hi).choose_spec.choose else false, fun i hi => ?_⟩
  simp only [hi, dif_pos]
  exact (each i hi).choose_spec.choose_spec

theorem nets_in {fuel : Nat} {a : Option Addr} {len cap : Nat} {x : DataW H × List MemPlace} (h : DataW.trod enc Yba.prog w base spare held fuel 44 (Value.slice a len cap).cells.toList = some x) :
    ∃ Z : Nat → Nat, ∀ j, j < len → ∃ ib io, a = some ⟨ib, io, none⟩ ∧ hc w.heap ib (io + j) = some (.int .u8 (Z j)) ∧ Z j < 256 := by
  obtain ⟨zs, hl, ⟨a', c', e, hcase⟩, _, hwf⟩ := arg_ints (v := undef) Yba.underlying44 Yba.underlying5 cells5 h
  cases e
  refine ⟨fun j => (zs.getD j 0).toNat, fun j hj => ?_⟩
  obtain ⟨b, o, rfl, hcell⟩ := hcase.resolve_left (by omega)
  have hm : zs.getD j 0 ∈ zs := by
    rw [List.getD_eq_getElem?_getD, List.getElem?_eq_getElem (by omega)]
    exact List.getElem_mem _
  obtain ⟨m, e1, e2⟩ := small8 (hwf _ hm)
  refine ⟨b, o, rfl, ?_, ?_⟩
  · rw [hcell j hj]; simp only [e1]; simp
  · simp only [e1]; simpa using e2

theorem vis_in {fuel : Nat} {a : Option Addr} {len cap : Nat} {x : DataW H × List MemPlace} (h : DataW.trod enc Yba.prog w base spare held fuel 23 (Value.slice a len cap).cells.toList = some x) :
    ∃ IA Mi IC Z, VisIn w.heap a len IA Mi IC Z := by
  obtain ⟨_, hs⟩ := arg_sliceN Yba.underlying23 (by rw [cells46]; omega) h
  have each : ∀ i, i < len → ∃ (ia : Option Addr) (m c : Nat) (Z : Nat → Nat), ∃ b o, a = some ⟨b, o, none⟩ ∧ hc w.heap b (o + i) = some (.slice ia m c) ∧ ∀ j, j < m → ∃ ib io, ia = some ⟨ib, io, none⟩ ∧ hc w.heap ib (io + j) = some (.int .u8 (Z j)) ∧ Z j < 256 := by
    intro i hi
    obtain ⟨b, o, cs, m, y, rfl, hl, hcell, htr⟩ := hs i hi
    rw [cells46] at hl hcell
    obtain ⟨xs, n, _, _, _, hxl, hf⟩ := DataW.trod_struct Yba.underlying46 htr
    have f0 : DataW.trod enc Yba.prog w base spare held n 44 ((cs.drop 0).take (Yba.prog.cellsOf 44)) = xs[0]? := hf 0 _ rfl
    rw [List.getElem?_eq_getElem (by rw [hxl]; simp), cells44] at f0
    have t0 := hcell 0 (by omega)
    rw [Nat.mul_one, Nat.add_zero] at t0
    rw [drop1 hl] at f0
    obtain ⟨c0, ec⟩ := one_of hl
    rw [ec] at f0 t0
    have f0' := f0
    have hsl : ∃ ia m c, c0 = .slice ia m c := by
      rcases DataW.trod_slice Yba.underlying44 f0' with ⟨h0, _⟩ | ⟨ad, l', c', _, _, _, _, hcs, _⟩
      · exact ⟨_, _, _, List.head_eq_of_cons_eq h0⟩
      · exact ⟨_, _, _, List.head_eq_of_cons_eq hcs⟩
    obtain ⟨ia, m', c', rfl⟩ := hsl
    obtain ⟨Z, hZ⟩ := nets_in (cap := c') (len := m') (a := ia) f0'
    exact ⟨ia, m', c', Z, b, o, rfl, t0, hZ⟩
  refine ⟨fun i => if hi : i < len then (each i hi).choose else none, fun i => if hi : i < len then (each i hi).choose_spec.choose else 0, fun i => if hi : i < len then (each i hi).choose_spec.choose_spec.choose else 0, fun i => if hi : i < len then (each i hi).choose_spec.choose_spec.choose_spec.choose else fun _ => 0, fun i hi => ?_⟩
  simp only [hi, dif_pos]
  exact (each i hi).choose_spec.choose_spec.choose_spec.choose_spec
end

set_option maxRecDepth 100000 in
theorem lifted (os : Os) (started : os.Started) (H : Type) (enc : TypeId × Value → H) :
    ReturnsInHanded {} Yba.checked os 3 .any (Rows.lawS5492CWholeSpec.pre6 enc Yba.prog Yba.f3 Rows.lawS5492CWholeRow.domain false) (Rows.lawS5492CWholeSpec.post enc Yba.prog Yba.f3 false true false false) := by
  refine returnsInHanded_of_change (C := Yba.checked) own started (by kernel_rfl) Yba.func3
    (ChangeSpec.witness6 (enc := enc) (C := Yba.checked) false ⟨#[], #[.slice none 0 0, .slice none 0 0], []⟩ 8 (by kernel_rfl) (by kernel_rfl) (by kernel_rfl) (by kernel_rfl)) ?_
  intro W base args ds gs before hval0 hW hcnd _
  have hval : ∀ (j : Nat) t v, Yba.f3.params[j]? = some t → args[j]? = some v → Value.okWide Yba.prog W .any base t v := hval0
  have hW' := hW
  obtain ⟨p, q, hA0, hV, rfl, hfz, hnd⟩ := hW
  have hA : DataW.TrodAll enc Yba.prog W 0 (fun _ => true) true Yba.f3.params.toList args.toList ds p := hA0
  rw [Yba.params3] at hA hval
  obtain ⟨v0, vs0, d0, ds0, p0, q0, hargs, rfl, rfl, h0, r0⟩ := trodAll_cons hA
  obtain ⟨v1, vs1, d1, ds1, p1, q1, rfl, rfl, rfl, h1, r1⟩ := trodAll_cons r0
  obtain ⟨rfl, rfl, rfl⟩ := trodAll_nil r1
  obtain rfl : args = #[v0, v1] := by cases args; simp_all
  obtain ⟨rfl, rfl⟩ := trodVars_none hV
  obtain ⟨a0, len0, cap0, rfl⟩ := okWide_slice Yba.underlying22 (hval 0 22 v0 rfl rfl)
  obtain ⟨a1, len1, cap1, rfl⟩ := okWide_slice Yba.underlying23 (hval 1 23 v1 rfl rfl)
  have k0 := h0
  have k1 := h1
  have lt0 : ∀ x ∈ p0, x.block < W.heap.size := by obtain ⟨m, hm⟩ := k0; exact DataW.trod_lt m _ _ _ hm
  have lt1 : ∀ x ∈ p1, x.block < W.heap.size := by obtain ⟨m, hm⟩ := k1; exact DataW.trod_lt m _ _ _ hm
  obtain ⟨PL, PM, s0⟩ : ∃ PL PM, PoolIn W.heap a0 len0 PL PM := by obtain ⟨fuel, hf⟩ := h0; exact pool_in hf
  obtain ⟨IA, Mi, IC, Z, s1⟩ : ∃ IA Mi IC Z, VisIn W.heap a1 len1 IA Mi IC Z := by obtain ⟨fuel, hf⟩ := h1; exact vis_in hf
  clear hA0 hval0
  have walk := calls_below (w := W) (law_ok W.heap len0 cap0 len1 cap1 a0 a1 PL PM IA Mi IC Z s0 s1)
  refine walk.mono fun e W' ⟨he, bel⟩ => ?_
  subst he
  exact ⟨_, rfl, _, _, _, [], _, [], hW', trodAll_mk1 (shut_bool Yba.underlying4 _), (trodAll_cons_mk (Below.trod laidOut (by kernel_rfl) (of_decide_eq_true (by kernel_rfl)) k0 bel lt0) (trodAll_cons_mk (Below.trod laidOut (by kernel_rfl) (of_decide_eq_true (by kernel_rfl)) k1 bel lt1) trodAll_mk0)), rfl, bel.frame _, fun h => by cases h⟩

theorem over : Rows.lawS5492CWholeRow.holds Yba.pinned (OpenSpec.ofChange Rows.lawS5492CWholeSpec) :=
  OpenClaim.holds_of_wide 3 Yba.f3 rfl rfl rfl rfl rfl rfl rfl ⟨rfl, rfl, rfl, rfl, rfl⟩ rfl rfl rfl rfl rfl (by kernel_rfl) Yba.func3 (by kernel_rfl)
    (of_decide_eq_true (by kernel_rfl)) (by unfold Func.isWrapper; first | (rw [if_pos (by decide +kernel)]; kernel_rfl) | (rw [if_neg (by decide +kernel)]; exact ⟨rfl, rfl⟩))
    (fun os started H enc _ => lifted os started H enc)

theorem proved : Rows.LawS5492CWholeSaid := over
end Go.Proofs.Ybulkdisg.lawCDone
