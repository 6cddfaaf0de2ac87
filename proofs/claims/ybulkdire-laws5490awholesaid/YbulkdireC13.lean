/-
  C13: the row of table.LawS5490AWhole.
-/
import Derived.Test.YbulkdireRows
import Derived.Test.YbulkdireArg
import Derived.Test.YbulkdireC12
namespace Go.Proofs.Ybulkdire.lawADone
open Go.ChangeShapes Go.WideShapes Go.ChangeAt Go.RowKit V
set_option linter.unusedVariables false

theorem own : ownKnob Yba.prog.godebug = none := by kernel_rfl
theorem laidOut : laidOutB Yba.prog = true := by kernel_rfl
theorem cells31 : Yba.prog.cellsOf 31 = 4 := by kernel_rfl
theorem cells5 : Yba.prog.cellsOf 5 = 1 := by kernel_rfl
theorem small8 {n : Int} (h : (Lit.int .u8 n).wf = true) : ∃ m : Nat, n = m ∧ m < 256 := by
  have e1 : IntKind.u8.min = 0 := by decide
  have e2 : IntKind.u8.max = 255 := by decide
  simp [Lit.wf, e1, e2] at h
  exact ⟨n.toNat, by omega, by omega⟩

theorem four_of {α : Type} {cs : List α} {a b c d : α} (h : cs.length = 4) (h0 : (cs.drop 0).take 1 = [a]) (h1 : (cs.drop 1).take 1 = [b]) (h2 : (cs.drop 2).take 1 = [c]) (h3 : (cs.drop 3).take 1 = [d]) : cs = [a, b, c, d] := by
  match cs, h with
  | [x, y, z, u], _ =>
    simp at h0 h1 h2 h3
    simp [h0, h1, h2, h3]

section
variable {H : Type} {enc : TypeId × Value → H} {w : World} {base : Nat} {spare : Nat → Bool} {held : Bool}
theorem steps_in {fuel : Nat} {a : Option Addr} {len cap : Nat} {x : DataW H × List MemPlace} (h : DataW.trod enc Yba.prog w base spare held fuel 22 (Value.slice a len cap).cells.toList = some x) :
    ∃ Z : Nat → Nat → Nat, StepsIn w.heap a len Z ∧ (∀ i t, Z i t < 256) ∧ len ≤ 9223372036854775807 := by
  obtain ⟨hmax, hs⟩ := arg_sliceN Yba.underlying22 (by rw [cells31]; omega) h
  have each : ∀ i, i < len → ∃ z : Nat → Nat, (∀ t, z t < 256) ∧ ∃ b o, a = some ⟨b, o, none⟩ ∧ ∀ k, k < 4 → hc w.heap b (o + i * 4 + k) = ([.int .u8 (z 0 : Nat), .int .u8 (z 1 : Nat), .int .u8 (z 2 : Nat), .int .u8 (z 3 : Nat)] : List Value)[k]? := by
    intro i hi
    obtain ⟨b, o, cs, m, y, rfl, hl, hcell, htr⟩ := hs i hi
    rw [cells31] at hl hcell
    obtain ⟨xs, n, _, _, _, hxl, hf⟩ := DataW.trod_struct Yba.underlying31 htr
    have f0 : DataW.trod enc Yba.prog w base spare held n 5 ((cs.drop 0).take (Yba.prog.cellsOf 5)) = xs[0]? := hf 0 _ rfl
    have f1 : DataW.trod enc Yba.prog w base spare held n 5 ((cs.drop 1).take (Yba.prog.cellsOf 5)) = xs[1]? := hf 1 _ rfl
    have f2 : DataW.trod enc Yba.prog w base spare held n 5 ((cs.drop 2).take (Yba.prog.cellsOf 5)) = xs[2]? := hf 2 _ rfl
    have f3 : DataW.trod enc Yba.prog w base spare held n 5 ((cs.drop 3).take (Yba.prog.cellsOf 5)) = xs[3]? := hf 3 _ rfl
    rw [List.getElem?_eq_getElem (by rw [hxl]; simp)] at f0 f1 f2 f3
    obtain ⟨n0, e0, _, w0⟩ := DataW.trod_int Yba.underlying5 f0
    obtain ⟨n1, e1, _, w1⟩ := DataW.trod_int Yba.underlying5 f1
    obtain ⟨n2, e2, _, w2⟩ := DataW.trod_int Yba.underlying5 f2
    obtain ⟨n3, e3, _, w3⟩ := DataW.trod_int Yba.underlying5 f3
    rw [cells5] at e0 e1 e2 e3
    obtain rfl := four_of hl e0 e1 e2 e3
    obtain ⟨m0, rfl, l0⟩ := small8 w0
    obtain ⟨m1, rfl, l1⟩ := small8 w1
    obtain ⟨m2, rfl, l2⟩ := small8 w2
    obtain ⟨m3, rfl, l3⟩ := small8 w3
    refine ⟨fun t => if t = 0 then m0 else if t = 1 then m1 else if t = 2 then m2 else m3, fun t => ?_, b, o, rfl, fun k hk => hcell k hk⟩
    show (if t = 0 then m0 else if t = 1 then m1 else if t = 2 then m2 else m3) < 256
    split
    · exact l0
    · split
      · exact l1
      · split
        · exact l2
        · exact l3
  refine ⟨fun i => if hi : i < len then (each i hi).choose else fun _ => 0, fun i hi => ?_, fun i t => ?_, by simp only [maxLen] at hmax; omega⟩
  · obtain ⟨b, o, ea, he⟩ := (each i hi).choose_spec.2
    refine ⟨b, o, ea, fun t ht => ?_⟩
    rw [he t ht]
    unfold stp
    simp only [hi, dif_pos]
  · by_cases hi : i < len
    · simp only [hi, dif_pos]
      exact (each i hi).choose_spec.1 t
    · simp only [hi]
      simp
end

set_option maxRecDepth 100000 in
theorem lifted (os : Os) (started : os.Started) (H : Type) (enc : TypeId × Value → H) :
    ReturnsInHanded {} Yba.checked os 3 .any (Rows.lawS5490AWholeSpec.pre6 enc Yba.prog Yba.f3 Rows.lawS5490AWholeRow.domain false) (Rows.lawS5490AWholeSpec.post enc Yba.prog Yba.f3 false true false false) := by
  refine returnsInHanded_of_change (C := Yba.checked) own started (by kernel_rfl) Yba.func3
    (ChangeSpec.witness6 (enc := enc) (C := Yba.checked) false ⟨#[], #[.int .i64 0, .slice none 0 0, .int .u64 0, .int .i64 0], []⟩ 8 (by kernel_rfl) (by kernel_rfl) (by kernel_rfl) (by kernel_rfl)) ?_
  intro W base args ds gs before hval0 hW hcnd _
  have hval : ∀ (j : Nat) t v, Yba.f3.params[j]? = some t → args[j]? = some v → Value.okWide Yba.prog W .any base t v := hval0
  have hW' := hW
  obtain ⟨p, q, hA0, hV, rfl, hfz, hnd⟩ := hW
  have hA : DataW.TrodAll enc Yba.prog W 0 (fun _ => true) true Yba.f3.params.toList args.toList ds p := hA0
  rw [Yba.params3] at hA hval
  obtain ⟨v0, vs0, d0, ds0, p0, q0, hargs, rfl, rfl, h0, r0⟩ := trodAll_cons hA
  obtain ⟨v1, vs1, d1, ds1, p1, q1, rfl, rfl, rfl, h1, r1⟩ := trodAll_cons r0
  obtain ⟨v2, vs2, d2, ds2, p2, q2, rfl, rfl, rfl, h2, r2⟩ := trodAll_cons r1
  obtain ⟨v3, vs3, d3, ds3, p3, q3, rfl, rfl, rfl, h3, r3⟩ := trodAll_cons r2
  obtain ⟨rfl, rfl, rfl⟩ := trodAll_nil r3
  obtain rfl : args = #[v0, v1, v2, v3] := by cases args; simp_all
  obtain ⟨rfl, rfl⟩ := trodVars_none hV
  obtain ⟨a1, len1, cap1, rfl⟩ := okWide_slice Yba.underlying22 (hval 1 22 v1 rfl rfl)
  have k1 := h1
  have lt1 : ∀ x ∈ p1, x.block < W.heap.size := by obtain ⟨m, hm⟩ := k1; exact DataW.trod_lt m _ _ _ hm
  obtain ⟨Z, s0, s1, s2⟩ : ∃ Z : Nat → Nat → Nat, StepsIn W.heap a1 len1 Z ∧ (∀ i t, Z i t < 256) ∧ len1 ≤ 9223372036854775807 := by obtain ⟨fuel, hf⟩ := h1; exact steps_in hf
  obtain ⟨n0, rfl, rfl, rfl, w0⟩ := open_int Yba.underlying2 (hval 0 2 v0 rfl rfl) h0
  obtain ⟨n2, rfl, rfl, rfl, w2⟩ := open_int Yba.underlying23 (hval 2 23 v2 rfl rfl) h2
  obtain ⟨n3, rfl, rfl, rfl, w3⟩ := open_int Yba.underlying2 (hval 3 2 v3 rfl rfl) h3
  clear hA0 hval0
  have walk := calls_below (w := W) (law_ok W.heap a1 len1 cap1 n0 n2 n3 Z s0 s1 s2)
  refine walk.mono fun e W' ⟨he, bel⟩ => ?_
  subst he
  exact ⟨_, rfl, _, _, _, [], _, [], hW', trodAll_mk1 (shut_bool Yba.underlying4 _), (trodAll_cons_mk (shut_int Yba.underlying2 w0) (trodAll_cons_mk (Below.trod laidOut (by kernel_rfl) (of_decide_eq_true (by kernel_rfl)) k1 bel lt1) (trodAll_cons_mk (shut_int Yba.underlying23 w2) (trodAll_cons_mk (shut_int Yba.underlying2 w3) trodAll_mk0)))), rfl, bel.frame _, fun h => by cases h⟩

theorem over : Rows.lawS5490AWholeRow.holds Yba.pinned (OpenSpec.ofChange Rows.lawS5490AWholeSpec) :=
  OpenClaim.holds_of_wide 3 Yba.f3 rfl rfl rfl rfl rfl rfl rfl ⟨rfl, rfl, rfl, rfl, rfl⟩ rfl rfl rfl rfl rfl (by kernel_rfl) Yba.func3 (by kernel_rfl)
    (of_decide_eq_true (by kernel_rfl)) (by unfold Func.isWrapper; first | (rw [if_pos (by decide +kernel)]; kernel_rfl) | (rw [if_neg (by decide +kernel)]; exact ⟨rfl, rfl⟩))
    (fun os started H enc _ => lifted os started H enc)

theorem proved : Rows.LawS5490AWholeSaid := over
end Go.Proofs.Ybulkdire.lawADone
