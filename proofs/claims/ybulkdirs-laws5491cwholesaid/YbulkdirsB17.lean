/-
  B17: the row of roster.LawS5491CWhole.
-/
import Derived.Test.YbulkdirsRows
import Derived.Test.YbulkdirsArg
import Derived.Test.YbulkdirsB16
namespace Go.Proofs.Ybulkdirs.lawBDone
open Go.ChangeShapes Go.WideShapes Go.ChangeAt Go.RowKit V
set_option linter.unusedVariables false

theorem own : ownKnob Yba.prog.godebug = none := by kernel_rfl
theorem laidOut : laidOutB Yba.prog = true := by kernel_rfl
theorem cells27 : Yba.prog.cellsOf 27 = 4 := by kernel_rfl
theorem cells9 : Yba.prog.cellsOf 9 = 1 := by kernel_rfl
theorem cells2 : Yba.prog.cellsOf 2 = 1 := by kernel_rfl
theorem cells3 : Yba.prog.cellsOf 3 = 1 := by kernel_rfl
theorem wf64 {n : Int} (h : (Lit.int .i64 n).wf = true) : -9223372036854775808 ≤ n ∧ n ≤ 9223372036854775807 := by
  have e1 : IntKind.i64.min = -9223372036854775808 := by decide
  have e2 : IntKind.i64.max = 9223372036854775807 := by decide
  simp [Lit.wf, e1, e2] at h
  omega

theorem four_of {α : Type} {cs : List α} {a b c d : α} (h : cs.length = 4) (h0 : (cs.drop 0).take 1 = [a]) (h1 : (cs.drop 1).take 1 = [b]) (h2 : (cs.drop 2).take 1 = [c]) (h3 : (cs.drop 3).take 1 = [d]) : cs = [a, b, c, d] := by
  match cs, h with
  | [x, y, z, u], _ =>
    simp at h0 h1 h2 h3
    simp [h0, h1, h2, h3]

section
variable {H : Type} {enc : TypeId × Value → H} {w : World} {base : Nat} {spare : Nat → Bool} {held : Bool}
theorem rows_in {fuel : Nat} {a : Option Addr} {len cap : Nat} {x : DataW H × List MemPlace} (h : DataW.trod enc Yba.prog w base spare held fuel 22 (Value.slice a len cap).cells.toList = some x) :
    ∃ P G S L, Rows4 w.heap a len P G S L ∧ (∀ i, -9223372036854775808 ≤ S i ∧ S i ≤ 9223372036854775807) ∧ len ≤ 9223372036854775807 ∧ (a = none → len = 0 ∧ cap = 0) := by
  have h0 := h
  obtain ⟨hmax, hs⟩ := arg_sliceN Yba.underlying22 (by rw [cells27]; omega) h
  have each : ∀ i, i < len → ∃ (s t : ByteArray) (z l : Int), (-9223372036854775808 ≤ z ∧ z ≤ 9223372036854775807) ∧ ∃ b o, a = some ⟨b, o, none⟩ ∧ ∀ k, k < 4 → hc w.heap b (o + i * 4 + k) = ([.string s, .string t, .int .i64 z, .int .i64 l] : List Value)[k]? := by
    intro i hi
    obtain ⟨b, o, cs, m, y, rfl, hl, hcell, htr⟩ := hs i hi
    rw [cells27] at hl hcell
    obtain ⟨xs, n, _, _, _, hxl, hf⟩ := DataW.trod_struct Yba.underlying27 htr
    have f0 : DataW.trod enc Yba.prog w base spare held n 9 ((cs.drop 0).take (Yba.prog.cellsOf 9)) = xs[0]? := hf 0 _ rfl
    have f1 : DataW.trod enc Yba.prog w base spare held n 9 ((cs.drop 1).take (Yba.prog.cellsOf 9)) = xs[1]? := hf 1 _ rfl
    have f2 : DataW.trod enc Yba.prog w base spare held n 2 ((cs.drop 2).take (Yba.prog.cellsOf 2)) = xs[2]? := hf 2 _ rfl
    have f3 : DataW.trod enc Yba.prog w base spare held n 3 ((cs.drop 3).take (Yba.prog.cellsOf 3)) = xs[3]? := hf 3 _ rfl
    rw [List.getElem?_eq_getElem (by rw [hxl]; simp)] at f0 f1 f2 f3
    obtain ⟨s, e0, _⟩ := DataW.trod_string Yba.underlying9 f0
    obtain ⟨t, e1, _⟩ := DataW.trod_string Yba.underlying9 f1
    obtain ⟨z, e2, _, wz⟩ := DataW.trod_int Yba.underlying2 f2
    obtain ⟨q, e3, _⟩ := DataW.trod_int Yba.underlying3 f3
    rw [cells9] at e0 e1
    rw [cells2] at e2
    rw [cells3] at e3
    obtain rfl := four_of hl e0 e1 e2 e3
    exact ⟨s, t, z, q, wf64 wz, b, o, rfl, fun k hk => hcell k hk⟩
  refine ⟨fun i => if hi : i < len then (each i hi).choose else ByteArray.empty, fun i => if hi : i < len then (each i hi).choose_spec.choose else ByteArray.empty, fun i => if hi : i < len then (each i hi).choose_spec.choose_spec.choose else 0, fun i => if hi : i < len then (each i hi).choose_spec.choose_spec.choose_spec.choose else 0, fun i hi => ?_, fun i => ?_, by simp only [maxLen] at hmax; omega, ?_⟩
  · obtain ⟨b, o, ea, he⟩ := (each i hi).choose_spec.choose_spec.choose_spec.choose_spec.2
    refine ⟨b, o, ea, fun t ht => ?_⟩
    rw [he t ht, cellOf_get _ _ _ _ i t ht |>.symm]
    simp only [hi, dif_pos]
  · by_cases hi : i < len
    · simp only [hi, dif_pos]
      exact (each i hi).choose_spec.choose_spec.choose_spec.choose_spec.1
    · simp only [hi]
      simp
  · rintro rfl
    rcases DataW.trod_slice Yba.underlying22 h0 with ⟨h1, _⟩ | ⟨ad, len', cap', _, _, _, _, hcs, _⟩
    · simp [Value.cells] at h1
      exact h1
    · simp [Value.cells] at hcs
end

set_option maxRecDepth 100000 in
theorem lifted (os : Os) (started : os.Started) (H : Type) (enc : TypeId × Value → H) :
    ReturnsInHanded {} Yba.checked os 3 .any (Rows.lawS5491CWholeSpec.pre6 enc Yba.prog Yba.f3 Rows.lawS5491CWholeRow.domain false) (Rows.lawS5491CWholeSpec.post enc Yba.prog Yba.f3 false true false false) := by
  refine returnsInHanded_of_change (C := Yba.checked) own started (by kernel_rfl) Yba.func3
    (ChangeSpec.witness6 (enc := enc) (C := Yba.checked) false ⟨#[], #[.slice none 0 0], []⟩ 8 (by kernel_rfl) (by kernel_rfl) (by kernel_rfl) (by kernel_rfl)) ?_
  intro W base args ds gs before hval0 hW hcnd _
  have hval : ∀ (j : Nat) t v, Yba.f3.params[j]? = some t → args[j]? = some v → Value.okWide Yba.prog W .any base t v := hval0
  have hW' := hW
  obtain ⟨p, q, hA0, hV, rfl, hfz, hnd⟩ := hW
  have hA : DataW.TrodAll enc Yba.prog W 0 (fun _ => true) true Yba.f3.params.toList args.toList ds p := hA0
  rw [Yba.params3] at hA hval
  obtain ⟨v0, vs0, d0, ds0, p0, q0, hargs, rfl, rfl, h0, r0⟩ := trodAll_cons hA
  obtain ⟨rfl, rfl, rfl⟩ := trodAll_nil r0
  obtain rfl : args = #[v0] := by cases args; simp_all
  obtain ⟨rfl, rfl⟩ := trodVars_none hV
  obtain ⟨a0, len0, cap0, rfl⟩ := okWide_slice Yba.underlying22 (hval 0 22 v0 rfl rfl)
  have k0 := h0
  have lt0 : ∀ x ∈ p0, x.block < W.heap.size := by obtain ⟨m, hm⟩ := k0; exact DataW.trod_lt m _ _ _ hm
  obtain ⟨P, G, S, L, s0, s1, s2, s3⟩ : ∃ P G S L, Rows4 W.heap a0 len0 P G S L ∧ (∀ i, -9223372036854775808 ≤ S i ∧ S i ≤ 9223372036854775807) ∧ len0 ≤ 9223372036854775807 ∧ (a0 = none → len0 = 0 ∧ cap0 = 0) := by obtain ⟨fuel, hf⟩ := h0; exact rows_in hf
  clear hA0 hval0
  have walk := calls_below (w := W) (law_ok W.heap a0 len0 cap0 P G S L s0 s3 s1 s2)
  refine walk.mono fun e W' ⟨he, bel⟩ => ?_
  subst he
  exact ⟨_, rfl, _, _, _, [], _, [], hW', trodAll_mk1 (shut_bool Yba.underlying4 _), (trodAll_cons_mk (Below.trod laidOut (by kernel_rfl) (of_decide_eq_true (by kernel_rfl)) k0 bel lt0) trodAll_mk0), rfl, bel.frame _, fun h => by cases h⟩

theorem over : Rows.lawS5491CWholeRow.holds Yba.pinned (OpenSpec.ofChange Rows.lawS5491CWholeSpec) :=
  OpenClaim.holds_of_wide 3 Yba.f3 rfl rfl rfl rfl rfl rfl rfl ⟨rfl, rfl, rfl, rfl, rfl⟩ rfl rfl rfl rfl rfl (by kernel_rfl) Yba.func3 (by kernel_rfl)
    (of_decide_eq_true (by kernel_rfl)) (by unfold Func.isWrapper; first | (rw [if_pos (by decide +kernel)]; kernel_rfl) | (rw [if_neg (by decide +kernel)]; exact ⟨rfl, rfl⟩))
    (fun os started H enc _ => lifted os started H enc)

theorem proved : Rows.LawS5491CWholeSaid := over
end Go.Proofs.Ybulkdirs.lawBDone
