/-
  A9: the row of scenario.LawS5489AWhole.
-/
import Derived.Test.YbulkdiqqRows
import Derived.Test.YbulkdiqqArg
import Derived.Test.YbulkdiqqA8
namespace Go.Proofs.Ybulkdiqq.lawADone
open Go.ChangeShapes Go.WideShapes Go.ChangeAt Go.RowKit V
set_option linter.unusedVariables false

theorem own : ownKnob Yba.prog.godebug = none := by kernel_rfl
theorem laidOut : laidOutB Yba.prog = true := by kernel_rfl

theorem slB {h : Heap} {v : Value} {n : Nat} {f : Nat → Bool} (hs : SlV h v n (fun j => .bool (f j))) : SlB h v n f := hs
theorem slI {h : Heap} {k : IntKind} {v : Value} {zs : List Int} {n : Nat} (hl : zs.length = n) (hs : SlV h v n (fun j => .int k (zs.getD j 0))) : SlI k h v zs := by
  subst hl; exact hs
theorem small16 {n : Int} (h : (Lit.int .i16 n).wf = true) : -32768 ≤ n ∧ n ≤ 32767 := by
  have e1 : IntKind.i16.min = -32768 := by decide
  have e2 : IntKind.i16.max = 32767 := by decide
  simp [Lit.wf, e1, e2] at h
  exact h
theorem small8 {n : Int} (h : (Lit.int .u8 n).wf = true) : ∃ m : Nat, n = m ∧ m < 256 := by
  have e1 : IntKind.u8.min = 0 := by decide
  have e2 : IntKind.u8.max = 255 := by decide
  simp [Lit.wf, e1, e2] at h
  exact ⟨n.toNat, by omega, by omega⟩

set_option maxRecDepth 100000 in
theorem lifted (os : Os) (started : os.Started) (H : Type) (enc : TypeId × Value → H) :
    ReturnsInHanded {} Yba.checked os 3 .any (Rows.lawS5489AWholeSpec.pre6 enc Yba.prog Yba.f3 Rows.lawS5489AWholeRow.domain false) (Rows.lawS5489AWholeSpec.post enc Yba.prog Yba.f3 false true false false) := by
  refine returnsInHanded_of_change (C := Yba.checked) own started (by kernel_rfl) Yba.func3
    (ChangeSpec.witness6 (enc := enc) (C := Yba.checked) false ⟨#[], #[.slice none 0 0, .int .u8 0, .int .i64 0, .int .u8 0, .slice none 0 0, .slice none 0 0, .slice none 0 0, .slice none 0 0], []⟩ 8 (by kernel_rfl) (by kernel_rfl) (by kernel_rfl) (by kernel_rfl)) ?_
  intro W base args ds gs before hval0 hW hcnd _
  have hval : ∀ (j : Nat) t v, Yba.f3.params[j]? = some t → args[j]? = some v → Value.okWide Yba.prog W .any base t v := hval0
  have hW' := hW
  obtain ⟨p, q, hA0, hV, rfl, hfz, hnd⟩ := hW
  have hA : DataW.TrodAll enc Yba.prog W 0 (fun _ => true) true Yba.f3.params.toList args.toList ds p := hA0
  rw [Yba.params3] at hA hval
  obtain ⟨v0, vs0, d0, ds0, p0, q0, hargs, rfl, rfl, h0, r0⟩ := trodAll_cons hA
  obtain ⟨v1, vs1, d1, ds1, p1, q1, rfl, rfl, rfl, h1, r1⟩ := trodAll_cons r0
  obtain ⟨v2, vs2, d2, ds2, p2, q2, rfl, rfl, rfl, h2, r2⟩ := trodAll_cons r1
  obtain ⟨v3, vs3, d3, ds3, p3, q3, rfl, rfl, rfl, h3, r3⟩ := trodAll_cons r2
  obtain ⟨v4, vs4, d4, ds4, p4, q4, rfl, rfl, rfl, h4, r4⟩ := trodAll_cons r3
  obtain ⟨v5, vs5, d5, ds5, p5, q5, rfl, rfl, rfl, h5, r5⟩ := trodAll_cons r4
  obtain ⟨v6, vs6, d6, ds6, p6, q6, rfl, rfl, rfl, h6, r6⟩ := trodAll_cons r5
  obtain ⟨v7, vs7, d7, ds7, p7, q7, rfl, rfl, rfl, h7, r7⟩ := trodAll_cons r6
  obtain ⟨rfl, rfl, rfl⟩ := trodAll_nil r7
  obtain rfl : args = #[v0, v1, v2, v3, v4, v5, v6, v7] := by cases args; simp_all
  obtain ⟨rfl, rfl⟩ := trodVars_none hV
  obtain ⟨a0, len0, cap0, rfl⟩ := okWide_slice Yba.underlying22 (hval 0 22 v0 rfl rfl)
  obtain ⟨a4, len4, cap4, rfl⟩ := okWide_slice Yba.underlying23 (hval 4 23 v4 rfl rfl)
  obtain ⟨a5, len5, cap5, rfl⟩ := okWide_slice Yba.underlying23 (hval 5 23 v5 rfl rfl)
  obtain ⟨a6, len6, cap6, rfl⟩ := okWide_slice Yba.underlying24 (hval 6 24 v6 rfl rfl)
  obtain ⟨a7, len7, cap7, rfl⟩ := okWide_slice Yba.underlying24 (hval 7 24 v7 rfl rfl)
  have k0 := h0
  have k4 := h4
  have k5 := h5
  have k6 := h6
  have k7 := h7
  have lt0 : ∀ x ∈ p0, x.block < W.heap.size := by obtain ⟨m, hm⟩ := k0; exact DataW.trod_lt m _ _ _ hm
  have lt4 : ∀ x ∈ p4, x.block < W.heap.size := by obtain ⟨m, hm⟩ := k4; exact DataW.trod_lt m _ _ _ hm
  have lt5 : ∀ x ∈ p5, x.block < W.heap.size := by obtain ⟨m, hm⟩ := k5; exact DataW.trod_lt m _ _ _ hm
  have lt6 : ∀ x ∈ p6, x.block < W.heap.size := by obtain ⟨m, hm⟩ := k6; exact DataW.trod_lt m _ _ _ hm
  have lt7 : ∀ x ∈ p7, x.block < W.heap.size := by obtain ⟨m, hm⟩ := k7; exact DataW.trod_lt m _ _ _ hm
  obtain ⟨pr, s0, m0⟩ : ∃ f : Nat → Bool, SlV W.heap (.slice a0 len0 cap0) len0 (fun j => .bool (f j)) ∧ len0 ≤ maxLen := by
    obtain ⟨fuel, hf⟩ := h0; exact arg_bools (v := undef) Yba.underlying22 Yba.underlying4 (by kernel_rfl) hf
  obtain ⟨z4, e4, s4, m4, b4⟩ : ∃ zs : List Int, zs.length = len4 ∧ SlV W.heap (.slice a4 len4 cap4) len4 (fun j => .int .i64 (zs.getD j 0)) ∧ len4 ≤ maxLen ∧ ∀ z ∈ zs, (Lit.int .i64 z).wf = true := by
    obtain ⟨fuel, hf⟩ := h4; exact arg_ints (v := undef) Yba.underlying23 Yba.underlying3 (by kernel_rfl) hf
  obtain ⟨z5, e5, s5, m5, b5⟩ : ∃ zs : List Int, zs.length = len5 ∧ SlV W.heap (.slice a5 len5 cap5) len5 (fun j => .int .i64 (zs.getD j 0)) ∧ len5 ≤ maxLen ∧ ∀ z ∈ zs, (Lit.int .i64 z).wf = true := by
    obtain ⟨fuel, hf⟩ := h5; exact arg_ints (v := undef) Yba.underlying23 Yba.underlying3 (by kernel_rfl) hf
  obtain ⟨z6, e6, s6, m6, b6⟩ : ∃ zs : List Int, zs.length = len6 ∧ SlV W.heap (.slice a6 len6 cap6) len6 (fun j => .int .i16 (zs.getD j 0)) ∧ len6 ≤ maxLen ∧ ∀ z ∈ zs, (Lit.int .i16 z).wf = true := by
    obtain ⟨fuel, hf⟩ := h6; exact arg_ints (v := undef) Yba.underlying24 Yba.underlying112 (by kernel_rfl) hf
  obtain ⟨z7, e7, s7, m7, b7⟩ : ∃ zs : List Int, zs.length = len7 ∧ SlV W.heap (.slice a7 len7 cap7) len7 (fun j => .int .i16 (zs.getD j 0)) ∧ len7 ≤ maxLen ∧ ∀ z ∈ zs, (Lit.int .i16 z).wf = true := by
    obtain ⟨fuel, hf⟩ := h7; exact arg_ints (v := undef) Yba.underlying24 Yba.underlying112 (by kernel_rfl) hf
  obtain ⟨n1, rfl, rfl, rfl, w1⟩ := open_int Yba.underlying5 (hval 1 5 v1 rfl rfl) h1
  obtain ⟨n2, rfl, rfl, rfl, w2⟩ := open_int Yba.underlying3 (hval 2 3 v2 rfl rfl) h2
  obtain ⟨n3, rfl, rfl, rfl, w3⟩ := open_int Yba.underlying5 (hval 3 5 v3 rfl rfl) h3
  obtain ⟨c1, rfl, hc1⟩ := small8 w1
  obtain ⟨c3, rfl, hc3⟩ := small8 w3
  clear hA0 hval0
  have hl6 : z6.length ≤ 9223372036854775807 := by rw [e6]; simpa [maxLen] using m6
  have hl7 : z7.length ≤ 9223372036854775807 := by rw [e7]; simpa [maxLen] using m7
  have walk := calls_below (w := W) (law_ok W.heap (.slice a0 len0 cap0) (.slice a4 len4 cap4) (.slice a5 len5 cap5) (.slice a6 len6 cap6) (.slice a7 len7 cap7) len0 c1 c3 n2 pr z4 z5 z6 z7 (slB s0) (slI e4 s4) (slI e5 s5) (slI e6 s6) (slI e7 s7)
    (fun x hx => small16 (b6 x hx)) (fun x hx => small16 (b7 x hx)) hl6 hl7 hc1 hc3)
  refine walk.mono fun e W' ⟨he, bel⟩ => ?_
  subst he
  exact ⟨_, rfl, _, _, _, [], _, [], hW', trodAll_mk1 (shut_bool Yba.underlying4 _), (trodAll_cons_mk (Below.trod laidOut (by kernel_rfl) (of_decide_eq_true (by kernel_rfl)) k0 bel lt0) (trodAll_cons_mk (shut_int Yba.underlying5 w1) (trodAll_cons_mk (shut_int Yba.underlying3 w2) (trodAll_cons_mk (shut_int Yba.underlying5 w3)
    (trodAll_cons_mk (Below.trod laidOut (by kernel_rfl) (of_decide_eq_true (by kernel_rfl)) k4 bel lt4) (trodAll_cons_mk (Below.trod laidOut (by kernel_rfl) (of_decide_eq_true (by kernel_rfl)) k5 bel lt5) (trodAll_cons_mk (Below.trod laidOut (by kernel_rfl) (of_decide_eq_true (by kernel_rfl)) k6 bel lt6) (trodAll_cons_mk (Below.trod laidOut (by kernel_rfl) (of_decide_eq_true (by kernel_rfl)) k7 bel lt7) trodAll_mk0)))))))), rfl, bel.frame _, fun h => by cases h⟩

theorem over : Rows.lawS5489AWholeRow.holds Yba.pinned (OpenSpec.ofChange Rows.lawS5489AWholeSpec) :=
  OpenClaim.holds_of_wide 3 Yba.f3 rfl rfl rfl rfl rfl rfl rfl ⟨rfl, rfl, rfl, rfl, rfl⟩ rfl rfl rfl rfl rfl (by kernel_rfl) Yba.func3 (by kernel_rfl)
    (of_decide_eq_true (by kernel_rfl)) (by unfold Func.isWrapper; first | (rw [if_pos (by decide +kernel)]; kernel_rfl) | (rw [if_neg (by decide +kernel)]; exact ⟨rfl, rfl⟩))
    (fun os started H enc _ => lifted os started H enc)

theorem proved : Rows.LawS5489AWholeSaid := over
end Go.Proofs.Ybulkdiqq.lawADone
