/-
  D18: the row of sim.LawS5489CWhole.
-/
import Derived.SizedLaws
import Derived.Test.YbulkdiqqRows
import Derived.Test.YbulkdiqqArg
import Derived.Test.YbulkdiqqD17
namespace Go.Proofs.Ybulkdiqq.lawCDone
open Go.ChangeShapes Go.WideShapes Go.ChangeAt Go.RowKit V
set_option linter.unusedVariables false

theorem own : ownKnob Yba.prog.godebug = none := by kernel_rfl
theorem laidOut : laidOutB Yba.prog = true := by kernel_rfl
theorem cells55 : Yba.prog.cellsOf 55 = 2 := by kernel_rfl
theorem cells70 : Yba.prog.cellsOf 70 = 3 := by kernel_rfl
theorem cells50 : Yba.prog.cellsOf 50 = 1 := by kernel_rfl
theorem cells2 : Yba.prog.cellsOf 2 = 1 := by kernel_rfl
theorem bytes55 : Yba.prog.bytesOf 55 = 16 := by kernel_rfl
theorem bytes70 : Yba.prog.bytesOf 70 = 24 := by kernel_rfl
theorem bytes50 : Yba.prog.bytesOf 50 = 8 := by kernel_rfl
theorem small8 {n : Int} (h : (Lit.int .u8 n).wf = true) : ∃ m : Nat, n = m ∧ m < 256 := by
  have e1 : IntKind.u8.min = 0 := by decide
  have e2 : IntKind.u8.max = 255 := by decide
  simp [Lit.wf, e1, e2] at h
  exact ⟨n.toNat, by omega, by omega⟩

theorem two_of {α : Type} {cs : List α} {a b : α} (h : cs.length = 2) (h0 : (cs.drop 0).take 1 = [a]) (h1 : (cs.drop 1).take 1 = [b]) : cs = [a, b] := by
  match cs, h with
  | [x, y], _ =>
    simp at h0 h1
    simp [h0, h1]
theorem three_of {α : Type} {cs : List α} {a b c : α} (h : cs.length = 3) (h0 : (cs.drop 0).take 1 = [a]) (h1 : (cs.drop 1).take 1 = [b]) (h2 : (cs.drop 2).take 1 = [c]) : cs = [a, b, c] := by
  match cs, h with
  | [x, y, z], _ =>
    simp at h0 h1 h2
    simp [h0, h1, h2]

section
variable {H : Type} {enc : TypeId × Value → H} {w : World} {base : Nat} {spare : Nat → Bool} {held : Bool}
theorem len_of {ts : List TypeId} {ds : List (DataW H)} (hsz : (DataW.weightsEach Yba.prog ts ds).all (· ≤ reachBytes) = true) {j : Nat} {t e : TypeId} {d : DataW H} {p : List MemPlace} {a : Option Addr} {len cap : Nat} (ht : ts[j]? = some t) (hd : ds[j]? = some d) (hu : Yba.prog.underlying t = some (.slice e)) (hb : 0 < Yba.prog.bytesOf e)
    (h : DataW.Trod enc Yba.prog w base spare held t (.slice a len cap) d p) : len ≤ 140737488351232 := by
  obtain ⟨fuel, h⟩ := h
  rcases DataW.trod_slice hu h with ⟨h0, _⟩ | ⟨ad, len', cap', elems, rest, n, _, hcs, hx, hb', hl, hm, hlen, hel, hsp, hns⟩
  · simp [Value.cells] at h0
    omega
  · simp [Value.cells] at hcs
    obtain ⟨rfl, rfl, rfl⟩ := hcs
    simp only [Prod.mk.injEq] at hx
    obtain ⟨rfl, _⟩ := hx
    have h1 := sized_slice hsz ht hd hu
    simp only [List.length_map, reachBytes] at h1
    have h2 : (elems.length + rest.length) * 1 ≤ (elems.length + rest.length) * Yba.prog.bytesOf e := Nat.mul_le_mul_left _ hb
    omega
theorem prios_in {fuel : Nat} {a : Option Addr} {len cap : Nat} {x : DataW H × List MemPlace} (h : DataW.trod enc Yba.prog w base spare held fuel 51 (Value.slice a len cap).cells.toList = some x) :
    ∃ I P : Nat → Int, PIn w.heap a len I P := by
  obtain ⟨_, hs⟩ := arg_sliceN Yba.underlying51 (by rw [cells55]; omega) h
  have each : ∀ i, i < len → ∃ z : Int × Int, ∃ b o, a = some ⟨b, o, none⟩ ∧ ∀ k, k < 2 → hc w.heap b (o + i * 2 + k) = ([.int .u64 z.1, .int .u64 z.2] : List Value)[k]? := by
    intro i hi
    obtain ⟨b, o, cs, m, y, rfl, hl, hcell, htr⟩ := hs i hi
    rw [cells55] at hl hcell
    obtain ⟨xs, n, _, _, _, hxl, hf⟩ := DataW.trod_struct Yba.underlying55 htr
    have f0 : DataW.trod enc Yba.prog w base spare held n 50 ((cs.drop 0).take (Yba.prog.cellsOf 50)) = xs[0]? := hf 0 _ rfl
    have f1 : DataW.trod enc Yba.prog w base spare held n 50 ((cs.drop 1).take (Yba.prog.cellsOf 50)) = xs[1]? := hf 1 _ rfl
    rw [List.getElem?_eq_getElem (by rw [hxl]; simp)] at f0 f1
    obtain ⟨z0, e0, _, _⟩ := DataW.trod_int Yba.underlying50 f0
    obtain ⟨z1, e1, _, _⟩ := DataW.trod_int Yba.underlying50 f1
    rw [cells50] at e0 e1
    obtain rfl := two_of hl e0 e1
    exact ⟨(z0, z1), b, o, rfl, fun k hk => hcell k hk⟩
  refine ⟨fun i => if hi : i < len then (each i hi).choose.1 else 0, fun i => if hi : i < len then (each i hi).choose.2 else 0, fun i hi => ?_⟩
  obtain ⟨b, o, ea, he⟩ := (each i hi).choose_spec
  refine ⟨b, o, ea, fun t ht => ?_⟩
  rw [he t ht]
  simp only [hi, dif_pos]
theorem olds_in {fuel : Nat} {a : Option Addr} {len cap : Nat} {x : DataW H × List MemPlace} (h : DataW.trod enc Yba.prog w base spare held fuel 53 (Value.slice a len cap).cells.toList = some x) :
    ∃ D : Nat → Dlv, OIn w.heap a len D := by
  obtain ⟨_, hs⟩ := arg_sliceN Yba.underlying53 (by rw [cells70]; omega) h
  have each : ∀ i, i < len → ∃ z : Dlv, ∃ b o, a = some ⟨b, o, none⟩ ∧ ∀ k, k < 3 → hc w.heap b (o + i * 3 + k) = ([.int .i64 z.1, .int .u64 z.2.1, .int .u64 z.2.2] : List Value)[k]? := by
    intro i hi
    obtain ⟨b, o, cs, m, y, rfl, hl, hcell, htr⟩ := hs i hi
    rw [cells70] at hl hcell
    obtain ⟨xs, n, _, _, _, hxl, hf⟩ := DataW.trod_struct Yba.underlying70 htr
    have f0 : DataW.trod enc Yba.prog w base spare held n 2 ((cs.drop 0).take (Yba.prog.cellsOf 2)) = xs[0]? := hf 0 _ rfl
    have f1 : DataW.trod enc Yba.prog w base spare held n 50 ((cs.drop 1).take (Yba.prog.cellsOf 50)) = xs[1]? := hf 1 _ rfl
    have f2 : DataW.trod enc Yba.prog w base spare held n 50 ((cs.drop 2).take (Yba.prog.cellsOf 50)) = xs[2]? := hf 2 _ rfl
    rw [List.getElem?_eq_getElem (by rw [hxl]; simp)] at f0 f1 f2
    obtain ⟨z0, e0, _, _⟩ := DataW.trod_int Yba.underlying2 f0
    obtain ⟨z1, e1, _, _⟩ := DataW.trod_int Yba.underlying50 f1
    obtain ⟨z2, e2, _, _⟩ := DataW.trod_int Yba.underlying50 f2
    rw [cells2] at e0
    rw [cells50] at e1 e2
    obtain rfl := three_of hl e0 e1 e2
    exact ⟨(z0, z1, z2), b, o, rfl, fun k hk => hcell k hk⟩
  refine ⟨fun i => if hi : i < len then (each i hi).choose else (0, 0, 0), fun i hi => ?_⟩
  obtain ⟨b, o, ea, he⟩ := (each i hi).choose_spec
  refine ⟨b, o, ea, fun t ht => ?_⟩
  rw [he t ht]
  simp only [hi, dif_pos]
theorem nums_in {fuel : Nat} {a : Option Addr} {len cap : Nat} {x : DataW H × List MemPlace} (h : DataW.trod enc Yba.prog w base spare held fuel 52 (Value.slice a len cap).cells.toList = some x) :
    ∃ X : Nat → Int, UIn w.heap a len X := by
  obtain ⟨zs, _, hs, _, _⟩ := arg_ints (v := undef) Yba.underlying52 Yba.underlying50 cells50 h
  refine ⟨fun j => zs.getD j 0, fun i hi => ?_⟩
  obtain ⟨a', c', e, hcase⟩ := hs
  cases e
  rcases hcase with h0 | ⟨b, o, ea, hh⟩
  · omega
  · exact ⟨b, o, ea, hh i hi⟩
end

set_option maxRecDepth 100000 in
theorem lifted (os : Os) (started : os.Started) (H : Type) (enc : TypeId × Value → H) :
    ReturnsInHanded {} Yba.checked os 4 .any (Rows.lawS5489CWholeSpec.pre6 enc Yba.prog Yba.f4 Rows.lawS5489CWholeRow.domain false) (Rows.lawS5489CWholeSpec.post enc Yba.prog Yba.f4 false true false false) := by
  refine returnsInHanded_of_change_sized (C := Yba.checked) own started (by kernel_rfl) Yba.func4
    (ChangeSpec.witness6 (enc := enc) (C := Yba.checked) false ⟨#[], #[.int .u64 0, .int .u8 0, .slice none 0 0, .slice none 0 0, .slice none 0 0, .slice none 0 0, .int .i64 0, .int .i64 0, .int .i64 0, .int .i64 0, .int .u64 0, .int .i64 0], []⟩ 8 (by kernel_rfl) (by kernel_rfl) (by kernel_rfl) (by kernel_rfl)) ?_
  intro W base args ds gs before hval0 hW hcnd hsz0 _
  have hval : ∀ (j : Nat) t v, Yba.f4.params[j]? = some t → args[j]? = some v → Value.okWide Yba.prog W .any base t v := hval0
  have hsz : (DataW.weightsEach Yba.prog (Yba.f4.params.toList ++ Rows.lawS5489CWholeSpec.plain.varTypes Yba.prog) (ds ++ gs)).all (· ≤ reachBytes) = true := hsz0
  have hW' := hW
  obtain ⟨p, q, hA0, hV, rfl, hfz, hnd⟩ := hW
  have hA : DataW.TrodAll enc Yba.prog W 0 (fun _ => true) true Yba.f4.params.toList args.toList ds p := hA0
  rw [Yba.params4] at hA hval hsz
  obtain ⟨v0, vs0, d0, ds0, p0, q0, hargs, rfl, rfl, h0, r0⟩ := trodAll_cons hA
  obtain ⟨v1, vs1, d1, ds1, p1, q1, rfl, rfl, rfl, h1, r1⟩ := trodAll_cons r0
  obtain ⟨v2, vs2, d2, ds2, p2, q2, rfl, rfl, rfl, h2, r2⟩ := trodAll_cons r1
  obtain ⟨v3, vs3, d3, ds3, p3, q3, rfl, rfl, rfl, h3, r3⟩ := trodAll_cons r2
  obtain ⟨v4, vs4, d4, ds4, p4, q4, rfl, rfl, rfl, h4, r4⟩ := trodAll_cons r3
  obtain ⟨v5, vs5, d5, ds5, p5, q5, rfl, rfl, rfl, h5, r5⟩ := trodAll_cons r4
  obtain ⟨v6, vs6, d6, ds6, p6, q6, rfl, rfl, rfl, h6, r6⟩ := trodAll_cons r5
  obtain ⟨v7, vs7, d7, ds7, p7, q7, rfl, rfl, rfl, h7, r7⟩ := trodAll_cons r6
  obtain ⟨v8, vs8, d8, ds8, p8, q8, rfl, rfl, rfl, h8, r8⟩ := trodAll_cons r7
  obtain ⟨v9, vs9, d9, ds9, p9, q9, rfl, rfl, rfl, h9, r9⟩ := trodAll_cons r8
  obtain ⟨v10, vs10, d10, ds10, p10, q10, rfl, rfl, rfl, h10, r10⟩ := trodAll_cons r9
  obtain ⟨v11, vs11, d11, ds11, p11, q11, rfl, rfl, rfl, h11, r11⟩ := trodAll_cons r10
  obtain ⟨rfl, rfl, rfl⟩ := trodAll_nil r11
  obtain rfl : args = #[v0, v1, v2, v3, v4, v5, v6, v7, v8, v9, v10, v11] := by cases args; simp_all
  obtain ⟨rfl, rfl⟩ := trodVars_none hV
  obtain ⟨a2, len2, cap2, rfl⟩ := okWide_slice Yba.underlying51 (hval 2 51 v2 rfl rfl)
  obtain ⟨a3, len3, cap3, rfl⟩ := okWide_slice Yba.underlying52 (hval 3 52 v3 rfl rfl)
  obtain ⟨a4, len4, cap4, rfl⟩ := okWide_slice Yba.underlying52 (hval 4 52 v4 rfl rfl)
  obtain ⟨a5, len5, cap5, rfl⟩ := okWide_slice Yba.underlying53 (hval 5 53 v5 rfl rfl)
  have k2 := h2
  have k3 := h3
  have k4 := h4
  have k5 := h5
  have lt2 : ∀ x ∈ p2, x.block < W.heap.size := by obtain ⟨m, hm⟩ := k2; exact DataW.trod_lt m _ _ _ hm
  have lt3 : ∀ x ∈ p3, x.block < W.heap.size := by obtain ⟨m, hm⟩ := k3; exact DataW.trod_lt m _ _ _ hm
  have lt4 : ∀ x ∈ p4, x.block < W.heap.size := by obtain ⟨m, hm⟩ := k4; exact DataW.trod_lt m _ _ _ hm
  have lt5 : ∀ x ∈ p5, x.block < W.heap.size := by obtain ⟨m, hm⟩ := k5; exact DataW.trod_lt m _ _ _ hm
  have m2 : len2 ≤ 140737488351232 := len_of hsz (j := 2) (t := 51) rfl rfl Yba.underlying51 (by rw [bytes55]; omega) k2
  have m3 : len3 ≤ 140737488351232 := len_of hsz (j := 3) (t := 52) rfl rfl Yba.underlying52 (by rw [bytes50]; omega) k3
  have m4 : len4 ≤ 140737488351232 := len_of hsz (j := 4) (t := 52) rfl rfl Yba.underlying52 (by rw [bytes50]; omega) k4
  have m5 : len5 ≤ 140737488351232 := len_of hsz (j := 5) (t := 53) rfl rfl Yba.underlying53 (by rw [bytes70]; omega) k5
  obtain ⟨I, P, s2⟩ : ∃ I P : Nat → Int, PIn W.heap a2 len2 I P := by obtain ⟨fuel, hf⟩ := h2; exact prios_in hf
  obtain ⟨X, s3⟩ : ∃ X : Nat → Int, UIn W.heap a3 len3 X := by obtain ⟨fuel, hf⟩ := h3; exact nums_in hf
  obtain ⟨Y, s4⟩ : ∃ Y : Nat → Int, UIn W.heap a4 len4 Y := by obtain ⟨fuel, hf⟩ := h4; exact nums_in hf
  obtain ⟨D, s5⟩ : ∃ D : Nat → Dlv, OIn W.heap a5 len5 D := by obtain ⟨fuel, hf⟩ := h5; exact olds_in hf
  clear hsz hsz0
  obtain ⟨n0, rfl, rfl, rfl, w0⟩ := open_int Yba.underlying50 (hval 0 50 v0 rfl rfl) h0
  obtain ⟨n1, rfl, rfl, rfl, w1⟩ := open_int Yba.underlying5 (hval 1 5 v1 rfl rfl) h1
  obtain ⟨n6, rfl, rfl, rfl, w6⟩ := open_int Yba.underlying2 (hval 6 2 v6 rfl rfl) h6
  obtain ⟨n7, rfl, rfl, rfl, w7⟩ := open_int Yba.underlying2 (hval 7 2 v7 rfl rfl) h7
  obtain ⟨n8, rfl, rfl, rfl, w8⟩ := open_int Yba.underlying2 (hval 8 2 v8 rfl rfl) h8
  obtain ⟨n9, rfl, rfl, rfl, w9⟩ := open_int Yba.underlying2 (hval 9 2 v9 rfl rfl) h9
  obtain ⟨n10, rfl, rfl, rfl, w10⟩ := open_int Yba.underlying50 (hval 10 50 v10 rfl rfl) h10
  obtain ⟨n11, rfl, rfl, rfl, w11⟩ := open_int Yba.underlying2 (hval 11 2 v11 rfl rfl) h11
  obtain ⟨c1, rfl, hc1⟩ := small8 w1
  clear hA0 hval0
  have walk := calls_below (w := W) (law_ok W.heap a2 a3 a4 a5 len2 len3 len4 len5 cap2 cap3 cap4 cap5 c1 n0 n6 n7 n8 n9 n10 n11 I P X Y D s2 s3 s4 s5 hc1 m2 m3 m4 m5)
  refine walk.mono fun e W' ⟨he, bel⟩ => ?_
  subst he
  exact ⟨_, rfl, _, _, _, [], _, [], hW', trodAll_mk1 (shut_bool Yba.underlying4 _), (trodAll_cons_mk (shut_int Yba.underlying50 w0) (trodAll_cons_mk (shut_int Yba.underlying5 w1)
    (trodAll_cons_mk (Below.trod laidOut (by kernel_rfl) (of_decide_eq_true (by kernel_rfl)) k2 bel lt2) (trodAll_cons_mk (Below.trod laidOut (by kernel_rfl) (of_decide_eq_true (by kernel_rfl)) k3 bel lt3) (trodAll_cons_mk (Below.trod laidOut (by kernel_rfl) (of_decide_eq_true (by kernel_rfl)) k4 bel lt4) (trodAll_cons_mk (Below.trod laidOut (by kernel_rfl) (of_decide_eq_true (by kernel_rfl)) k5 bel lt5)
    (trodAll_cons_mk (shut_int Yba.underlying2 w6) (trodAll_cons_mk (shut_int Yba.underlying2 w7) (trodAll_cons_mk (shut_int Yba.underlying2 w8) (trodAll_cons_mk (shut_int Yba.underlying2 w9) (trodAll_cons_mk (shut_int Yba.underlying50 w10) (trodAll_cons_mk (shut_int Yba.underlying2 w11) trodAll_mk0)))))))))))), rfl, bel.frame _, fun h => by cases h⟩

theorem over : Rows.lawS5489CWholeRow.holds Yba.pinned (OpenSpec.ofChange Rows.lawS5489CWholeSpec) :=
  OpenClaim.holds_of_wide 4 Yba.f4 rfl rfl rfl rfl rfl rfl rfl ⟨rfl, rfl, rfl, rfl, rfl⟩ rfl rfl rfl rfl rfl (by kernel_rfl) Yba.func4 (by kernel_rfl)
    (of_decide_eq_true (by kernel_rfl)) (by unfold Func.isWrapper; first | (rw [if_pos (by decide +kernel)]; kernel_rfl) | (rw [if_neg (by decide +kernel)]; exact ⟨rfl, rfl⟩))
    (fun os started H enc _ => lifted os started H enc)

theorem proved : Rows.LawS5489CWholeSaid := over
end Go.Proofs.Ybulkdiqq.lawCDone
