/-
  Arg: what a parameter that is a slice of one-cell elements holds. Own work of this seat. Generic: over any program.
-/
import Derived.Test.YbulkdiqqEff
import Derived.WalkKit
import Derived.ProofKit
import Derived.OpenShut
import Derived.ShutString
import Derived.ChangeOld
import Derived.Below
namespace Go.Proofs.Ybulkdiqq
set_option linter.unusedSimpArgs false
set_option linter.unusedVariables false
namespace V
open Go Go.RowKit Go.ChangeShapes Go.WideShapes

/-- A slice that holds f 0, f 1, .. -/
def SlV (h : Heap) (v : Value) (n : Nat) (f : Nat → Value) : Prop :=
  ∃ a c, v = .slice a n c ∧ (n = 0 ∨ ∃ b o, a = some ⟨b, o, none⟩ ∧ ∀ j, j < n → hc h b (o + j) = some (f j))

section
variable {H : Type} {enc : TypeId × Value → H} {P : Program} {w : World} {base : Nat} {spare : Nat → Bool} {held : Bool}
theorem arg_slice {t e : TypeId} {fuel : Nat} {v : Value} {a : Option Addr} {len cap : Nat} {x : DataW H × List MemPlace} (ht : P.underlying t = some (.slice e)) (hc1 : P.cellsOf e = 1)
    (h : DataW.trod enc P w base spare held fuel t (Value.slice a len cap).cells.toList = some x) :
    ∃ f : Nat → Value, SlV w.heap (.slice a len cap) len f ∧ len ≤ maxLen ∧ ∀ j, j < len → ∃ m y, DataW.trod enc P w base spare held m e [f j] = some y := by
  rcases DataW.trod_slice ht h with ⟨h0, _⟩ | ⟨ad, len', cap', elems, rest, n, _, hcs, rfl, hb, hl, hm, hlen, hel, hsp, hns⟩
  · simp [Value.cells] at h0
    obtain ⟨rfl, rfl, rfl⟩ := h0
    exact ⟨fun _ => undef, ⟨none, 0, rfl, .inl rfl⟩, by simp [maxLen], fun j hj => by omega⟩
  · simp [Value.cells] at hcs
    obtain ⟨rfl, rfl, rfl⟩ := hcs
    have each : ∀ i, i < len → ∃ u y, w.cell? (ad.add i) = some u ∧ DataW.trod enc P w base spare held n e [u] = some y := by
      intro i hi
      have h1 := hel i hi
      rw [hc1, Nat.mul_one, List.getElem?_eq_getElem (by omega), Option.bind_eq_some_iff] at h1
      obtain ⟨cs, h2, h3⟩ := h1
      have h4 := World.cells?_some h2
      obtain ⟨u, rfl⟩ : ∃ u, cs = [u] := by
        have := h4.2.1
        match cs, this with
        | [u], _ => exact ⟨u, rfl⟩
      exact ⟨u, _, cell_of_cells?_one h2, h3⟩
    by_cases h0 : len = 0
    · exact ⟨fun _ => undef, ⟨some ad, cap, rfl, .inl h0⟩, by omega, fun j hj => by omega⟩
    · obtain ⟨b, off, spot⟩ := ad
      obtain ⟨u0, _, hc0, _⟩ := each 0 (by omega)
      have hspot : spot = none := by simpa [Addr.add] using World.cell?_spot hc0
      subst hspot
      refine ⟨fun j => (w.cell? ((⟨b, off, none⟩ : Addr).add j)).getD undef, ⟨_, cap, rfl, .inr ⟨b, off, rfl, fun j hj => ?_⟩⟩, by omega, fun j hj => ?_⟩
      · obtain ⟨u, y, h1, h2⟩ := each j hj
        simp only [h1, Option.getD_some]
        rw [add_none, cell_hc] at h1
        exact h1
      · obtain ⟨u, y, h1, h2⟩ := each j hj
        simp only [h1, Option.getD_some]
        exact ⟨n, y, h2⟩

/-- A slice whose elements have many cells. -/
theorem arg_sliceN {t e : TypeId} {fuel : Nat} {a : Option Addr} {len cap : Nat} {x : DataW H × List MemPlace} (ht : P.underlying t = some (.slice e)) (hpos : 0 < P.cellsOf e)
    (h : DataW.trod enc P w base spare held fuel t (Value.slice a len cap).cells.toList = some x) :
    len ≤ maxLen ∧ ∀ i, i < len → ∃ b o cs m y, a = some ⟨b, o, none⟩ ∧ cs.length = P.cellsOf e ∧ (∀ t, t < P.cellsOf e → hc w.heap b (o + i * P.cellsOf e + t) = cs[t]?) ∧ DataW.trod enc P w base spare held m e cs = some y := by
  rcases DataW.trod_slice ht h with ⟨h0, _⟩ | ⟨ad, len', cap', elems, rest, n, _, hcs, rfl, hb, hl, hm, hlen, hel, hsp, hns⟩
  · simp [Value.cells] at h0
    obtain ⟨rfl, rfl, rfl⟩ := h0
    exact ⟨by simp [maxLen], fun j hj => by omega⟩
  · simp [Value.cells] at hcs
    obtain ⟨rfl, rfl, rfl⟩ := hcs
    refine ⟨by omega, fun i hi => ?_⟩
    have h1 := hel i hi
    rw [List.getElem?_eq_getElem (by omega), Option.bind_eq_some_iff] at h1
    obtain ⟨cs, h2, h3⟩ := h1
    obtain ⟨_, h4, h5⟩ := World.cells?_some h2
    obtain ⟨b, off, spot⟩ := ad
    have hspot : spot = none := by
      have g1 := hel 0 (by omega)
      rw [List.getElem?_eq_getElem (by omega), Option.bind_eq_some_iff] at g1
      obtain ⟨cs0, g2, _⟩ := g1
      obtain ⟨_, g4, g5⟩ := World.cells?_some g2
      have h6 := g5 0 hpos
      rw [List.getElem?_eq_getElem (by omega)] at h6
      have h7 := World.cell?_spot h6
      simpa [Addr.add] using h7
    subst hspot
    refine ⟨b, off, cs, n, _, rfl, h4, fun t ht' => ?_, h3⟩
    have h6 := h5 t ht'
    rw [add_none, add_none, cell_hc] at h6
    exact h6

theorem arg_bools {t e : TypeId} {fuel : Nat} {v : Value} {a : Option Addr} {len cap : Nat} {x : DataW H × List MemPlace} (ht : P.underlying t = some (.slice e)) (he : P.underlying e = some .bool) (hc1 : P.cellsOf e = 1)
    (h : DataW.trod enc P w base spare held fuel t (Value.slice a len cap).cells.toList = some x) :
    ∃ f : Nat → Bool, SlV w.heap (.slice a len cap) len (fun j => .bool (f j)) ∧ len ≤ maxLen := by
  obtain ⟨f, h1, h2, h3⟩ := arg_slice (v := v) ht hc1 h
  refine ⟨fun j => match f j with | .bool b => b | _ => false, ?_, h2⟩
  obtain ⟨a', c', e', hcase⟩ := h1
  cases e'
  refine ⟨_, _, rfl, hcase.imp id ?_⟩
  rintro ⟨b, o, rfl, hcell⟩
  refine ⟨b, o, rfl, fun j hj => ?_⟩
  obtain ⟨m, y, h4⟩ := h3 j hj
  obtain ⟨q, h5, _⟩ := DataW.trod_bool he h4
  simp at h5
  rw [hcell j hj, h5]
  simp [h5]

theorem arg_ints {t e : TypeId} {k : IntKind} {fuel : Nat} {v : Value} {a : Option Addr} {len cap : Nat} {x : DataW H × List MemPlace} (ht : P.underlying t = some (.slice e)) (he : P.underlying e = some (.int k)) (hc1 : P.cellsOf e = 1)
    (h : DataW.trod enc P w base spare held fuel t (Value.slice a len cap).cells.toList = some x) :
    ∃ zs : List Int, zs.length = len ∧ SlV w.heap (.slice a len cap) len (fun j => .int k (zs.getD j 0)) ∧ len ≤ maxLen ∧ ∀ z ∈ zs, (Lit.int k z).wf = true := by
  obtain ⟨f, h1, h2, h3⟩ := arg_slice (v := v) ht hc1 h
  have hz : ∀ j, j < len → ∃ z, f j = .int k z ∧ (Lit.int k z).wf = true := by
    intro j hj
    obtain ⟨m, y, h4⟩ := h3 j hj
    obtain ⟨q, h5, _, h6⟩ := DataW.trod_int he h4
    simp at h5
    exact ⟨q, h5, h6⟩
  refine ⟨(List.range len).map fun j => (match f j with | .int _ z => z | _ => 0), by simp, ?_, h2, ?_⟩
  · obtain ⟨a', c', e', hcase⟩ := h1
    cases e'
    refine ⟨_, _, rfl, hcase.imp id ?_⟩
    rintro ⟨b, o, rfl, hcell⟩
    refine ⟨b, o, rfl, fun j hj => ?_⟩
    obtain ⟨z, h5, _⟩ := hz j hj
    rw [hcell j hj, h5]
    simp [hj, h5]
  · intro z hzm
    obtain ⟨j, hj, rfl⟩ := List.mem_map.1 hzm
    obtain ⟨q, h5, h6⟩ := hz j (by simpa using hj)
    rw [h5]; exact h6
end

/-- From the call's contract to the row's. -/
theorem calls_below {P : Program} {f : FuncId} {args : Array Value} {w : World} (hc : CallsH P f args w.heap (fun u h' => u = .bool true ∧ Low w.heap.size w.heap h')) :
    Calls P f args w fun e w' => e = .returned (.bool true) ∧ Below w.heap.size w w' := by
  refine (hc.out w rfl).mono ?_
  rintro e w' ⟨v, rfl, ⟨rfl, lo⟩, h1, h2, h3⟩
  exact ⟨rfl, h1, h2, h3, lo.size, lo.same⟩
end V
end Go.Proofs.Ybulkdiqq
