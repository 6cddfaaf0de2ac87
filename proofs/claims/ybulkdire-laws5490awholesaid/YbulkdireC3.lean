/-
  C3: the ring, with no Go in sight.
-/
import Derived.Test.YbulkdireC2
namespace Go.Proofs.Ybulkdire
set_option linter.unusedSimpArgs false
set_option linter.unusedVariables false
set_option linter.unnecessarySimpa false
open Go Go.RowKit V

structure Ent where
  id : Int
  off : Int
  bb : Nat
  len : Nat
  nb : Nat
def Ent.key (e : Ent) : Int × Int := (e.id, e.off)
def Ent.blk (e : Ent) : Value := .slice (some ⟨e.bb, 0, none⟩) e.len e.len

def adr (sb n : Nat) (E : Nat → Ent) (i : Nat) : Nat × Nat := if 1 ≤ i ∧ i ≤ n then ((E (i - 1)).nb, 0) else (sb, 5)
def era (j : Nat) (E : Nat → Ent) : Nat → Ent := fun i => if i < j then E i else E (i + 1)
def cns (x : Ent) (E : Nat → Ent) : Nat → Ent := fun i => if i = 0 then x else E (i - 1)

structure Ring (h : Heap) (sb n : Nat) (E : Nat → Ent) : Prop where
  nx : ∀ i, i ≤ n → hc h (adr sb n E i).1 ((adr sb n E i).2 + 4) = some (ptr (adr sb n E (i + 1)))
  pv : ∀ i, i ≤ n → hc h (adr sb n E (i + 1)).1 ((adr sb n E (i + 1)).2 + 3) = some (ptr (adr sb n E i))
/-- No node lies twice in it. -/
structure Apart (sb n : Nat) (E : Nat → Ent) : Prop where
  inj : ∀ i k, i < n → k < n → (E i).nb = (E k).nb → i = k
  hd : ∀ i, i < n → (E i).nb ≠ sb

theorem adr_in (sb n : Nat) (E : Nat → Ent) (i : Nat) (h : i < n) : adr sb n E (i + 1) = ((E i).nb, 0) := by
  unfold adr; rw [if_pos (by omega)]; simp
theorem adr_zero (sb n : Nat) (E : Nat → Ent) : adr sb n E 0 = (sb, 5) := by unfold adr; rw [if_neg (by omega)]
theorem adr_last (sb n : Nat) (E : Nat → Ent) : adr sb n E (n + 1) = (sb, 5) := by unfold adr; rw [if_neg (by omega)]
theorem adr_inj {sb n : Nat} {E : Nat → Ent} (ap : Apart sb n E) {i k : Nat} (hi : i ≤ n) (hk : k ≤ n) (e : (adr sb n E i).1 = (adr sb n E k).1) : i = k := by
  unfold adr at e
  split at e <;> split at e
  · have := ap.inj (i - 1) (k - 1) (by omega) (by omega) e; omega
  · exact absurd e (ap.hd (i - 1) (by omega))
  · exact absurd e.symm (ap.hd (k - 1) (by omega))
  · omega
theorem adr_inj' {sb n : Nat} {E : Nat → Ent} (ap : Apart sb n E) {i k : Nat} (hi : 1 ≤ i) (hi' : i ≤ n + 1) (hk : 1 ≤ k) (hk' : k ≤ n + 1) (e : (adr sb n E i).1 = (adr sb n E k).1) : i = k := by
  unfold adr at e
  split at e <;> split at e
  · have := ap.inj (i - 1) (k - 1) (by omega) (by omega) e; omega
  · exact absurd e (ap.hd (i - 1) (by omega))
  · exact absurd e.symm (ap.hd (k - 1) (by omega))
  · omega
theorem adr_off {sb n : Nat} {E : Nat → Ent} (ap : Apart sb n E) {i k : Nat} (e : (adr sb n E i).1 = (adr sb n E k).1) : (adr sb n E i).2 = (adr sb n E k).2 := by
  unfold adr at e ⊢
  split at e <;> split at e
  · simp_all
  · exact absurd e (ap.hd (i - 1) (by omega))
  · exact absurd e.symm (ap.hd (k - 1) (by omega))
  · rename_i a b; rw [if_neg a, if_neg b]

theorem adr_era {sb n : Nat} {E : Nat → Ent} {j i : Nat} (hj : j < n) (hi : i ≤ n) : adr sb (n - 1) (era j E) i = if i ≤ j then adr sb n E i else adr sb n E (i + 1) := by
  unfold adr era
  by_cases h1 : 1 ≤ i ∧ i ≤ n - 1
  · rw [if_pos h1]
    by_cases h2 : i ≤ j
    · rw [if_pos h2, if_pos (by omega), if_pos (by omega)]
    · rw [if_neg h2, if_neg (by omega), if_pos (by omega)]
      rw [show i - 1 + 1 = i + 1 - 1 by omega]
  · rw [if_neg h1]
    by_cases h2 : i ≤ j
    · rw [if_pos h2, if_neg (by omega)]
    · rw [if_neg h2, if_neg (by omega)]

theorem ring_unlink {h h1 h2 : Heap} {sb n : Nat} {E : Nat → Ent} {j : Nat} (r : Ring h sb n E) (ap : Apart sb n E) (hj : j < n)
    (w1 : Wr h h1 (adr sb n E j).1 ((adr sb n E j).2 + 4) (ptr (adr sb n E (j + 2)))) (w2 : Wr h1 h2 (adr sb n E (j + 2)).1 ((adr sb n E (j + 2)).2 + 3) (ptr (adr sb n E j))) :
    Ring h2 sb (n - 1) (era j E) := by
  have keep4 : ∀ i, i ≤ n → i ≠ j → hc h2 (adr sb n E i).1 ((adr sb n E i).2 + 4) = hc h (adr sb n E i).1 ((adr sb n E i).2 + 4) := fun i hi hne => by
    rw [w2.cell _ _ (fun ⟨e1, e2⟩ => by have := adr_off ap e1; omega), w1.cell _ _ (fun ⟨e1, _⟩ => hne (adr_inj ap hi (by omega) e1))]
  have at4 : hc h2 (adr sb n E j).1 ((adr sb n E j).2 + 4) = some (ptr (adr sb n E (j + 2))) := by
    rw [w2.cell _ _ (fun ⟨e1, e2⟩ => by have := adr_off ap e1; omega)]; exact w1.at_
  have keep3 : ∀ i, 1 ≤ i → i ≤ n + 1 → i ≠ j + 2 → hc h2 (adr sb n E i).1 ((adr sb n E i).2 + 3) = hc h (adr sb n E i).1 ((adr sb n E i).2 + 3) := fun i hi hi' hne => by
    rw [w2.cell _ _ (fun ⟨e1, _⟩ => hne (adr_inj' ap hi hi' (by omega) (by omega) e1)), w1.cell _ _ (fun ⟨e1, e2⟩ => by have := adr_off ap e1; omega)]
  constructor
  · intro i hi
    rw [adr_era hj (by omega), adr_era hj (by omega)]
    by_cases h1 : i ≤ j
    · rw [if_pos h1]
      by_cases h3 : i = j
      · subst h3
        rw [if_neg (by omega)]
        exact at4
      · rw [if_pos (by omega), keep4 i (by omega) h3]
        exact r.nx i (by omega)
    · rw [if_neg h1, if_neg (by omega), keep4 (i + 1) (by omega) (by omega)]
      exact r.nx (i + 1) (by omega)
  · intro i hi
    rw [adr_era hj (by omega), adr_era hj (by omega)]
    by_cases h1 : i ≤ j
    · rw [if_pos h1]
      by_cases h3 : i = j
      · subst h3
        rw [if_neg (by omega)]
        exact w2.at_
      · rw [if_pos (by omega), keep3 (i + 1) (by omega) (by omega) (by omega)]
        exact r.pv i (by omega)
    · rw [if_neg h1, if_neg (by omega), keep3 (i + 1 + 1) (by omega) (by omega) (by omega)]
      exact r.pv (i + 1) (by omega)

theorem adr_cns (sb n : Nat) (E : Nat → Ent) (x : Ent) (i : Nat) (hi : 2 ≤ i) : adr sb (n + 1) (cns x E) i = adr sb n E (i - 1) := by
  unfold adr cns
  by_cases h1 : i ≤ n + 1
  · rw [if_pos (by omega), if_neg (by omega), if_pos (by omega)]
  · rw [if_neg (by omega), if_neg (by omega)]
theorem adr_cns1 (sb n : Nat) (E : Nat → Ent) (x : Ent) : adr sb (n + 1) (cns x E) 1 = (x.nb, 0) := by
  unfold adr cns; rw [if_pos (by omega), if_pos (by omega)]

theorem ring_push {h h1 h2 h3 h4 : Heap} {sb n : Nat} {E : Nat → Ent} {x : Ent} (r : Ring h sb n E) (ap : Apart sb n E) (hx : ∀ i, i < n → (E i).nb ≠ x.nb) (hs : x.nb ≠ sb)
    (w1 : Wr h h1 x.nb 3 (ptr (sb, 5))) (w2 : Wr h1 h2 x.nb 4 (ptr (adr sb n E 1))) (w3 : Wr h2 h3 (adr sb n E 1).1 ((adr sb n E 1).2 + 3) (ptr (x.nb, 0))) (w4 : Wr h3 h4 sb 9 (ptr (x.nb, 0))) :
    Ring h4 sb (n + 1) (cns x E) := by
  have ax : ∀ i, (adr sb n E i).1 ≠ x.nb := fun i => by
    unfold adr
    split
    · exact hx _ (by omega)
    · exact hs.symm
  have a0 := adr_zero sb n E
  have off0 : ∀ i, (adr sb n E i).1 = sb → (adr sb n E i).2 = 5 := fun i e => by
    have := adr_off ap (i := i) (k := 0) (by rw [a0]; exact e)
    rw [a0] at this; exact this
  have keep4 : ∀ i, 1 ≤ i → i ≤ n → hc h4 (adr sb n E i).1 ((adr sb n E i).2 + 4) = hc h (adr sb n E i).1 ((adr sb n E i).2 + 4) := fun i h1 hi => by
    rw [w4.cell _ _ (fun ⟨e1, _⟩ => by have := adr_inj ap hi (Nat.zero_le _) (by rw [a0]; exact e1); omega), w3.cell _ _ (fun ⟨e1, e2⟩ => by have := adr_off ap e1; omega), w2.cell _ _ (fun ⟨e1, _⟩ => ax i e1), w1.cell _ _ (fun ⟨e1, _⟩ => ax i e1)]
  have keep3 : ∀ i, 2 ≤ i → i ≤ n + 1 → hc h4 (adr sb n E i).1 ((adr sb n E i).2 + 3) = hc h (adr sb n E i).1 ((adr sb n E i).2 + 3) := fun i h1 hi => by
    rw [w4.cell _ _ (fun ⟨e1, e2⟩ => by have := off0 i e1; omega), w3.cell _ _ (fun ⟨e1, _⟩ => by have := adr_inj' ap (by omega) hi (Nat.le_refl 1) (by omega) e1; omega), w2.cell _ _ (fun ⟨e1, _⟩ => ax i e1), w1.cell _ _ (fun ⟨e1, _⟩ => ax i e1)]
  constructor
  · intro i hi
    rcases (by omega : i = 0 ∨ i = 1 ∨ 2 ≤ i) with rfl | rfl | h2'
    · rw [adr_zero, adr_cns1]
      exact w4.at_
    · rw [adr_cns1, adr_cns _ _ _ _ 2 (by omega)]
      rw [w4.cell _ _ (fun ⟨e1, _⟩ => hs e1), w3.cell _ _ (fun ⟨e1, _⟩ => ax 1 e1.symm)]
      exact w2.at_
    · rw [adr_cns _ _ _ _ i h2', adr_cns _ _ _ _ (i + 1) (by omega), keep4 (i - 1) (by omega) (by omega)]
      have := r.nx (i - 1) (by omega)
      rw [show i - 1 + 1 = i by omega] at this
      exact this
  · intro i hi
    rcases (by omega : i = 0 ∨ i = 1 ∨ 2 ≤ i) with rfl | rfl | h2'
    · rw [adr_zero, adr_cns1]
      rw [w4.cell _ _ (fun ⟨e1, _⟩ => hs e1), w3.cell _ _ (fun ⟨e1, _⟩ => ax 1 e1.symm), w2.cell _ _ (fun ⟨_, e2⟩ => by simp at e2)]
      exact w1.at_
    · rw [adr_cns _ _ _ _ 2 (by omega), adr_cns1]
      rw [w4.cell _ _ (fun ⟨e1, e2⟩ => by have := off0 _ e1; simp at e2; omega)]
      exact w3.at_
    · rw [adr_cns _ _ _ _ i h2', adr_cns _ _ _ _ (i + 1) (by omega)]
      simp only [Nat.add_sub_cancel]
      rw [keep3 i (by omega) (by omega)]
      have := r.pv (i - 1) (by omega)
      rw [show i - 1 + 1 = i by omega] at this
      exact this
end Go.Proofs.Ybulkdire
