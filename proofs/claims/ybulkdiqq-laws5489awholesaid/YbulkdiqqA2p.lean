/-
  A2p: what zzs5489asorted computes is the sorted list. Plain.
-/
import Derived.Test.YbulkdiqqA2
import Derived.Test.YbulkdiqqSrt
namespace Go.Proofs.Ybulkdiqq
set_option linter.unusedSimpArgs false
set_option linter.unusedVariables false
set_option linter.unnecessarySimpa false
open Srt

theorem cnt_prefix (K : Nat → Int) (ms : List Nat) (a : Nat) (ha : a < ms.length) : ∀ k, k ≤ ms.length →
    cnt (ahead K ms a) k = (ms.take k).countP (fun y => decide (K y < K (ms.getD a 0))) + (ms.take (min k a)).count (ms.getD a 0)
  | 0, _ => by simp [cnt]
  | k + 1, hk => by
    have ih := cnt_prefix K ms a ha k (by omega)
    have hc : cnt (ahead K ms a) (k + 1) = cnt (ahead K ms a) k + (if ahead K ms a k then 1 else 0) := rfl
    rw [hc, ih, take_snocN ms k (by omega), List.countP_append, List.countP_singleton]
    have hdis : K (ms.getD k 0) < K (ms.getD a 0) → ¬ ms.getD k 0 = ms.getD a 0 := fun h e => by rw [e] at h; omega
    by_cases hka : k < a
    · have m1 : min (k + 1) a = k + 1 := by omega
      have m2 : min k a = k := by omega
      rw [m1, m2, take_snocN ms k (by omega), List.count_append, List.count_singleton]
      unfold ahead
      by_cases c1 : K (ms.getD k 0) < K (ms.getD a 0)
      · have c2 := hdis c1
        simp only [c1, c2, hka, decide_true, decide_false, Bool.true_or, if_true, Bool.false_and, beq_iff_eq, if_false]
        omega
      · by_cases c2 : ms.getD k 0 = ms.getD a 0
        · simp only [c1, c2, hka, decide_true, decide_false, Bool.false_or, if_true, Bool.true_and, beq_self_eq_true, if_false]
          simp
          omega
        · simp only [c1, c2, hka, decide_true, decide_false, Bool.false_or, Bool.false_and, beq_iff_eq, if_false]
          simp
    · have m1 : min (k + 1) a = a := by omega
      have m2 : min k a = a := by omega
      rw [m1, m2]
      unfold ahead
      have hka' : decide (k < a) = false := decide_eq_false hka
      rw [hka', Bool.and_false, Bool.or_false]
      omega

theorem rank_eq (K : Nat → Int) (ms : List Nat) (a : Nat) (ha : a < ms.length) :
    rank K ms a = ms.countP (fun y => decide (K y < K (ms.getD a 0))) + (ms.take a).count (ms.getD a 0) := by
  have := cnt_prefix K ms a ha ms.length (Nat.le_refl _)
  rw [List.take_length, Nat.min_eq_right (by omega)] at this
  exact this

theorem countP_step {K : Nat → Int} {x y : Nat} (hlt : K x < K y) : ∀ ms : List Nat, ms.countP (fun z => decide (K z < K x)) + ms.count x ≤ ms.countP (fun z => decide (K z < K y))
  | [] => by simp
  | z :: ms => by
    have ih := countP_step hlt ms
    rw [List.countP_cons, List.countP_cons, List.count_cons]
    by_cases c1 : K z < K x
    · have c2 : K z < K y := by omega
      have c3 : ¬ z = x := fun e => by subst e; omega
      simp [c1, c2, c3]; omega
    · by_cases c3 : z = x
      · subst c3
        simp [hlt]; omega
      · simp [c1, c3]
        split <;> omega

/-- Of two elements of equal rank the values are one. -/
theorem rank_inj {K : Nat → Int} {ms : List Nat} (hinj : ∀ x ∈ ms, ∀ y ∈ ms, K x = K y → x = y) {a b : Nat} (ha : a < ms.length) (hb : b < ms.length) (h : rank K ms a = rank K ms b) : ms.getD a 0 = ms.getD b 0 := by
  have key : ∀ a b, a < ms.length → b < ms.length → K (ms.getD a 0) < K (ms.getD b 0) → rank K ms a < rank K ms b := by
    intro a b ha hb hlt
    rw [rank_eq K ms a ha, rank_eq K ms b hb]
    have h1 := count_take_lt ms a ha
    have h2 : ms.countP (fun y => decide (K y < K (ms.getD a 0))) + ms.count (ms.getD a 0) ≤ ms.countP (fun y => decide (K y < K (ms.getD b 0))) := by
      exact countP_step hlt ms
    omega
  have ma : ms.getD a 0 ∈ ms := by rw [getD_lt ms a ha]; exact List.getElem_mem ha
  have mb : ms.getD b 0 ∈ ms := by rw [getD_lt ms b hb]; exact List.getElem_mem hb
  refine hinj _ ma _ mb ?_
  rcases Int.lt_trichotomy (K (ms.getD a 0)) (K (ms.getD b 0)) with c | c | c
  · have := key a b ha hb c; omega
  · exact c
  · have := key b a hb ha c; omega

theorem cover {K : Nat → Int} {ms zs : List Nat} (hp : zs.Perm ms) (hs : Asc K zs zs.length) (hinj : ∀ x ∈ ms, ∀ y ∈ ms, K x = K y → x = y) (p : Nat) (hlt : p < zs.length) :
    ∃ a, a < ms.length ∧ rank K ms a = p ∧ ms.getD a 0 = zs.getD p 0 := by
  have hz := place_eq (asc_pairwise hs) (fun x hx y hy => hinj x (hp.subset hx) y (hp.subset hy)) p hlt
  have hc := count_take_lt zs p hlt
  rw [hp.count_eq] at hc
  obtain ⟨a, h1, h2, h3⟩ := nth_occurrence (zs.getD p 0) ms _ hc
  refine ⟨a, h1, ?_, h2⟩
  rw [rank_eq K ms a h1, h2, h3, ← hp.countP_eq]
  exact hz

theorem outTo_sorted {K : Nat → Int} {ms zs : List Nat} (hp : zs.Perm ms) (hs : Asc K zs zs.length) (hinj : ∀ x ∈ ms, ∀ y ∈ ms, K x = K y → x = y) : outTo K ms ms.length = zs := by
  have hlen := hp.length_eq
  have hval : ∀ a, a < ms.length → zs.getD (rank K ms a) 0 = ms.getD a 0 := by
    intro a ha
    have hr := rank_lt K ms a ha
    obtain ⟨b, hb, hrb, hvb⟩ := cover hp hs hinj (rank K ms a) (by omega)
    rw [← hvb]
    exact rank_inj hinj hb ha hrb
  have hinv : ∀ a0, a0 ≤ ms.length → ∀ a, a < a0 → (outTo K ms a0).getD (rank K ms a) 0 = zs.getD (rank K ms a) 0 := by
    intro a0
    induction a0 with
    | zero => intro _ a ha; omega
    | succ a0 ih =>
      intro h0 a ha
      show ((outTo K ms a0).set (rank K ms a0) (ms.getD a0 0)).getD (rank K ms a) 0 = _
      rw [getD_set _ _ _ _ (by rw [outTo_length]; exact rank_lt K ms a0 (by omega))]
      by_cases e : rank K ms a0 = rank K ms a
      · rw [if_pos e, ← e, hval a0 (by omega)]
      · rw [if_neg e]
        refine ih (by omega) a ?_
        rcases Nat.lt_or_ge a a0 with h | h
        · exact h
        · have : a = a0 := by omega
          subst this
          exact absurd rfl e
  apply List.ext_getElem
  · rw [outTo_length]; omega
  · intro p h1 h2
    obtain ⟨a, ha, hr, hv⟩ := cover hp hs hinj p h2
    have := hinv ms.length (Nat.le_refl _) a ha
    rw [hr, getD_lt _ p h1, getD_lt _ p h2] at this
    exact this
end Go.Proofs.Ybulkdiqq
