/-
  Srt: the plain law of sorting by a key: insertion by exchanges, ranks, and that the sorted order is one. No Go in sight. Own work of this seat.
-/
namespace Go.Proofs.Ybulkdiqq
set_option linter.unusedSimpArgs false
set_option linter.unusedVariables false
set_option linter.unnecessarySimpa false
namespace Srt

def swp (zs : List Nat) (i j : Nat) : List Nat := (zs.set i (zs.getD j 0)).set j (zs.getD i 0)
theorem swp_length (zs : List Nat) (i j : Nat) : (swp zs i j).length = zs.length := by simp [swp]

theorem getD_lt (zs : List Nat) (i : Nat) (h : i < zs.length) : zs.getD i 0 = zs[i] := by
  rw [List.getD_eq_getElem?_getD, List.getElem?_eq_getElem h]; rfl
theorem getD_set (zs : List Nat) (i x p : Nat) (hi : i < zs.length) : (zs.set i x).getD p 0 = if i = p then x else zs.getD p 0 := by
  rw [List.getD_eq_getElem?_getD, List.getD_eq_getElem?_getD, List.getElem?_set]
  by_cases h : i = p
  · subst h; simp [hi]
  · simp [h]
theorem swp_getD (zs : List Nat) (i j p : Nat) (hi : i < zs.length) (hj : j < zs.length) :
    (swp zs i j).getD p 0 = if j = p then zs.getD i 0 else if i = p then zs.getD j 0 else zs.getD p 0 := by
  unfold swp
  rw [getD_set _ _ _ _ (by simpa using hj), getD_set _ _ _ _ hi]

theorem swp_perm (zs : List Nat) (i j : Nat) (hi : i < zs.length) (hj : j < zs.length) (hne : i ≠ j) : (swp zs i j).Perm zs := by
  rw [List.perm_iff_count]
  intro a
  have hj' : j < (zs.set i (zs.getD j 0)).length := by simpa using hj
  unfold swp
  rw [List.count_set hj', List.count_set hi]
  have e1 : (zs.set i (zs.getD j 0))[j] = zs[j] := by rw [List.getElem_set_ne hne]
  rw [e1, getD_lt zs i hi, getD_lt zs j hj]
  have c1 : zs[i] = a → 0 < zs.count a := fun e => by rw [← e]; exact List.count_pos_iff.2 (List.getElem_mem hi)
  have c2 : zs[j] = a → 0 < zs.count a := fun e => by rw [← e]; exact List.count_pos_iff.2 (List.getElem_mem hj)
  by_cases h1 : zs[i] = a <;> by_cases h2 : zs[j] = a
  · have := c1 h1; simp [h1, h2]; omega
  · have := c1 h1; simp [h1, h2]; omega
  · have := c2 h2; simp [h1, h2]
  · simp [h1, h2]

/-- Ascending by the key. -/
def Asc (K : Nat → Int) (zs : List Nat) (n : Nat) : Prop := ∀ p q, p < q → q < n → K (zs.getD p 0) ≤ K (zs.getD q 0)

/-- The element at j is being carried down; all else up to k is in order. -/
def Ins (K : Nat → Int) (zs : List Nat) (k j : Nat) : Prop := ∀ p q, p < q → q ≤ k → q ≠ j → K (zs.getD p 0) ≤ K (zs.getD q 0)

theorem ins_start {K : Nat → Int} {zs : List Nat} {k : Nat} (h : Asc K zs k) : Ins K zs k k := fun p q h1 h2 h3 => h p q h1 (by omega)
theorem ins_zero {K : Nat → Int} {zs : List Nat} {k : Nat} (h : Ins K zs k 0) : Asc K zs (k + 1) := fun p q h1 h2 => h p q h1 (by omega) (by omega)
theorem ins_stop {K : Nat → Int} {zs : List Nat} {k j : Nat} (h : Ins K zs k j) (hj : 0 < j) (hjk : j ≤ k) (hs : ¬ K (zs.getD j 0) < K (zs.getD (j - 1) 0)) : Asc K zs (k + 1) := by
  intro p q h1 h2
  by_cases e : q = j
  · subst e
    by_cases e2 : p = q - 1
    · subst e2; omega
    · have := h p (q - 1) (by omega) (by omega) (by omega); omega
  · exact h p q h1 (by omega) e
theorem ins_swap {K : Nat → Int} {zs : List Nat} {k j : Nat} (h : Ins K zs k j) (hj : 0 < j) (hjk : j ≤ k) (hk : k < zs.length) (hs : K (zs.getD j 0) < K (zs.getD (j - 1) 0)) : Ins K (swp zs j (j - 1)) k (j - 1) := by
  have g0 := fun p => swp_getD zs j (j - 1) p (by omega) (by omega)
  have g1 : (swp zs j (j - 1)).getD j 0 = zs.getD (j - 1) 0 := by rw [g0, if_neg (by omega), if_pos rfl]
  have g2 : (swp zs j (j - 1)).getD (j - 1) 0 = zs.getD j 0 := by rw [g0, if_pos rfl]
  have g3 : ∀ p, p ≠ j → p ≠ j - 1 → (swp zs j (j - 1)).getD p 0 = zs.getD p 0 := fun p e1 e2 => by rw [g0, if_neg (by omega), if_neg (by omega)]
  intro p q h1 h2 h3
  by_cases q1 : q = j
  · subst q1
    rw [g1]
    by_cases p1 : p = q - 1
    · subst p1; rw [g2]; omega
    · rw [g3 p (by omega) p1]
      exact h p (q - 1) (by omega) (by omega) (by omega)
  · rw [g3 q q1 h3]
    by_cases p1 : p = j - 1
    · subst p1
      rw [g2]
      exact h j q (by omega) h2 q1
    · by_cases p2 : p = j
      · subst p2
        rw [g1]
        exact h (p - 1) q (by omega) h2 q1
      · rw [g3 p p2 p1]
        exact h p q h1 h2 q1

/-! ### the sorted order is one -/
theorem asc_pairwise {K : Nat → Int} {zs : List Nat} (h : Asc K zs zs.length) : zs.Pairwise (fun x y => K x ≤ K y) := by
  rw [List.pairwise_iff_getElem]
  intro i j hi hj hij
  have := h i j hij hj
  rw [getD_lt zs i hi, getD_lt zs j hj] at this
  exact this
theorem sorted_unique {K : Nat → Int} : ∀ {xs ys : List Nat}, xs.Pairwise (fun x y => K x ≤ K y) → ys.Pairwise (fun x y => K x ≤ K y) → xs.Perm ys → (∀ x ∈ xs, ∀ y ∈ xs, K x = K y → x = y) → xs = ys
  | [], ys, _, _, hp, _ => by simpa using hp.symm
  | x :: xs, [], _, _, hp, _ => by simp at hp
  | x :: xs, y :: ys, hx, hy, hp, hinj => by
    have hx' := List.pairwise_cons.1 hx
    have hy' := List.pairwise_cons.1 hy
    have hxy : x = y := by
      have m1 : y ∈ x :: xs := hp.symm.subset (List.mem_cons_self ..)
      have m2 : x ∈ y :: ys := hp.subset (List.mem_cons_self ..)
      have l1 : K x ≤ K y := by
        rcases List.mem_cons.1 m1 with e | e
        · rw [e]; exact Int.le_refl _
        · exact hx'.1 y e
      have l2 : K y ≤ K x := by
        rcases List.mem_cons.1 m2 with e | e
        · rw [e]; exact Int.le_refl _
        · exact hy'.1 x e
      exact hinj x (List.mem_cons_self ..) y m1 (by omega)
    subst hxy
    rw [sorted_unique hx'.2 hy'.2 (List.Perm.cons_inv hp) (fun a ha b hb => hinj a (List.mem_cons_of_mem _ ha) b (List.mem_cons_of_mem _ hb))]

/-! ### ranks -/
theorem countP_count (K : Nat → Int) (x : Nat) : ∀ l : List Nat, (∀ y ∈ l, K y < K x ∨ y = x) → l.countP (fun y => decide (K y < K x)) + l.count x = l.length
  | [], _ => rfl
  | y :: l, h => by
    have ih := countP_count K x l fun z hz => h z (List.mem_cons_of_mem _ hz)
    rw [List.countP_cons, List.count_cons, List.length_cons]
    rcases h y (List.mem_cons_self ..) with h1 | h1
    · have : ¬ y = x := fun e => by subst e; omega
      simp [h1, this]; omega
    · subst h1; simp; omega
theorem nth_occurrence (x : Nat) : ∀ (ms : List Nat) (r : Nat), r < ms.count x → ∃ a, a < ms.length ∧ ms.getD a 0 = x ∧ (ms.take a).count x = r
  | [], r, h => by simp at h
  | y :: ms, r, h => by
    rw [List.count_cons] at h
    by_cases e : y = x
    · subst e
      cases r with
      | zero => exact ⟨0, by simp, rfl, rfl⟩
      | succ r =>
        obtain ⟨a, h1, h2, h3⟩ := nth_occurrence y ms r (by simp at h; exact h)
        exact ⟨a + 1, by simp; exact h1, by simpa using h2, by simp [h3]⟩
    · obtain ⟨a, h1, h2, h3⟩ := nth_occurrence x ms r (by simp [e] at h; exact h)
      exact ⟨a + 1, by simp; exact h1, by simpa using h2, by simp [e, h3]⟩
theorem take_snocN (xs : List Nat) (k : Nat) (hk : k < xs.length) : xs.take (k + 1) = xs.take k ++ [xs.getD k 0] := by
  rw [List.take_succ_eq_append_getElem hk, getD_lt xs k hk]
theorem count_take_lt (ms : List Nat) (a : Nat) (ha : a < ms.length) : (ms.take a).count (ms.getD a 0) < ms.count (ms.getD a 0) := by
  have h1 : (ms.take (a + 1)).count (ms.getD a 0) ≤ ms.count (ms.getD a 0) := List.Sublist.count_le _ (List.take_sublist _ _)
  rw [take_snocN ms a ha, List.count_append] at h1
  simp at h1
  simp
  omega
/-- At place p of the sorted list: how many keys are less, and how many copies stand before it. -/
theorem place_eq {K : Nat → Int} {zs : List Nat} (hs : zs.Pairwise (fun x y => K x ≤ K y)) (hinj : ∀ x ∈ zs, ∀ y ∈ zs, K x = K y → x = y) (p : Nat) (hp : p < zs.length) :
    zs.countP (fun y => decide (K y < K (zs.getD p 0))) + (zs.take p).count (zs.getD p 0) = p := by
  have hx : zs.getD p 0 = zs[p] := getD_lt zs p hp
  have hpw := List.pairwise_iff_getElem.1 hs
  rw [hx]
  have h1 := countP_count K zs[p] (zs.take p) (by
    intro y hy
    obtain ⟨i, hi, rfl⟩ := List.mem_take_iff_getElem.1 hy
    have hi' : i < p := by omega
    have := hpw i p (by omega) hp hi'
    rcases Int.lt_or_eq_of_le this with h | h
    · exact .inl h
    · exact .inr (hinj _ (List.getElem_mem _) _ (List.getElem_mem _) h))
  have h2 : (zs.drop p).countP (fun y => decide (K y < K zs[p])) = 0 := by
    rw [List.countP_eq_zero]
    intro y hy
    obtain ⟨i, hi, rfl⟩ := List.mem_drop_iff_getElem.1 hy
    simp only [decide_eq_true_eq]
    by_cases e : i = 0
    · subst e; simp
    · have := hpw p (p + i) hp (by omega) (by omega)
      omega
  have h3 : zs.countP (fun y => decide (K y < K zs[p])) = (zs.take p).countP (fun y => decide (K y < K zs[p])) + (zs.drop p).countP (fun y => decide (K y < K zs[p])) := by
    rw [← List.countP_append, List.take_append_drop]
  rw [h3, h2]
  have : (zs.take p).length = p := by simp; omega
  omega
end Srt
end Go.Proofs.Ybulkdiqq
