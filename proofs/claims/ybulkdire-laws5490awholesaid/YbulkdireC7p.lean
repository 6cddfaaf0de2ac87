/-
  C7p: what add and get do to the list of blocks, with no Go in sight.
-/
import Derived.Test.YbulkdireC6
namespace Go.Proofs.Ybulkdire
set_option linter.unusedSimpArgs false
set_option linter.unusedVariables false
set_option linter.unnecessarySimpa false
open Go Go.RowKit V

theorem sumL_congr {n : Nat} {E E' : Nat → Ent} (h : ∀ i, i < n → (E i).len = (E' i).len) : sumL n E = sumL n E' := by
  induction n with
  | zero => rfl
  | succ n ih => simp only [sumL]; rw [ih (fun i hi => h i (by omega)), h n (by omega)]
theorem sumL_cns (x : Ent) (E : Nat → Ent) (n : Nat) : sumL (n + 1) (cns x E) = x.len + sumL n E := by
  induction n with
  | zero => simp [sumL, cns]
  | succ n ih =>
    rw [sumL, ih]
    simp only [sumL, cns]
    rw [if_neg (by omega)]
    simp only [Nat.add_sub_cancel]
    omega
theorem sumL_era {n j : Nat} (E : Nat → Ent) (hj : j < n) : sumL (n - 1) (era j E) + (E j).len = sumL n E := by
  induction n with
  | zero => omega
  | succ n ih =>
    simp only [Nat.add_sub_cancel]
    by_cases h : j = n
    · subst h
      simp only [sumL]
      rw [sumL_congr (E' := E) (fun i hi => by unfold era; rw [if_pos hi])]
    · have := ih (by omega)
      obtain ⟨m, rfl⟩ : ∃ m, n = m + 1 := ⟨n - 1, by omega⟩
      simp only [Nat.add_sub_cancel] at this
      simp only [sumL] at this ⊢
      have e : (era j E m).len = (E (m + 1)).len := by unfold era; rw [if_neg (by omega)]
      omega
theorem sumL_mtf {n j : Nat} (E : Nat → Ent) (hj : j < n) : sumL n (mtf j E) = sumL n E := by
  obtain ⟨m, rfl⟩ : ∃ m, n = m + 1 := ⟨n - 1, by omega⟩
  unfold mtf
  rw [sumL_cns]
  have := sumL_era E hj
  simp only [Nat.add_sub_cancel] at this
  omega

theorem mtf_get (E : Nat → Ent) (j i : Nat) : mtf j E i = if i = 0 then E j else if i ≤ j then E (i - 1) else E i := by
  unfold mtf cns era
  by_cases h : i = 0
  · simp [h]
  · rw [if_neg h, if_neg h]
    by_cases h2 : i ≤ j
    · rw [if_pos (by omega), if_pos h2]
    · rw [if_neg (by omega), if_neg h2]
      congr 1; omega
theorem mapOf_mtf {L : List ((Int × Int) × Value)} {n j : Nat} {E : Nat → Ent} (m : MapOf L n E) (hj : j < n) : MapOf L n (mtf j E) := by
  refine ⟨m.1, fun i hi => ?_, fun k hk => m.2.2 k fun i hi => ?_⟩
  · rw [mtf_get]
    split
    · exact m.2.1 j hj
    · split
      · exact m.2.1 _ (by omega)
      · exact m.2.1 _ hi
  · by_cases h : i = j
    · have := hk 0 (by omega)
      rw [mtf_get, if_pos rfl] at this
      rw [h]; exact this
    · by_cases h2 : i < j
      · have := hk (i + 1) (by omega)
        rw [mtf_get, if_neg (by omega), if_pos (by omega)] at this
        simpa using this
      · have := hk i hi
        rw [mtf_get, if_neg (by omega), if_neg (by omega)] at this
        exact this
theorem mapOf_del {L : List ((Int × Int) × Value)} {n : Nat} {E : Nat → Ent} (m : MapOf L (n + 1) E) (hk : ∀ i k, i < n + 1 → k < n + 1 → (E i).key = (E k).key → i = k) : MapOf (delM L (E n).key) n E := by
  refine ⟨m.1.del _, fun i hi => ?_, fun k h => ?_⟩
  · rw [get_del m.1, if_neg (fun e => by have := hk n i (by omega) (by omega) e; omega)]
    exact m.2.1 i (by omega)
  · rw [get_del m.1]
    split
    · rfl
    · rename_i hne
      refine m.2.2 k fun i hi => ?_
      by_cases e : i = n
      · rw [e]; exact hne
      · exact h i (by omega)
theorem mapOf_put {L : List ((Int × Int) × Value)} {n : Nat} {E : Nat → Ent} {x : Ent} (m : MapOf L n E) (hx : ∀ i, i < n → (E i).key ≠ x.key) : MapOf (putM L x.key (ptr (x.nb, 0))) (n + 1) (cns x E) := by
  refine ⟨m.1.put _ _, fun i hi => ?_, fun k h => ?_⟩
  · unfold cns
    rw [get_put]
    split
    · rw [if_pos rfl]
    · rw [if_neg (fun e => hx _ (by omega) e.symm)]
      exact m.2.1 _ (by omega)
  · rw [get_put]
    have h0 := h 0 (by omega)
    simp only [cns, if_true] at h0
    rw [if_neg h0]
    refine m.2.2 k fun i hi => ?_
    have := h (i + 1) (by omega)
    simpa [cns] using this

/-- How many are left once there is room. -/
def evict (cap len : Nat) (E : Nat → Ent) : Nat → Nat
  | 0 => 0
  | n + 1 => if cap < sumL (n + 1) E + len then evict cap len E n else n + 1
theorem evict_le (cap len : Nat) (E : Nat → Ent) (n : Nat) : evict cap len E n ≤ n := by
  induction n with
  | zero => simp [evict]
  | succ n ih => unfold evict; split <;> omega
theorem evict_go {cap len : Nat} {E : Nat → Ent} {n : Nat} (h : cap < sumL (n + 1) E + len) : evict cap len E (n + 1) = evict cap len E n := by
  rw [evict, if_pos h]
theorem evict_stop {cap len : Nat} {E : Nat → Ent} {n : Nat} (h : sumL n E + len ≤ cap) : evict cap len E n = n := by
  cases n with
  | zero => rfl
  | succ n => rw [evict, if_neg (by omega)]
theorem evict_room {cap len : Nat} (E : Nat → Ent) (h : len ≤ cap) (n : Nat) : sumL (evict cap len E n) E + len ≤ cap := by
  induction n with
  | zero => simpa [evict, sumL] using h
  | succ n ih => unfold evict; split <;> omega

section
variable {h : Heap} {base cb sb mb : Nat} {cap lk sz : Int} {L : List ((Int × Int) × Value)} {n : Nat} {E E' : Nat → Ent}
theorem adr_congr (he : ∀ i, i < n → E i = E' i) (i : Nat) : adr sb n E i = adr sb n E' i := by
  unfold adr
  split
  · rw [he _ (by omega)]
  · rfl
theorem Cch.congr (c : Cch h base cb sb mb cap lk sz L n E) (he : ∀ i, i < n → E i = E' i) : Cch h base cb sb mb cap lk sz L n E' := by
  refine ⟨c.sh, ⟨fun i hi => he i hi ▸ c.nods.nd i hi, fun i k hi hk e => c.nods.key i k hi hk (by rw [he i hi, he k hk]; exact e)⟩, ⟨fun i hi => ?_, fun i hi => ?_⟩⟩
  · rw [← adr_congr he, ← adr_congr he]; exact c.ring.nx i hi
  · rw [← adr_congr he, ← adr_congr he]; exact c.ring.pv i hi
theorem Cch.size {h' : Heap} {sz' : Int} (c : Cch h base cb sb mb cap lk sz L n E) (w : Wr h h' sb 3 (.int .i64 sz')) : Cch h' base cb sb mb cap lk sz' L n E :=
  ⟨c.sh.size w, ⟨fun i hi => (c.nods.nd i hi).own c.sh w, c.nods.key⟩, c.ring.own (c.nods.apart c.sh).hd w (by omega)⟩
theorem Cch.updM {h' : Heap} {L' : List ((Int × Int) × Value)} (c : Cch h base cb sb mb cap lk sz L n E) (u : UpdM keyV h h' mb L') : Cch h' base cb sb mb cap lk sz L' n E :=
  ⟨c.sh.updM u, ⟨fun i hi => (c.nods.nd i hi).updM c.sh u, c.nods.key⟩, c.ring.updM c.sh u⟩
end

/-- The cache between two calls. -/
def Full (h : Heap) (base cb sb mb cap n : Nat) (E : Nat → Ent) : Prop :=
  (∃ L, Cch h base cb sb mb cap 0 (sumL n E) L n E ∧ MapOf L n E) ∧ sumL n E ≤ cap
end Go.Proofs.Ybulkdire
