/-
  D5p: a delivery's place in the heap: the way up from the end, and the way down from the top. No Go in sight.
-/
import Derived.Test.YbulkdiqqD4
namespace Go.Proofs.Ybulkdiqq
set_option linter.unusedSimpArgs false
set_option linter.unusedVariables false

def sift (F : Nat → Dlv) (d : Dlv) (i : Nat) : Nat → Dlv :=
  if i = 0 then upd F 0 d
  else if lt d (F ((i - 1) / 2)) = true then sift (upd F i (F ((i - 1) / 2))) d ((i - 1) / 2)
  else upd F i d
termination_by i
decreasing_by omega
theorem sift_zero (F : Nat → Dlv) (d : Dlv) : sift F d 0 = upd F 0 d := by rw [sift, if_pos rfl]
theorem sift_go {F : Nat → Dlv} {d : Dlv} {i : Nat} (h0 : i ≠ 0) (h : lt d (F ((i - 1) / 2)) = true) : sift F d i = sift (upd F i (F ((i - 1) / 2))) d ((i - 1) / 2) := by rw [sift, if_neg h0, if_pos h]
theorem sift_stop {F : Nat → Dlv} {d : Dlv} {i : Nat} (h0 : i ≠ 0) (h : lt d (F ((i - 1) / 2)) = false) : sift F d i = upd F i d := by rw [sift, if_neg h0, if_neg (by simp [h])]

/-- The way up from n. -/
def chn (n : Nat) : Nat → Nat
  | 0 => n
  | s + 1 => (chn n s - 1) / 2
theorem chn_lt {n s : Nat} (h : 0 < chn n s) : chn n (s + 1) < chn n s := by simp only [chn]; omega
theorem chn_mono {n : Nat} : ∀ {s t : Nat}, s ≤ t → chn n t ≤ chn n s
  | s, 0, h => by obtain rfl : s = 0 := by omega
                  exact Nat.le_refl _
  | s, t + 1, h => by
    by_cases e : s = t + 1
    · subst e; exact Nat.le_refl _
    · have := chn_mono (n := n) (s := s) (t := t) (by omega)
      have : chn n (t + 1) ≤ chn n t := by simp only [chn]; omega
      omega
theorem chn_strict {n : Nat} {s t : Nat} (h : s < t) (hp : 0 < chn n s) : chn n t < chn n s := by
  have := chn_lt hp
  have := chn_mono (n := n) (s := s + 1) (t := t) (by omega)
  omega
theorem chn_le (n s : Nat) : chn n s ≤ n := chn_mono (Nat.zero_le s)
theorem chn_drop {n : Nat} : ∀ s, (∀ t, t < s → 0 < chn n t) → chn n s + s ≤ n
  | 0, _ => by simp [chn]
  | s + 1, h => by
    have := chn_drop s (fun t ht => h t (by omega))
    have := chn_lt (h s (by omega))
    omega

/-- s parents moved down. -/
def stepsD (F f : Nat → Dlv) (n : Nat) : Nat → (Nat → Dlv)
  | 0 => F
  | s + 1 => upd (stepsD F f n s) (chn n s) (f (chn n (s + 1)))
theorem stepsD_far (F f : Nat → Dlv) (n : Nat) : ∀ s x, x < chn n s → (∀ t, t < s → 0 < chn n t) → stepsD F f n s x = F x ∨ s = 0
  | 0, _, _, _ => .inr rfl
  | s + 1, x, hx, h => .inl (by
    have h1 := chn_lt (h s (by omega))
    simp only [stepsD, upd]
    rw [if_neg (by omega)]
    rcases stepsD_far F f n s x (by omega) (fun t ht => h t (by omega)) with e | e
    · exact e
    · subst e; rfl)
theorem stepsD_near (F f : Nat → Dlv) (n s x : Nat) (hx : x < chn n s) (h : ∀ t, t < s → 0 < chn n t) : stepsD F f n s x = F x := by
  rcases stepsD_far F f n s x hx h with e | e
  · exact e
  · subst e; rfl

theorem sift_steps {F f : Nat → Dlv} {d : Dlv} {n S m : Nat} (hF : ∀ x, x < n → F x = f x) (hm : ∀ s, s < m → 0 < chn n s) (h0 : chn n m = 0) (hS : S ≤ m)
    (h1 : ∀ s, 1 ≤ s → s ≤ S → lt d (f (chn n s)) = true) (h2 : S < m → lt d (f (chn n (S + 1))) = false) : sift F d n = upd (stepsD F f n S) (chn n S) d := by
  have go : ∀ s, s ≤ S → sift F d n = sift (stepsD F f n s) d (chn n s) := by
    intro s
    induction s with
    | zero => intro _; rfl
    | succ s ih =>
      intro hs
      rw [ih (by omega)]
      have hp := hm s (by omega)
      have hlt := chn_lt hp
      have hn := chn_le n s
      have e : stepsD F f n s (chn n (s + 1)) = f (chn n (s + 1)) := by rw [stepsD_near F f n s _ hlt (fun t ht => hm t (by omega)), hF _ (by omega)]
      have e' : (chn n s - 1) / 2 = chn n (s + 1) := rfl
      rw [sift_go (by omega) (by rw [e', e]; exact h1 (s + 1) (by omega) hs), e', e]
      rfl
  rw [go S (Nat.le_refl _)]
  by_cases e : S = m
  · subst e
    rw [h0, sift_zero]
  · have hp := hm S (by omega)
    have hlt := chn_lt hp
    have hn := chn_le n S
    have e1 : stepsD F f n S (chn n (S + 1)) = f (chn n (S + 1)) := by rw [stepsD_near F f n S _ hlt (fun t ht => hm t (by omega)), hF _ (by omega)]
    have e' : (chn n S - 1) / 2 = chn n (S + 1) := rfl
    rw [sift_stop (by omega) (by rw [e', e1]; exact h2 (by omega))]

theorem upd_congr {F G : Nat → Dlv} {n : Nat} (v : Dlv) (h : ∀ x, x ≠ n → F x = G x) : upd F n v = upd G n v := by
  funext x
  unfold upd
  by_cases hx : x = n
  · rw [if_pos hx, if_pos hx]
  · rw [if_neg hx, if_neg hx]; exact h x hx
theorem steps_congr {F G f : Nat → Dlv} {n : Nat} (h : ∀ x, x ≠ n → F x = G x) : ∀ s, stepsD F f n (s + 1) = stepsD G f n (s + 1)
  | 0 => upd_congr _ h
  | s + 1 => by
    rw [stepsD, steps_congr h s]
    rfl
theorem final_congr {F G f : Nat → Dlv} {n : Nat} {d : Dlv} (h : ∀ x, x ≠ n → F x = G x) (S : Nat) : upd (stepsD F f n S) (chn n S) d = upd (stepsD G f n S) (chn n S) d := by
  cases S with
  | zero => exact upd_congr _ h
  | succ s => rw [steps_congr h s]

/-- What is found from the top on is where the way up ends. -/
theorem sift_eq {F G f : Nat → Dlv} {d : Dlv} {n S m : Nat} (hF : ∀ x, x < n → F x = f x) (hG : ∀ x, x ≠ n → F x = G x) (hs : ∀ i j, i < j → j < n → lt (f j) (f i) = false) (hm : ∀ s, s < m → 0 < chn n s) (h0 : chn n m = 0) (hS : S ≤ m)
    (h1 : 1 ≤ S → lt d (f (chn n S)) = true) (h2 : ∀ s, S < s → s ≤ m → lt d (f (chn n s)) = false) : sift F d n = upd (stepsD G f n S) (chn n S) d := by
  rw [← final_congr hG S]
  refine sift_steps hF hm h0 hS (fun s hs1 hs2 => ?_) (fun h => h2 (S + 1) (by omega) (by omega))
  have hS1 := h1 (by omega)
  by_cases e : s = S
  · subst e; exact hS1
  · have hp := hm s (by omega)
    have hlt := chn_strict (n := n) (s := s) (t := S) (by omega) hp
    have hsn := chn_strict (n := n) (s := 0) (t := s) (by omega) (hm 0 (by omega))
    simp only [chn] at hsn
    have := hs (chn n S) (chn n s) hlt hsn
    simp [lt] at *
    omega
end Go.Proofs.Ybulkdiqq
