/-
  D2: a delivery's cells; zzs5489ccmp; slices.SortFunc at the deliveries.
-/
import Derived.Test.YbulkdiqqD1
import Derived.Test.YbulkdiqqMap
import Derived.WalkKit
namespace Go.Proofs.Ybulkdiqq
set_option linter.unusedSimpArgs false
set_option linter.unusedVariables false
set_option linter.unnecessarySimpa false
open Go Go.RowKit V Go.Shelf
set_option maxRecDepth 100000

abbrev Dlv := Int × Int × Int
/-- A delivery's cells: at, seq, to; all else as it comes. -/
def dl (x : Dlv) : List Value := [.int .i64 x.1, .int .u64 x.2.1, .int .u64 0, .int .u64 x.2.2, .int .u8 0, .int .u64 0, .int .u8 0, .int .u8 0, .int .u8 0, .bool false, .bool false, .bool false, .int .u64 0, .int .u64 0, .int .u64 0, .int .u32 0, .bool false, .pointer none, .int .u64 0, .int .u64 0, .int .u64 0]
theorem dl_len (x : Dlv) : (dl x).length = 21 := rfl
theorem dl_one (x : Dlv) : ∀ v ∈ dl x, v.oneCell' = true := by
  intro v hv
  simp [dl] at hv
  rcases hv with rfl | rfl | rfl | rfl | rfl | rfl | rfl | rfl | rfl | rfl | rfl | rfl | rfl | rfl | rfl | rfl | rfl | rfl | rfl | rfl | rfl <;> rfl

def lt (x y : Dlv) : Bool := decide (x.1 < y.1 ∨ (x.1 = y.1 ∧ x.2.1 < y.2.1))
def cf (x y : Dlv) : Int := if x.1 < y.1 then -1 else if y.1 < x.1 then 1 else if x.2.1 < y.2.1 then -1 else if y.2.1 < x.2.1 then 1 else 0
theorem ltOf_cf (x y : Dlv) : ltOf cf x y = lt x y := by
  unfold ltOf cf lt
  by_cases h1 : x.1 < y.1
  · simp [h1]
  · by_cases h2 : y.1 < x.1
    · have : ¬ x.1 = y.1 := by omega
      simp [h1, h2, this]
    · have e : x.1 = y.1 := by omega
      by_cases h3 : x.2.1 < y.2.1
      · simp [e, h3]
      · by_cases h4 : y.2.1 < x.2.1 <;> simp [e, h3, h4]
theorem swo : Sort.SWO (ltOf cf) where
  irrefl x := by rw [ltOf_cf]; simp [lt]
  trans x y z h1 h2 := by rw [ltOf_cf] at *; simp [lt] at *; omega
  ntrans x y z h1 h2 := by rw [ltOf_cf] at *; simp [lt] at *; omega

set_option maxHeartbeats 4000000 in
theorem cmp14 (x y : Dlv) (W : World) : Calls Yba.prog 14 #[.agg (dl x).toArray, .agg (dl y).toArray] W fun e w' => e = .returned (.int .i64 (cf x y)) ∧ ∃ q os', w' = Sort.grow (W.drewN q) os' := by
  obtain ⟨a, s, t⟩ := x
  obtain ⟨b, u, v⟩ := y
  have fin : ∀ o o' : Obj, ∃ q os', (W.alloc o).alloc o' = Sort.grow (W.drewN q) os' := fun o o' => ⟨0, _, by rw [Sort.alloc_eq_grow, Sort.alloc_eq_grow, Sort.grow_grow]; rfl⟩
  unfold dl cf
  simp only
  by_cases h1 : a < b
  · go_enter Yba.func14, Yba.ntmps14
    go_wp2
    exact bodyPost_ret (results_tmp rfl _ _ _) rfl ⟨by simp [h1], fin _ _⟩
  · by_cases h2 : b < a
    · go_enter Yba.func14, Yba.ntmps14
      go_wp2
      exact bodyPost_ret (results_tmp rfl _ _ _) rfl ⟨by simp [h1, h2], fin _ _⟩
    · by_cases h3 : s < u
      · go_enter Yba.func14, Yba.ntmps14
        go_wp2
        exact bodyPost_ret (results_tmp rfl _ _ _) rfl ⟨by simp [h1, h2, h3], fin _ _⟩
      · by_cases h4 : u < s
        · go_enter Yba.func14, Yba.ntmps14
          go_wp2
          exact bodyPost_ret (results_tmp rfl _ _ _) rfl ⟨by simp [h1, h2, h3, h4], fin _ _⟩
        · go_enter Yba.func14, Yba.ntmps14
          go_wp2
          exact bodyPost_ret (results_tmp rfl _ _ _) rfl ⟨by simp [h1, h2, h3, h4], fin _ _⟩
end Go.Proofs.Ybulkdiqq
