/-
  B1: math/bits Add and Sub, math/big addVV and subVV.
-/
import Derived.Test.YbulkdirsProg
import Derived.Test.YbulkdirsTwin
namespace Go.Proofs.Ybulkdirs
set_option linter.unusedSimpArgs false
set_option linter.unusedVariables false
set_option linter.unnecessarySimpa false
open Go Go.RowKit V
set_option maxRecDepth 100000

theorem followsM : Yba.prog.follows .mixedOrders = true := by kernel_rfl
/-- 2^64. -/
def B : Nat := 18446744073709551616
theorem B_eq : B = 18446744073709551616 := rfl

def sub64Entry : Array Value → Sem Value := fun args => do
  let (x, y, b) ← Extern.MathBitsCarry.three "Sub64" args
  pure (Extern.MathBitsCarry.pair ((x + Extern.MathBitsCarry.m64 - y - b) % Extern.MathBitsCarry.m64) (if x < y + b then 1 else 0))

theorem run_add64N (x y c : Nat) (hc : c ≤ 1) (w : World) : (callFunc 16 #[.int .u64 x, .int .u64 y, .int .u64 c]).run Yba.prog w = .ok (.value (.tuple #[.int .u64 ((x + y + c) % B : Nat), .int .u64 ((x + y + c) / B : Nat)])) w := by
  have he : Extern.find Yba.f16 = some add64Entry := by kernel_rfl
  rw [run_callFunc_extern Yba.func16 (by kernel_rfl) (by kernel_rfl) (by kernel_rfl) he, run_add64 (x : Int) (y : Int) (c : Int) (by omega) (by omega) (by omega) (by omega)]
  simp only [Result.andThen_ok, B]
  congr 5
theorem run_sub64N (x y c : Nat) (hc : c ≤ 1) (w : World) : (callFunc 40 #[.int .u64 x, .int .u64 y, .int .u64 c]).run Yba.prog w = .ok (.value (.tuple #[.int .u64 ((x + B - y - c) % B : Nat), .int .u64 ((if x < y + c then 1 else 0 : Nat) : Int)])) w := by
  have he : Extern.find Yba.f40 = some sub64Entry := by kernel_rfl
  rw [run_callFunc_extern Yba.func40 (by kernel_rfl) (by kernel_rfl) (by kernel_rfl) he]
  have key : (sub64Entry #[.int .u64 x, .int .u64 y, .int .u64 c]).run Yba.prog w = .ok (.tuple #[.int .u64 ((x + B - y - c) % B : Nat), .int .u64 ((if x < y + c then 1 else 0 : Nat) : Int)]) w := by
    rcases (by omega : c = 0 ∨ c = 1) with rfl | rfl <;> rfl
  rw [key]; rfl


theorem bitsAdd_ok (h : Heap) (x y c : Nat) (hc : c ≤ 1) : CallsH Yba.prog 30 #[.int .u64 x, .int .u64 y, .int .u64 c] h (fun u h' => u = .tuple #[.int .u64 ((x + y + c) % B : Nat), .int .u64 ((x + y + c) / B : Nat)] ∧ h' = h) := by
  refine calls_of [(0, .int .u64 x), (1, .int .u64 y), (2, .int .u64 c)] Yba.func30 rfl Yba.ntmps30 (by simp) (.cons rfl (.cons rfl (.cons rfl .nil))) ?_
  intro w0 hw0
  repeat (first | refine c_seq ?_ | refine c_region ?_ | refine c_block ?_ | refine c_skip ?_ | refine c_exit ?_ | refine c_ret ?_ | refine n_then ?_ | refine n_block ?_ | refine x_then ?_ | refine x_block_eq ?_ | refine x_block_ne rfl ?_ | refine r_then ?_ | refine r_block ?_ | refine s_nil ?_ | refine c_true rfl ?_ | refine c_false rfl ?_ | refine s_pur (p_move rfl) rfl ?_ | refine s_pur (p_assign rfl) rfl ?_ | refine s_pur (p_nil rfl) rfl ?_ | refine s_pur (p_pick_t rfl rfl) rfl ?_ | refine s_pur (p_pick_f rfl rfl) rfl ?_ | refine s_pur (p_extern rfl (run_add64N x y c hc)) rfl ?_ | refine s_pur (p_extract rfl rfl) rfl ?_)
  exact ret2 Yba.results30 rfl rfl ⟨rfl, rfl⟩

/-- The carry into place k, and the word at it. -/
def aVcar (a b : Nat → Nat) : Nat → Nat
  | 0 => 0
  | k + 1 => (a k + b k + aVcar a b k) / B
def aVwrd (a b : Nat → Nat) (k : Nat) : Nat := (a k + b k + aVcar a b k) % B
theorem aVcar_le (a b : Nat → Nat) (ha : ∀ j, a j < B) (hb : ∀ j, b j < B) : ∀ k, aVcar a b k ≤ 1
  | 0 => by simp [aVcar]
  | k + 1 => by
    have h1 := aVcar_le a b ha hb k
    have h2 := ha k
    have h3 := hb k
    unfold aVcar
    have : a k + b k + aVcar a b k < 2 * B := by omega
    have := Nat.div_lt_of_lt_mul (show a k + b k + aVcar a b k < B * 2 by omega)
    omega

set_option maxHeartbeats 2000000 in
theorem aV_ok (h : Heap) (gz gx gy cz cx cy n : Nat) (cur : Array Value) (a b : Nat → Nat) (hz : h[gz]? = some (.cells cur 45 (0, 0))) (hsz : n ≤ cur.size) (hx : ∀ j, j < n → hc h gx (0 + j) = some (.int .u64 (a j))) (hy : ∀ j, j < n → hc h gy (0 + j) = some (.int .u64 (b j)))
    (ha : ∀ j, a j < B) (hb : ∀ j, b j < B) (hn : n ≤ 4) :
    CallsH Yba.prog 9 #[.slice (some ⟨gz, 0, none⟩) n cz, .slice (some ⟨gx, 0, none⟩) n cx, .slice (some ⟨gy, 0, none⟩) n cy] h
      (fun u h' => ∃ cur', Upd h h' gz (.cells cur' 45 (0, 0)) ∧ cur'.size = cur.size ∧ (∀ j, j < n → cur'[j]? = some (.int .u64 (aVwrd a b j))) ∧ (∀ j, n ≤ j → cur'[j]? = cur[j]?) ∧ u = .int .u64 (aVcar a b n)) := by
  refine calls_of [(0, .slice (some ⟨gz, 0, none⟩) n cz), (1, .slice (some ⟨gx, 0, none⟩) n cx), (2, .slice (some ⟨gy, 0, none⟩) n cy)] Yba.func9 rfl Yba.ntmps9 (by simp) (.cons rfl (.cons rfl (.cons rfl .nil))) ?_
  intro w0 hw0
  repeat (first | refine c_seq ?_ | refine c_region ?_ | refine c_block ?_ | refine c_skip ?_ | refine c_exit ?_ | refine c_ret ?_ | refine n_then ?_ | refine n_block ?_ | refine x_then ?_ | refine x_block_eq ?_ | refine x_block_ne rfl ?_ | refine r_then ?_ | refine r_block ?_ | refine s_nil ?_ | refine c_true rfl ?_ | refine c_false rfl ?_ | refine s_pur (p_move rfl) rfl ?_ | refine s_pur (p_assign rfl) rfl ?_ | refine s_pur (p_nil rfl) rfl ?_ | refine s_pur (p_pick_t rfl rfl) rfl ?_ | refine s_pur (p_pick_f rfl rfl) rfl ?_ | refine s_pur (p_len rfl Yba.underlying29) rfl ?_ | refine s_pur (p_idx1 rfl rfl rfl (by omega) Yba.underlying29 Yba.sizeOf45) rfl ?_ | refine s_pur (p_lssT rfl rfl (by omega)) rfl ?_ | refine s_pur (p_lssF rfl rfl (by omega)) rfl ?_ | refine s_pur (p_leqT rfl rfl (by omega)) rfl ?_ | refine s_pur (p_leqF rfl rfl (by omega)) rfl ?_ | refine s_pur (p_gtrT rfl rfl (by omega)) rfl ?_ | refine s_pur (p_gtrF rfl rfl (by omega)) rfl ?_ | refine s_pur (p_geqT rfl rfl (by omega)) rfl ?_ | refine s_pur (p_geqF rfl rfl (by omega)) rfl ?_ | refine s_pur (p_eqlT rfl rfl (by omega)) rfl ?_ | refine s_pur (p_eqlF rfl rfl (by omega)) rfl ?_ | refine s_pur (p_neqT rfl rfl (by omega)) rfl ?_ | refine s_pur (p_neqF rfl rfl (by omega)) rfl ?_ | refine s_skip rfl rfl rfl ?_ | refine s_skip' rfl rfl rfl ?_ | refine s_pur_g rfl (p_move rfl) rfl ?_ | refine s_pur_g rfl (p_assign rfl) rfl ?_ | refine s_pur_g rfl (p_nil rfl) rfl ?_ | refine s_pur_g rfl (p_pick_t rfl rfl) rfl ?_ | refine s_pur_g rfl (p_pick_f rfl rfl) rfl ?_ | refine s_pur_g rfl (p_len rfl Yba.underlying29) rfl ?_ | refine s_pur_g rfl (p_idx1 rfl rfl rfl (by omega) Yba.underlying29 Yba.sizeOf45) rfl ?_ | refine s_pur_g rfl (p_lssT rfl rfl (by omega)) rfl ?_ | refine s_pur_g rfl (p_lssF rfl rfl (by omega)) rfl ?_ | refine s_pur_g rfl (p_leqT rfl rfl (by omega)) rfl ?_ | refine s_pur_g rfl (p_leqF rfl rfl (by omega)) rfl ?_ | refine s_pur_g rfl (p_gtrT rfl rfl (by omega)) rfl ?_ | refine s_pur_g rfl (p_gtrF rfl rfl (by omega)) rfl ?_ | refine s_pur_g rfl (p_geqT rfl rfl (by omega)) rfl ?_ | refine s_pur_g rfl (p_geqF rfl rfl (by omega)) rfl ?_ | refine s_pur_g rfl (p_eqlT rfl rfl (by omega)) rfl ?_ | refine s_pur_g rfl (p_eqlF rfl rfl (by omega)) rfl ?_ | refine s_pur_g rfl (p_neqT rfl rfl (by omega)) rfl ?_ | refine s_pur_g rfl (p_neqF rfl rfl (by omega)) rfl ?_)
  refine c_loop (fun k : Nat => [(0, .slice (some ⟨gz, 0, none⟩) n cz), (1, .slice (some ⟨gx, 0, none⟩) n cx), (2, .slice (some ⟨gy, 0, none⟩) n cy), (6, .int .u64 (aVcar a b k)), (24, .int .i64 n), (25, .int .i64 k)])
    (fun k q => k ≤ n ∧ ∃ c, q[gz]? = some (.cells c 45 (0, 0)) ∧ c.size = cur.size ∧ (∀ j, j < k → c[j]? = some (.int .u64 (aVwrd a b j))) ∧ (∀ j, k ≤ j → c[j]? = cur[j]?) ∧ (∀ b, b ≠ gz → q[b]? = h[b]?) ∧ q.size = h.size) (fun k => n - k) 0
    ⟨by omega, cur, hz, rfl, fun j hj => by omega, fun _ _ => rfl, fun _ _ => rfl, rfl⟩ (by repeat (first | exact Sub.nil | refine Sub.cons rfl ?_)) ?_
  rintro k q ⟨hk, c, hc1, hc2, hc3, hc4, hoth, hsq⟩
  by_cases hlt : k < n
  · have rd : ∀ g v, hc h g (0 + k) = some v → hc q g (0 + k) = some v := by
      intro g v hv
      by_cases hg : g = gz
      · subst hg
        rw [hc_of hz, Nat.zero_add] at hv
        rw [hc_of hc1, Nat.zero_add, hc4 k (by omega)]; exact hv
      · rw [hc_congr (hoth g hg)]; exact hv
    have e1 := rd gx _ (hx k hlt)
    have e2 := rd gy _ (hy k hlt)
    have hcl := aVcar_le a b ha hb k
    have hbits := bitsAdd_ok q (a k) (b k) (aVcar a b k) hcl
    have hcs : aVcar a b (k + 1) = (a k + b k + aVcar a b k) / B := rfl
    have hws : aVwrd a b k = (a k + b k + aVcar a b k) % B := rfl
    repeat (first | refine c_seq ?_ | refine c_region ?_ | refine c_block ?_ | refine c_skip ?_ | refine c_exit ?_ | refine c_ret ?_ | refine n_then ?_ | refine n_block ?_ | refine x_then ?_ | refine x_block_eq ?_ | refine x_block_ne rfl ?_ | refine r_then ?_ | refine r_block ?_ | refine s_nil ?_ | refine c_true rfl ?_ | refine c_false rfl ?_ | refine s_pur (p_move rfl) rfl ?_ | refine s_pur (p_assign rfl) rfl ?_ | refine s_pur (p_nil rfl) rfl ?_ | refine s_pur (p_pick_t rfl rfl) rfl ?_ | refine s_pur (p_pick_f rfl rfl) rfl ?_ | refine s_pur (p_lssT rfl rfl (by omega)) rfl ?_ | refine s_pur (p_lssF rfl rfl (by omega)) rfl ?_ | refine s_pur (p_leqT rfl rfl (by omega)) rfl ?_ | refine s_pur (p_leqF rfl rfl (by omega)) rfl ?_ | refine s_pur (p_gtrT rfl rfl (by omega)) rfl ?_ | refine s_pur (p_gtrF rfl rfl (by omega)) rfl ?_ | refine s_pur (p_geqT rfl rfl (by omega)) rfl ?_ | refine s_pur (p_geqF rfl rfl (by omega)) rfl ?_ | refine s_pur (p_eqlT rfl rfl (by omega)) rfl ?_ | refine s_pur (p_eqlF rfl rfl (by omega)) rfl ?_ | refine s_pur (p_neqT rfl rfl (by omega)) rfl ?_ | refine s_pur (p_neqF rfl rfl (by omega)) rfl ?_)
    refine c_held followsM rfl ?_
    refine h_any 0 rfl (by kernel_rfl) rfl (fun _ => p_move rfl) rfl ?_
    refine h_any 1 rfl (by kernel_rfl) rfl (fun _ => p_move rfl) rfl ?_
    refine h_any 2 rfl (by kernel_rfl) rfl (fun _ => p_idx1 (j := k) rfl rfl rfl hlt Yba.underlying29 Yba.sizeOf45) rfl ?_
    refine h_any 4 rfl (by kernel_rfl) rfl (fun _ => p_move rfl) rfl ?_
    refine h_any 5 rfl (by kernel_rfl) rfl (fun _ => p_move rfl) rfl ?_
    refine h_any 6 rfl (by kernel_rfl) rfl (fun _ => p_idx1 (j := k) rfl rfl rfl hlt Yba.underlying29 Yba.sizeOf45) rfl ?_
    refine h_any 8 rfl (by kernel_rfl) rfl (fun _ => p_move rfl) rfl ?_
    refine h_take 3 rfl (by kernel_rfl) rfl (p_load rfl Yba.isAgg45 e1) rfl ?_
    refine h_take 7 rfl (by kernel_rfl) rfl (p_load rfl Yba.isAgg45 e2) rfl ?_
    refine h_call 9 rfl (by kernel_rfl) rfl Yba.call30 rfl rfl hbits ?_
    rintro _ _ ⟨rfl, rfl⟩
    refine h_any 10 rfl (by kernel_rfl) rfl (fun _ => p_move rfl) rfl ?_
    refine h_any 11 rfl (by kernel_rfl) rfl (fun _ => p_extract rfl rfl) rfl ?_
    refine h_any 12 rfl (by kernel_rfl) rfl (fun _ => p_extract rfl rfl) rfl ?_
    refine h_any 13 rfl (by kernel_rfl) rfl (fun _ => p_assign rfl) rfl ?_
    refine h_any 14 rfl (by kernel_rfl) rfl (fun _ => p_assign rfl) rfl ?_
    refine h_done (by kernel_rfl) ?_
    rw [← hcs, ← hws]
    repeat (first | refine c_seq ?_ | refine c_region ?_ | refine c_block ?_ | refine c_skip ?_ | refine c_exit ?_ | refine c_ret ?_ | refine n_then ?_ | refine n_block ?_ | refine x_then ?_ | refine x_block_eq ?_ | refine x_block_ne rfl ?_ | refine r_then ?_ | refine r_block ?_ | refine s_nil ?_ | refine c_true rfl ?_ | refine c_false rfl ?_ | refine s_pur (p_move rfl) rfl ?_ | refine s_pur (p_assign rfl) rfl ?_ | refine s_pur (p_nil rfl) rfl ?_ | refine s_pur (p_pick_t rfl rfl) rfl ?_ | refine s_pur (p_pick_f rfl rfl) rfl ?_ | refine s_pur (p_len rfl Yba.underlying29) rfl ?_ | refine s_pur (p_idx1 rfl rfl rfl (by omega) Yba.underlying29 Yba.sizeOf45) rfl ?_)
    refine s_eff0 (e_store rfl rfl rfl Yba.sizeOf45 hc1 (by omega)) ?_
    rintro _ q1 u1
    repeat (first | refine c_seq ?_ | refine c_region ?_ | refine c_block ?_ | refine c_skip ?_ | refine c_exit ?_ | refine c_ret ?_ | refine n_then ?_ | refine n_block ?_ | refine x_then ?_ | refine x_block_eq ?_ | refine x_block_ne rfl ?_ | refine r_then ?_ | refine r_block ?_ | refine s_nil ?_ | refine c_true rfl ?_ | refine c_false rfl ?_ | refine s_pur (p_move rfl) rfl ?_ | refine s_pur (p_assign rfl) rfl ?_ | refine s_pur (p_nil rfl) rfl ?_ | refine s_pur (p_pick_t rfl rfl) rfl ?_ | refine s_pur (p_pick_f rfl rfl) rfl ?_ | refine s_pur (p_add rfl rfl rfl (by omega) (by omega)) rfl ?_)
    refine c_next (k + 1) ⟨hlt, _, u1.at_, by simpa using hc2, ?_, ?_, fun b hb' => by rw [u1.other b hb']; exact hoth b hb', by have := u1.size; omega⟩ (by repeat (first | exact Sub.nil | refine Sub.cons rfl ?_)) (by omega)
    · intro j hj
      rw [Array.getElem?_setIfInBounds]
      by_cases e : j = k
      · subst e
        simp; omega
      · rw [if_neg (by omega)]; exact hc3 j (by omega)
    · intro j hj
      rw [Array.getElem?_setIfInBounds, if_neg (by omega)]
      exact hc4 j (by omega)
  · have : k = n := by omega
    subst this
    repeat (first | refine c_seq ?_ | refine c_region ?_ | refine c_block ?_ | refine c_skip ?_ | refine c_exit ?_ | refine c_ret ?_ | refine n_then ?_ | refine n_block ?_ | refine x_then ?_ | refine x_block_eq ?_ | refine x_block_ne rfl ?_ | refine r_then ?_ | refine r_block ?_ | refine s_nil ?_ | refine c_true rfl ?_ | refine c_false rfl ?_ | refine s_pur (p_move rfl) rfl ?_ | refine s_pur (p_assign rfl) rfl ?_ | refine s_pur (p_nil rfl) rfl ?_ | refine s_pur (p_pick_t rfl rfl) rfl ?_ | refine s_pur (p_pick_f rfl rfl) rfl ?_ | refine s_pur (p_lssT rfl rfl (by omega)) rfl ?_ | refine s_pur (p_lssF rfl rfl (by omega)) rfl ?_ | refine s_pur (p_leqT rfl rfl (by omega)) rfl ?_ | refine s_pur (p_leqF rfl rfl (by omega)) rfl ?_ | refine s_pur (p_gtrT rfl rfl (by omega)) rfl ?_ | refine s_pur (p_gtrF rfl rfl (by omega)) rfl ?_ | refine s_pur (p_geqT rfl rfl (by omega)) rfl ?_ | refine s_pur (p_geqF rfl rfl (by omega)) rfl ?_ | refine s_pur (p_eqlT rfl rfl (by omega)) rfl ?_ | refine s_pur (p_eqlF rfl rfl (by omega)) rfl ?_ | refine s_pur (p_neqT rfl rfl (by omega)) rfl ?_ | refine s_pur (p_neqF rfl rfl (by omega)) rfl ?_)
    exact ret1 Yba.results9 rfl ⟨c, ⟨hsq, hc1, hoth⟩, hc2, hc3, hc4, rfl⟩

theorem bitsSub_ok (h : Heap) (x y c : Nat) (hc : c ≤ 1) : CallsH Yba.prog 33 #[.int .u64 x, .int .u64 y, .int .u64 c] h (fun u h' => u = .tuple #[.int .u64 ((x + B - y - c) % B : Nat), .int .u64 (if x < y + c then 1 else 0 : Nat)] ∧ h' = h) := by
  refine calls_of [(0, .int .u64 x), (1, .int .u64 y), (2, .int .u64 c)] Yba.func33 rfl Yba.ntmps33 (by simp) (.cons rfl (.cons rfl (.cons rfl .nil))) ?_
  intro w0 hw0
  repeat (first | refine c_seq ?_ | refine c_region ?_ | refine c_block ?_ | refine c_skip ?_ | refine c_exit ?_ | refine c_ret ?_ | refine n_then ?_ | refine n_block ?_ | refine x_then ?_ | refine x_block_eq ?_ | refine x_block_ne rfl ?_ | refine r_then ?_ | refine r_block ?_ | refine s_nil ?_ | refine c_true rfl ?_ | refine c_false rfl ?_ | refine s_pur (p_move rfl) rfl ?_ | refine s_pur (p_assign rfl) rfl ?_ | refine s_pur (p_nil rfl) rfl ?_ | refine s_pur (p_pick_t rfl rfl) rfl ?_ | refine s_pur (p_pick_f rfl rfl) rfl ?_ | refine s_pur (p_extern rfl (run_sub64N x y c hc)) rfl ?_ | refine s_pur (p_extract rfl rfl) rfl ?_)
  exact ret2 Yba.results33 rfl rfl ⟨rfl, rfl⟩

/-- The carry into place k, and the word at it. -/
def sVcar (a b : Nat → Nat) : Nat → Nat
  | 0 => 0
  | k + 1 => if a k < b k + sVcar a b k then 1 else 0
def sVwrd (a b : Nat → Nat) (k : Nat) : Nat := (a k + B - b k - sVcar a b k) % B
theorem sVcar_le (a b : Nat → Nat) (ha : ∀ j, a j < B) (hb : ∀ j, b j < B) : ∀ k, sVcar a b k ≤ 1
  | 0 => by simp [sVcar]
  | k + 1 => by
    have h1 := sVcar_le a b ha hb k
    have h2 := ha k
    have h3 := hb k
    unfold sVcar
    split <;> omega

set_option maxHeartbeats 2000000 in
theorem sV_ok (h : Heap) (gz gx gy cz cx cy n : Nat) (cur : Array Value) (a b : Nat → Nat) (hz : h[gz]? = some (.cells cur 45 (0, 0))) (hsz : n ≤ cur.size) (hx : ∀ j, j < n → hc h gx (0 + j) = some (.int .u64 (a j))) (hy : ∀ j, j < n → hc h gy (0 + j) = some (.int .u64 (b j)))
    (ha : ∀ j, a j < B) (hb : ∀ j, b j < B) (hn : n ≤ 4) :
    CallsH Yba.prog 10 #[.slice (some ⟨gz, 0, none⟩) n cz, .slice (some ⟨gx, 0, none⟩) n cx, .slice (some ⟨gy, 0, none⟩) n cy] h
      (fun u h' => ∃ cur', Upd h h' gz (.cells cur' 45 (0, 0)) ∧ cur'.size = cur.size ∧ (∀ j, j < n → cur'[j]? = some (.int .u64 (sVwrd a b j))) ∧ (∀ j, n ≤ j → cur'[j]? = cur[j]?) ∧ u = .int .u64 (sVcar a b n)) := by
  refine calls_of [(0, .slice (some ⟨gz, 0, none⟩) n cz), (1, .slice (some ⟨gx, 0, none⟩) n cx), (2, .slice (some ⟨gy, 0, none⟩) n cy)] Yba.func10 rfl Yba.ntmps10 (by simp) (.cons rfl (.cons rfl (.cons rfl .nil))) ?_
  intro w0 hw0
  repeat (first | refine c_seq ?_ | refine c_region ?_ | refine c_block ?_ | refine c_skip ?_ | refine c_exit ?_ | refine c_ret ?_ | refine n_then ?_ | refine n_block ?_ | refine x_then ?_ | refine x_block_eq ?_ | refine x_block_ne rfl ?_ | refine r_then ?_ | refine r_block ?_ | refine s_nil ?_ | refine c_true rfl ?_ | refine c_false rfl ?_ | refine s_pur (p_move rfl) rfl ?_ | refine s_pur (p_assign rfl) rfl ?_ | refine s_pur (p_nil rfl) rfl ?_ | refine s_pur (p_pick_t rfl rfl) rfl ?_ | refine s_pur (p_pick_f rfl rfl) rfl ?_ | refine s_pur (p_len rfl Yba.underlying29) rfl ?_ | refine s_pur (p_idx1 rfl rfl rfl (by omega) Yba.underlying29 Yba.sizeOf45) rfl ?_ | refine s_pur (p_lssT rfl rfl (by omega)) rfl ?_ | refine s_pur (p_lssF rfl rfl (by omega)) rfl ?_ | refine s_pur (p_leqT rfl rfl (by omega)) rfl ?_ | refine s_pur (p_leqF rfl rfl (by omega)) rfl ?_ | refine s_pur (p_gtrT rfl rfl (by omega)) rfl ?_ | refine s_pur (p_gtrF rfl rfl (by omega)) rfl ?_ | refine s_pur (p_geqT rfl rfl (by omega)) rfl ?_ | refine s_pur (p_geqF rfl rfl (by omega)) rfl ?_ | refine s_pur (p_eqlT rfl rfl (by omega)) rfl ?_ | refine s_pur (p_eqlF rfl rfl (by omega)) rfl ?_ | refine s_pur (p_neqT rfl rfl (by omega)) rfl ?_ | refine s_pur (p_neqF rfl rfl (by omega)) rfl ?_ | refine s_skip rfl rfl rfl ?_ | refine s_skip' rfl rfl rfl ?_ | refine s_pur_g rfl (p_move rfl) rfl ?_ | refine s_pur_g rfl (p_assign rfl) rfl ?_ | refine s_pur_g rfl (p_nil rfl) rfl ?_ | refine s_pur_g rfl (p_pick_t rfl rfl) rfl ?_ | refine s_pur_g rfl (p_pick_f rfl rfl) rfl ?_ | refine s_pur_g rfl (p_len rfl Yba.underlying29) rfl ?_ | refine s_pur_g rfl (p_idx1 rfl rfl rfl (by omega) Yba.underlying29 Yba.sizeOf45) rfl ?_ | refine s_pur_g rfl (p_lssT rfl rfl (by omega)) rfl ?_ | refine s_pur_g rfl (p_lssF rfl rfl (by omega)) rfl ?_ | refine s_pur_g rfl (p_leqT rfl rfl (by omega)) rfl ?_ | refine s_pur_g rfl (p_leqF rfl rfl (by omega)) rfl ?_ | refine s_pur_g rfl (p_gtrT rfl rfl (by omega)) rfl ?_ | refine s_pur_g rfl (p_gtrF rfl rfl (by omega)) rfl ?_ | refine s_pur_g rfl (p_geqT rfl rfl (by omega)) rfl ?_ | refine s_pur_g rfl (p_geqF rfl rfl (by omega)) rfl ?_ | refine s_pur_g rfl (p_eqlT rfl rfl (by omega)) rfl ?_ | refine s_pur_g rfl (p_eqlF rfl rfl (by omega)) rfl ?_ | refine s_pur_g rfl (p_neqT rfl rfl (by omega)) rfl ?_ | refine s_pur_g rfl (p_neqF rfl rfl (by omega)) rfl ?_)
  refine c_loop (fun k : Nat => [(0, .slice (some ⟨gz, 0, none⟩) n cz), (1, .slice (some ⟨gx, 0, none⟩) n cx), (2, .slice (some ⟨gy, 0, none⟩) n cy), (6, .int .u64 (sVcar a b k)), (24, .int .i64 n), (25, .int .i64 k)])
    (fun k q => k ≤ n ∧ ∃ c, q[gz]? = some (.cells c 45 (0, 0)) ∧ c.size = cur.size ∧ (∀ j, j < k → c[j]? = some (.int .u64 (sVwrd a b j))) ∧ (∀ j, k ≤ j → c[j]? = cur[j]?) ∧ (∀ b, b ≠ gz → q[b]? = h[b]?) ∧ q.size = h.size) (fun k => n - k) 0
    ⟨by omega, cur, hz, rfl, fun j hj => by omega, fun _ _ => rfl, fun _ _ => rfl, rfl⟩ (by repeat (first | exact Sub.nil | refine Sub.cons rfl ?_)) ?_
  rintro k q ⟨hk, c, hc1, hc2, hc3, hc4, hoth, hsq⟩
  by_cases hlt : k < n
  · have rd : ∀ g v, hc h g (0 + k) = some v → hc q g (0 + k) = some v := by
      intro g v hv
      by_cases hg : g = gz
      · subst hg
        rw [hc_of hz, Nat.zero_add] at hv
        rw [hc_of hc1, Nat.zero_add, hc4 k (by omega)]; exact hv
      · rw [hc_congr (hoth g hg)]; exact hv
    have e1 := rd gx _ (hx k hlt)
    have e2 := rd gy _ (hy k hlt)
    have hcl := sVcar_le a b ha hb k
    have hbits := bitsSub_ok q (a k) (b k) (sVcar a b k) hcl
    have hcs : sVcar a b (k + 1) = if a k < b k + sVcar a b k then 1 else 0 := rfl
    have hws : sVwrd a b k = (a k + B - b k - sVcar a b k) % B := rfl
    repeat (first | refine c_seq ?_ | refine c_region ?_ | refine c_block ?_ | refine c_skip ?_ | refine c_exit ?_ | refine c_ret ?_ | refine n_then ?_ | refine n_block ?_ | refine x_then ?_ | refine x_block_eq ?_ | refine x_block_ne rfl ?_ | refine r_then ?_ | refine r_block ?_ | refine s_nil ?_ | refine c_true rfl ?_ | refine c_false rfl ?_ | refine s_pur (p_move rfl) rfl ?_ | refine s_pur (p_assign rfl) rfl ?_ | refine s_pur (p_nil rfl) rfl ?_ | refine s_pur (p_pick_t rfl rfl) rfl ?_ | refine s_pur (p_pick_f rfl rfl) rfl ?_ | refine s_pur (p_lssT rfl rfl (by omega)) rfl ?_ | refine s_pur (p_lssF rfl rfl (by omega)) rfl ?_ | refine s_pur (p_leqT rfl rfl (by omega)) rfl ?_ | refine s_pur (p_leqF rfl rfl (by omega)) rfl ?_ | refine s_pur (p_gtrT rfl rfl (by omega)) rfl ?_ | refine s_pur (p_gtrF rfl rfl (by omega)) rfl ?_ | refine s_pur (p_geqT rfl rfl (by omega)) rfl ?_ | refine s_pur (p_geqF rfl rfl (by omega)) rfl ?_ | refine s_pur (p_eqlT rfl rfl (by omega)) rfl ?_ | refine s_pur (p_eqlF rfl rfl (by omega)) rfl ?_ | refine s_pur (p_neqT rfl rfl (by omega)) rfl ?_ | refine s_pur (p_neqF rfl rfl (by omega)) rfl ?_)
    refine c_held followsM rfl ?_
    refine h_any 0 rfl (by kernel_rfl) rfl (fun _ => p_move rfl) rfl ?_
    refine h_any 1 rfl (by kernel_rfl) rfl (fun _ => p_move rfl) rfl ?_
    refine h_any 2 rfl (by kernel_rfl) rfl (fun _ => p_idx1 (j := k) rfl rfl rfl hlt Yba.underlying29 Yba.sizeOf45) rfl ?_
    refine h_any 4 rfl (by kernel_rfl) rfl (fun _ => p_move rfl) rfl ?_
    refine h_any 5 rfl (by kernel_rfl) rfl (fun _ => p_move rfl) rfl ?_
    refine h_any 6 rfl (by kernel_rfl) rfl (fun _ => p_idx1 (j := k) rfl rfl rfl hlt Yba.underlying29 Yba.sizeOf45) rfl ?_
    refine h_any 8 rfl (by kernel_rfl) rfl (fun _ => p_move rfl) rfl ?_
    refine h_take 3 rfl (by kernel_rfl) rfl (p_load rfl Yba.isAgg45 e1) rfl ?_
    refine h_take 7 rfl (by kernel_rfl) rfl (p_load rfl Yba.isAgg45 e2) rfl ?_
    refine h_call 9 rfl (by kernel_rfl) rfl Yba.call33 rfl rfl hbits ?_
    rintro _ _ ⟨rfl, rfl⟩
    refine h_any 10 rfl (by kernel_rfl) rfl (fun _ => p_move rfl) rfl ?_
    refine h_any 11 rfl (by kernel_rfl) rfl (fun _ => p_extract rfl rfl) rfl ?_
    refine h_any 12 rfl (by kernel_rfl) rfl (fun _ => p_extract rfl rfl) rfl ?_
    refine h_any 13 rfl (by kernel_rfl) rfl (fun _ => p_assign rfl) rfl ?_
    refine h_any 14 rfl (by kernel_rfl) rfl (fun _ => p_assign rfl) rfl ?_
    refine h_done (by kernel_rfl) ?_
    rw [← hcs, ← hws]
    repeat (first | refine c_seq ?_ | refine c_region ?_ | refine c_block ?_ | refine c_skip ?_ | refine c_exit ?_ | refine c_ret ?_ | refine n_then ?_ | refine n_block ?_ | refine x_then ?_ | refine x_block_eq ?_ | refine x_block_ne rfl ?_ | refine r_then ?_ | refine r_block ?_ | refine s_nil ?_ | refine c_true rfl ?_ | refine c_false rfl ?_ | refine s_pur (p_move rfl) rfl ?_ | refine s_pur (p_assign rfl) rfl ?_ | refine s_pur (p_nil rfl) rfl ?_ | refine s_pur (p_pick_t rfl rfl) rfl ?_ | refine s_pur (p_pick_f rfl rfl) rfl ?_ | refine s_pur (p_len rfl Yba.underlying29) rfl ?_ | refine s_pur (p_idx1 rfl rfl rfl (by omega) Yba.underlying29 Yba.sizeOf45) rfl ?_)
    refine s_eff0 (e_store rfl rfl rfl Yba.sizeOf45 hc1 (by omega)) ?_
    rintro _ q1 u1
    repeat (first | refine c_seq ?_ | refine c_region ?_ | refine c_block ?_ | refine c_skip ?_ | refine c_exit ?_ | refine c_ret ?_ | refine n_then ?_ | refine n_block ?_ | refine x_then ?_ | refine x_block_eq ?_ | refine x_block_ne rfl ?_ | refine r_then ?_ | refine r_block ?_ | refine s_nil ?_ | refine c_true rfl ?_ | refine c_false rfl ?_ | refine s_pur (p_move rfl) rfl ?_ | refine s_pur (p_assign rfl) rfl ?_ | refine s_pur (p_nil rfl) rfl ?_ | refine s_pur (p_pick_t rfl rfl) rfl ?_ | refine s_pur (p_pick_f rfl rfl) rfl ?_ | refine s_pur (p_add rfl rfl rfl (by omega) (by omega)) rfl ?_)
    refine c_next (k + 1) ⟨hlt, _, u1.at_, by simpa using hc2, ?_, ?_, fun b hb' => by rw [u1.other b hb']; exact hoth b hb', by have := u1.size; omega⟩ (by repeat (first | exact Sub.nil | refine Sub.cons rfl ?_)) (by omega)
    · intro j hj
      rw [Array.getElem?_setIfInBounds]
      by_cases e : j = k
      · subst e
        simp; omega
      · rw [if_neg (by omega)]; exact hc3 j (by omega)
    · intro j hj
      rw [Array.getElem?_setIfInBounds, if_neg (by omega)]
      exact hc4 j (by omega)
  · have : k = n := by omega
    subst this
    repeat (first | refine c_seq ?_ | refine c_region ?_ | refine c_block ?_ | refine c_skip ?_ | refine c_exit ?_ | refine c_ret ?_ | refine n_then ?_ | refine n_block ?_ | refine x_then ?_ | refine x_block_eq ?_ | refine x_block_ne rfl ?_ | refine r_then ?_ | refine r_block ?_ | refine s_nil ?_ | refine c_true rfl ?_ | refine c_false rfl ?_ | refine s_pur (p_move rfl) rfl ?_ | refine s_pur (p_assign rfl) rfl ?_ | refine s_pur (p_nil rfl) rfl ?_ | refine s_pur (p_pick_t rfl rfl) rfl ?_ | refine s_pur (p_pick_f rfl rfl) rfl ?_ | refine s_pur (p_lssT rfl rfl (by omega)) rfl ?_ | refine s_pur (p_lssF rfl rfl (by omega)) rfl ?_ | refine s_pur (p_leqT rfl rfl (by omega)) rfl ?_ | refine s_pur (p_leqF rfl rfl (by omega)) rfl ?_ | refine s_pur (p_gtrT rfl rfl (by omega)) rfl ?_ | refine s_pur (p_gtrF rfl rfl (by omega)) rfl ?_ | refine s_pur (p_geqT rfl rfl (by omega)) rfl ?_ | refine s_pur (p_geqF rfl rfl (by omega)) rfl ?_ | refine s_pur (p_eqlT rfl rfl (by omega)) rfl ?_ | refine s_pur (p_eqlF rfl rfl (by omega)) rfl ?_ | refine s_pur (p_neqT rfl rfl (by omega)) rfl ?_ | refine s_pur (p_neqF rfl rfl (by omega)) rfl ?_)
    exact ret1 Yba.results10 rfl ⟨c, ⟨hsq, hc1, hoth⟩, hc2, hc3, hc4, rfl⟩
end Go.Proofs.Ybulkdirs
