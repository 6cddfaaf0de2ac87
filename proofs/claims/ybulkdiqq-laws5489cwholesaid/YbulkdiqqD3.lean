/-
  D3: slices.SortFunc at the deliveries.
-/
import Derived.Test.YbulkdiqqD2
namespace Go.Proofs.Ybulkdiqq
set_option linter.unusedSimpArgs false
set_option linter.unusedVariables false
set_option linter.unnecessarySimpa false
open Go Go.RowKit V Go.Shelf
set_option maxRecDepth 100000

/-- New blocks only. -/
structure Kp (h h' : Heap) : Prop where
  size : h.size ≤ h'.size
  same : ∀ k, k < h.size → h'[k]? = h[k]?
theorem Kp.refl (h : Heap) : Kp h h := ⟨Nat.le_refl _, fun _ _ => rfl⟩
theorem Kp.trans {h h1 h2 : Heap} (a : Kp h h1) (b : Kp h1 h2) : Kp h h2 := ⟨Nat.le_trans a.size b.size, fun k hk => (b.same k (Nat.lt_of_lt_of_le hk a.size)).trans (a.same k hk)⟩
theorem Kp.of {h h' : Heap} {o : Obj} (n : New h h' o) : Kp h h' := ⟨by have := n.size; omega, n.other⟩
theorem Kp.get {h h' : Heap} (a : Kp h h') {b : Nat} {o : Obj} (hb : h[b]? = some o) : h'[b]? = some o := by rw [a.same b (lt_of_get hb)]; exact hb
theorem Kp.cell {h h' : Heap} (a : Kp h h') {b o : Nat} {v : Value} (hv : hc h b o = some v) : hc h' b o = some v := by rw [hc_congr (a.same b (lt_of_hc hv))]; exact hv
theorem Kp.toLow {h h' : Heap} (a : Kp h h') {B : Nat} (hb : B ≤ h.size) : Low B h h' := ⟨a.size, fun k hk => a.same k (by omega)⟩

/-- Block g holds the first n deliveries of f, and room for m. -/
def DRow (h : Heap) (g n m : Nat) (f : Nat → Dlv) : Prop :=
  ∃ c : Array Value, h[g]? = some (.cells c 80 (0, 0)) ∧ c.size = m * 21 ∧ ∀ i, i < n → ∀ t, t < 21 → c[i * 21 + t]? = (dl (f i))[t]?
theorem DRow.lt {h : Heap} {g n m : Nat} {f : Nat → Dlv} (r : DRow h g n m f) : g < h.size := by obtain ⟨c, hb, _⟩ := r; exact lt_of_get hb
theorem DRow.keep {h h' : Heap} {g n m : Nat} {f : Nat → Dlv} (r : DRow h g n m f) (e : h'[g]? = h[g]?) : DRow h' g n m f := by obtain ⟨c, hb, r⟩ := r; exact ⟨c, by rw [e]; exact hb, r⟩
theorem DRow.congr {h : Heap} {g n m : Nat} {f f' : Nat → Dlv} (r : DRow h g n m f) (he : ∀ i, i < n → f i = f' i) : DRow h g n m f' := by
  obtain ⟨c, hb, hs, hc⟩ := r; exact ⟨c, hb, hs, fun i hi t ht => by rw [← he i hi]; exact hc i hi t ht⟩
theorem DRow.cell {h : Heap} {g n m : Nat} {f : Nat → Dlv} (r : DRow h g n m f) {i : Nat} (hi : i < n) : ∀ t, t < 21 → hc h g (0 + i * 21 + t) = (dl (f i))[t]? := by
  obtain ⟨c, hb, hs, hcl⟩ := r
  intro t ht
  rw [hc_of hb, Nat.zero_add]; exact hcl i hi t ht

theorem swK_heap (w : World) (blk n : Nat) (d : Array Dlv) (os : Array Obj) (k : Nat) (hk : k < w.heap.size) :
    (sortWorldK dl 21 w blk 0 n d os).heap[k]? = if blk = k then (w.heap[k]?).map (Sort.onCells (Sort.putCells id 0 (Sort.flatK dl 21 d))) else w.heap[k]? := by
  unfold sortWorldK Sort.putRowK
  rw [Sort.heap_grow_old _ _ (by simpa [Sort.putRow, Sort.mapBlock, Sort.ahead] using hk)]
  simp [Sort.putRow, Sort.mapBlock, Sort.ahead, Array.getElem?_modify]
theorem swK_size (w : World) (blk n : Nat) (d : Array Dlv) (os : Array Obj) : w.heap.size ≤ (sortWorldK dl 21 w blk 0 n d os).heap.size := by
  unfold sortWorldK Sort.putRowK
  rw [Sort.size_grow]
  simp [Sort.putRow, Sort.mapBlock, Sort.ahead]

theorem dl_get! (x : Dlv) (t : Nat) (ht : t < 21) : (dl x)[t]? = some ((dl x)[t]!) := by
  rw [List.getElem?_eq_getElem (by rw [dl_len]; exact ht), List.getElem!_eq_getElem?_getD, List.getElem?_eq_getElem (by rw [dl_len]; exact ht)]
  rfl

set_option maxHeartbeats 4000000 in
theorem pdq_ok (h : Heap) (g n : Nat) (f : Nat → Dlv) (r : DRow h g n n f) (hn : n ≤ 65536) (lim : Nat) (hl : lim < 4611686018427387904) :
    CallsH Yba.prog 19 #[.slice (some ⟨g, 0, none⟩) n n, .int .i64 (0 : Nat), .int .i64 n, .int .i64 lim, .func (.func 14) #[] #[]] h
      (fun u h' => u = .tuple #[] ∧ ∃ f', DRow h' g n n f' ∧ (∀ i j, i < j → j < n → lt (f' j) (f' i) = false) ∧ h.size ≤ h'.size ∧ ∀ k, k < h.size → k ≠ g → h'[k]? = h[k]?) := by
  refine ⟨fun w hw => ?_⟩
  subst hw
  obtain ⟨c, hg, hs, hcl⟩ := r
  let d : Array Dlv := (Array.range n).map f
  have hd : d.size = n := by simp [d]
  have hdg : ∀ i, i < n → d[i]! = f i := fun i hi => by rw [getElem!_pos d i (by omega)]; simp [d]
  have hH : Sort.HoldsK dl 21 w g 0 d := by
    intro j hj
    rw [Sort.size_flatK, hd] at hj
    refine ⟨?_, by simp [World.frozen?, hg]⟩
    rw [cell_hc, hc_of hg, Nat.zero_add, Sort.get_flatK _ _ _ _ (by rw [hd]; exact hj), hdg _ (by omega)]
    have := hcl (j / 21) (by omega) (j % 21) (by omega)
    rw [show j / 21 * 21 + j % 21 = j by omega, dl_get! _ _ (by omega)] at this
    exact this
  have hlays : CmpLays Yba.prog 14 #[] dl 21 cf g 0 d.size w := fun _ _ _ _ x y => cmp14 x y _
  have hp := AnyQ.pdqsortCmpFunc_all (P := Yba.prog) (ρ := pdq_ren) pdqD 21 Yba.isAgg80 Yba.sizeOf80 dl cf 14 #[] swo g 0 n d w Yba.call14 hlays ⟨dl_len, dl_one, hH, lt_of_get hg⟩ (n + 1) 0 n lim d w (by omega) rfl (SWK.start hH) (Nat.zero_le _) (by omega) (by omega) hl (Or.inl rfl)
  change Calls Yba.prog 19 _ _ _ at hp
  rw [hd] at hp
  refine hp.mono ?_
  rintro e w' ⟨rfl, m, os, rfl⟩
  have hso := Sort.pdq_sorts (ltOf cf) swo d 0 n lim true true (Nat.zero_le _) (by omega) (Or.inl rfl)
  generalize Sort.pdq (ltOf cf) d 0 n lim true true = d' at *
  have hd' : d'.size = n := hso.1.1.trans hd
  have hfl : (Sort.flatK dl 21 d').size = n * 21 := by rw [Sort.size_flatK, hd']
  refine ⟨_, rfl, ⟨rfl, fun i => d'[i]!, ?_, ?_, swK_size _ _ _ _ _, fun k hk hne => ?_⟩, rfl, rfl, rfl⟩
  · refine ⟨Sort.putCells id 0 (Sort.flatK dl 21 d') c, ?_, by simp [Sort.putCells, hs], fun i hi t ht => ?_⟩
    · rw [swK_heap _ _ _ _ _ _ (lt_of_get hg), if_pos rfl, hg]; rfl
    · have hlt : i * 21 + t < c.size := by omega
      simp only [Sort.putCells, Array.getElem?_mapIdx, Array.getElem?_eq_getElem hlt, Option.map_some]
      rw [if_pos (by omega), dl_get! _ _ ht, Nat.sub_zero, Sort.get_flatK _ _ _ _ (by omega)]
      rw [show (i * 21 + t) / 21 = i by omega, show (i * 21 + t) % 21 = t by omega]
      rfl
  · intro i j hij hj
    have := hso.2 i j (Nat.zero_le _) hij hj
    rw [ltOf_cf] at this
    exact this
  · rw [swK_heap _ _ _ _ _ _ hk, if_neg (fun e => hne e.symm)]

set_option maxHeartbeats 4000000 in
theorem sort_ok (h : Heap) (g n : Nat) (f : Nat → Dlv) (r : DRow h g n n f) (hn : n ≤ 65536) :
    CallsH Yba.prog 13 #[.slice (some ⟨g, 0, none⟩) n n, .func (.func 14) #[] #[]] h
      (fun u h' => u = .tuple #[] ∧ ∃ f', DRow h' g n n f' ∧ (∀ i j, i < j → j < n → lt (f' j) (f' i) = false) ∧ h.size ≤ h'.size ∧ ∀ k, k < h.size → k ≠ g → h'[k]? = h[k]?) := by
  have hlim : Lib.bitLen n < 4611686018427387904 := Nat.lt_of_le_of_lt (Lib.bitLen_le n 62 (by omega) (by omega)) (by omega)
  have hlen : CallsH Yba.prog 20 #[.int .u64 (n : Int)] h (fun u h' => u = .int .i64 ((Lib.bitLen n : Nat) : Int) ∧ h' = h) := by
    refine ⟨fun w hw => ?_⟩
    have h1 := Any.bits_Len (SlLaysF0.n15.bits (P := Yba.prog) (ρ := pdq_ren) { pdqD with }) (n : Int) w (by omega) (by omega)
    rw [Int.toNat_natCast] at h1
    change Calls Yba.prog 20 _ _ _ at h1
    exact h1.mono fun e w' ⟨he, hw'⟩ => ⟨_, he, ⟨rfl, by rw [hw', hw]⟩, by rw [hw'], by rw [hw'], by rw [hw']⟩
  refine calls_of (N := 14) [(0, .slice (some ⟨g, 0, none⟩) n n), (1, .func (.func 14) #[] #[])] Yba.func13 rfl rfl (by simp) (by repeat (first | exact ArgsAre.nil | refine ArgsAre.cons rfl ?_)) ?_
  intro w0 _
  repeat (first | refine c_seq ?_ | refine c_region ?_ | refine c_block ?_ | refine c_skip ?_ | refine c_exit ?_ | refine c_ret ?_ | refine n_then ?_ | refine n_block ?_ | refine x_then ?_ | refine x_block_eq ?_ | refine x_block_ne rfl ?_ | refine r_then ?_ | refine r_block ?_ | refine s_nil ?_ | refine c_true rfl ?_ | refine c_false rfl ?_ | refine s_pur (p_move rfl) rfl ?_ | refine s_pur (p_assign rfl) rfl ?_ | refine s_pur (p_nil rfl) rfl ?_ | refine s_pur (p_pick_t rfl rfl) rfl ?_ | refine s_pur (p_pick_f rfl rfl) rfl ?_ | refine s_pur (p_len rfl Yba.underlying68) rfl ?_ | refine s_pur (p_idx rfl rfl rfl (by omega) Yba.underlying68 Yba.sizeOf80) rfl ?_ | refine s_pur (p_convU64 rfl Yba.underlying3 Yba.underlying113 (by omega) (by omega)) rfl ?_)
  refine s_call Yba.call20 rfl rfl hlen ?_
  rintro _ q ⟨rfl, hq⟩
  obtain rfl : h = q := hq.symm
  repeat (first | refine c_seq ?_ | refine c_region ?_ | refine c_block ?_ | refine c_skip ?_ | refine c_exit ?_ | refine c_ret ?_ | refine n_then ?_ | refine n_block ?_ | refine x_then ?_ | refine x_block_eq ?_ | refine x_block_ne rfl ?_ | refine r_then ?_ | refine r_block ?_ | refine s_nil ?_ | refine c_true rfl ?_ | refine c_false rfl ?_ | refine s_pur (p_move rfl) rfl ?_ | refine s_pur (p_assign rfl) rfl ?_ | refine s_pur (p_nil rfl) rfl ?_ | refine s_pur (p_pick_t rfl rfl) rfl ?_ | refine s_pur (p_pick_f rfl rfl) rfl ?_)
  refine s_call Yba.call19 rfl rfl (pdq_ok h g n f r hn _ hlim) ?_
  rintro _ q ⟨rfl, hq⟩
  repeat (first | refine c_seq ?_ | refine c_region ?_ | refine c_block ?_ | refine c_skip ?_ | refine c_exit ?_ | refine c_ret ?_ | refine n_then ?_ | refine n_block ?_ | refine x_then ?_ | refine x_block_eq ?_ | refine x_block_ne rfl ?_ | refine r_then ?_ | refine r_block ?_ | refine s_nil ?_ | refine c_true rfl ?_ | refine c_false rfl ?_ | refine s_pur (p_move rfl) rfl ?_ | refine s_pur (p_assign rfl) rfl ?_ | refine s_pur (p_nil rfl) rfl ?_ | refine s_pur (p_pick_t rfl rfl) rfl ?_ | refine s_pur (p_pick_f rfl rfl) rfl ?_)
  first
  | exact end0 Yba.results13 ⟨rfl, hq⟩
  | exact ret0 Yba.results13 ⟨rfl, hq⟩
end Go.Proofs.Ybulkdiqq
