/-
  A5: slices.SortFunc at settle's closure: 'SortOk' paid by the kit's contract.
-/
import Derived.Test.YbulkdiqqA4
import Derived.Test.YbulkdiqqA5s
namespace Go.Proofs.Ybulkdiqq
set_option linter.unusedSimpArgs false
set_option linter.unusedVariables false
open Go Go.RowKit V Flt Srt
set_option maxRecDepth 100000

section
variable {α : Type} [Inhabited α]
theorem sw_heap (enc : α → Value) (w : World) (blk off n : Nat) (d : Array α) (os : Array Obj) (k : Nat) (hk : k < w.heap.size) :
    (sortWorld enc w blk off n d os).heap[k]? = if blk = k then (w.heap[k]?).map (Sort.onCells (Sort.putCells enc off d)) else w.heap[k]? := by
  unfold sortWorld
  rw [Sort.heap_grow_old _ _ (by simpa [Sort.putRow, Sort.mapBlock, Sort.ahead] using hk)]
  simp [Sort.putRow, Sort.mapBlock, Sort.ahead, Array.getElem?_modify]
theorem sw_size (enc : α → Value) (w : World) (blk off n : Nat) (d : Array α) (os : Array Obj) : w.heap.size ≤ (sortWorld enc w blk off n d os).heap.size := by
  unfold sortWorld
  rw [Sort.size_grow]
  simp [Sort.putRow, Sort.mapBlock, Sort.ahead]
theorem sw_cell (enc : α → Value) (w : World) (blk off n : Nat) (d : Array α) (os : Array Obj) (b o : Nat) (hb : b < w.heap.size) (hne : blk ≠ b) :
    (sortWorld enc w blk off n d os).cell? ⟨b, o, none⟩ = w.cell? ⟨b, o, none⟩ := by
  rw [cell_hc, cell_hc]
  exact hc_congr (by rw [sw_heap _ _ _ _ _ _ _ _ hb, if_neg hne]) o
end

theorem lt_cmpI (K : Nat → Int) (nk : Nat) (x y : _root_.Fin nk) : ltOf (fun x y : _root_.Fin nk => cmpI (K x.1) (K y.1)) x y = decide (K x.1 < K y.1) := by
  unfold ltOf cmpI
  by_cases h1 : K x.1 < K y.1
  · simp [h1]
  · by_cases h2 : K y.1 < K x.1 <;> simp [h1, h2]

def toFin (nk : Nat) (h : 0 < nk) (x : Nat) : _root_.Fin nk := ⟨x % nk, Nat.mod_lt _ h⟩

set_option maxHeartbeats 1000000 in
theorem sortOk : SortOk := by
  intro h base g c bx nk kv ns K hown h1 hl hin hbox hkv hgb hgk
  have hnk : 0 < nk := by
    have := hin (ns[0]'(by omega)) (List.getElem_mem _); omega
  obtain ⟨ka, kc, rfl, kcase⟩ := hkv
  obtain ⟨kb, ko, rfl, kcell⟩ := kcase.resolve_left (by omega)
  have hgk' : g ≠ kb := fun e => hgk (by simp [Value.ownBlock, e])
  refine ⟨fun w hw => ?_⟩
  subst hw
  have inst : Inhabited (_root_.Fin nk) := ⟨toFin nk hnk 0⟩
  -- the row
  rcases hown.shape with ⟨hv, _⟩ | ⟨g', cap, cur, hv, hb, hg, hnc, hm, hs, ht⟩
  · simp at hv
  simp only [Value.slice.injEq, Option.some.injEq, Addr.mk.injEq, true_and, and_true] at hv
  obtain ⟨rfl, rfl⟩ := hv
  have hg : w.heap[g]? = some (.cells cur 3 (0, 0)) := hg
  simp only [Nat.mul_one] at ht hs
  have hds : ((ns.map (toFin nk hnk)).toArray).size = ns.length := by simp
  have hget : ∀ j, j < ns.length → (Value.int .i64 ((((ns.map (toFin nk hnk)).toArray)[j]! : _root_.Fin nk).1 : Int)) = .int .i64 ((ns.getD j 0 : Nat) : Int) := by
    intro j hj
    rw [getElem!_pos _ j (by rw [hds]; exact hj)]
    simp only [List.getElem_toArray, List.getElem_map, toFin]
    rw [getD_lt ns j hj, Nat.mod_eq_of_lt (hin _ (List.getElem_mem hj))]
  have hcur : ∀ j, j < ns.length → cur[j]? = some (.int .i64 ((ns.getD j 0 : Nat) : Int)) := by
    intro j hj
    have h2 := ints_get ns j hj
    rw [← ht, List.getElem?_take, if_pos hj] at h2
    simpa using h2
  have hcell : ∀ j, j < ns.length → w.cell? ⟨g, 0 + j, none⟩ = some (.int .i64 ((ns.getD j 0 : Nat) : Int)) := by
    intro j hj
    rw [cell_hc, hc_of hg, Nat.zero_add]
    exact hcur j hj
  have hH : Sort.Holds (fun x : _root_.Fin nk => Value.int .i64 (x.1 : Int)) w g 0 (ns.map (toFin nk hnk)).toArray := by
    intro j hj
    rw [hds] at hj
    refine ⟨?_, by simp [World.frozen?, hg]⟩
    exact (hcell j hj).trans (congrArg some (hget j hj).symm)
  have hO : Sort.SWO (ltOf fun x y : _root_.Fin nk => cmpI (K x.1) (K y.1)) := by
    constructor
    · intro x; rw [lt_cmpI]; simp
    · intro x y z h1 h2; rw [lt_cmpI] at *; simp at *; omega
    · intro x y z h1 h2; rw [lt_cmpI] at *; simp at *; omega
  have hcmp : CmpReads Yba.prog 25 #[.pointer (some ⟨bx, 0, none⟩)] (fun x : _root_.Fin nk => Value.int .i64 (x.1 : Int)) (fun x y => cmpI (K x.1) (K y.1)) g 0 (ns.map (toFin nk hnk)).toArray.size w := by
    intro m os dk hdk x y
    obtain ⟨xa, ca, ia⟩ := kcell x.1 x.2
    obtain ⟨xb, cb, ib⟩ := kcell y.1 y.2
    refine closure_w bx kb ko nk kc x.1 y.1 xa xb (K x.1) (K y.1) _ ?_ (by have := x.2; omega) (by have := y.2; omega) ?_ ?_ ia ib
    · rw [sw_cell _ _ _ _ _ _ _ _ _ (lt_of_hc hbox) hgb, cell_hc]; exact hbox
    · rw [sw_cell _ _ _ _ _ _ _ _ _ (lt_of_hc ca) hgk', cell_hc]; exact ca
    · rw [sw_cell _ _ _ _ _ _ _ _ _ (lt_of_hc cb) hgk', cell_hc]; exact cb
  have eg : ∀ args w, (callFunc 25 args).run Yba.prog w = .ok (.enter 25 args) w := Yba.call25
  have hcon := Any.slices_SortFunc sortInt (fun x : _root_.Fin nk => Value.int .i64 (x.1 : Int)) (fun _ => rfl) (fun x y => cmpI (K x.1) (K y.1)) hO 25 #[.pointer (some ⟨bx, 0, none⟩)] g 0 c (ns.map (toFin nk hnk)).toArray w eg hcmp.lays hH (lt_of_get hg) (by rw [hds]; omega)
  rw [hds] at hcon
  change Calls Yba.prog 24 _ _ _ at hcon
  refine hcon.mono ?_
  rintro e w' ⟨rfl, d', n, os, hperm, hsort, rfl⟩
  obtain ⟨hd1, _, hd2⟩ := hperm
  rw [hds] at hd1
  have hx1 : d'.extract 0 ns.length = d' := by rw [← hd1]; exact Array.extract_size
  have hx2 : ((ns.map (toFin nk hnk)).toArray).extract 0 ns.length = (ns.map (toFin nk hnk)).toArray := by rw [← hds]; exact Array.extract_size
  rw [hx1, hx2] at hd2
  refine ⟨_, rfl, ⟨d'.toList.map (·.1), ?_, ?_, ?_, ?_⟩, rfl, rfl, rfl⟩
  · have h3 := hd2.map (fun x : _root_.Fin nk => x.1)
    simp only [List.map_map] at h3
    have h4 : ns.map ((fun x : _root_.Fin nk => x.1) ∘ toFin nk hnk) = ns := by
      conv => rhs; rw [← List.map_id ns]
      apply List.map_congr_left
      intro x hx
      exact Nat.mod_eq_of_lt (hin x hx)
    rw [h4] at h3
    exact h3
  · intro p q hpq hq
    have hq' : q < d'.size := by simpa using hq
    have h3 := hsort p q (by omega) hpq (by omega)
    rw [lt_cmpI, getElem!_pos d' q hq', getElem!_pos d' p (by omega)] at h3
    have e1 : (d'.toList.map (fun x : _root_.Fin nk => x.1)).getD p 0 = d'[p].1 := by
      rw [getD_lt _ p (by simp; omega)]; simp
    have e2 : (d'.toList.map (fun x : _root_.Fin nk => x.1)).getD q 0 = d'[q].1 := by
      rw [getD_lt _ q (by simp; omega)]; simp
    rw [e1, e2]
    have := of_decide_eq_false h3
    omega
  · have hgl := lt_of_get hg
    refine ⟨?_, .inr ⟨g, c, Sort.putCells (fun x : _root_.Fin nk => Value.int .i64 (x.1 : Int)) 0 d' cur, rfl, hb, ?_, hnc, hm, ?_, ?_⟩⟩
    · simp [ints, nats, hd1]
    · show (sortWorld _ w g 0 n d' os).heap[g]? = _
      rw [sw_heap _ _ _ _ _ _ _ _ hgl, if_pos rfl, hg]
      rfl
    · simp [Sort.putCells, hs]
    · rw [Nat.mul_one]
      apply List.ext_getElem?
      intro j
      by_cases hj : j < ns.length
      · rw [List.getElem?_take, if_pos hj, Array.getElem?_toList]
        simp only [Sort.putCells, Array.getElem?_mapIdx, hcur j hj, Option.map_some]
        rw [if_pos ⟨by omega, by omega⟩, ints_get _ j (by simp; omega), Nat.sub_zero, getElem!_pos d' j (by omega)]
        congr 3
        rw [getD_lt _ j (by simp; omega)]
        simp
      · rw [List.getElem?_take, if_neg hj, List.getElem?_eq_none]
        simp [ints, nats]; omega
  · refine ⟨sw_size _ _ _ _ _ _ _, fun k hk hne => ?_⟩
    rw [sw_heap _ _ _ _ _ _ _ _ hk, if_neg (fun e => hne (by rw [e]))]
end Go.Proofs.Ybulkdiqq
