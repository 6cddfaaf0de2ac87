/-
  E5: link.LawS5492CWhole: the visitors laid, one by one.
-/
import Derived.Test.YbulkdisgE4
namespace Go.Proofs.Ybulkdisg
set_option linter.unusedSimpArgs false
set_option linter.unusedVariables false
set_option linter.unnecessarySimpa false
open Go Go.RowKit V
set_option maxRecDepth 100000

def nts (zs : List Nat) : List Value := zs.map fun (x : Nat) => .int .i64 (x : Int)
theorem nts_snoc (zs : List Nat) (z : Nat) : nts (zs ++ [z]) = nts zs ++ [.int .i64 (z : Int)] := by simp [nts]
theorem nts_get (zs : List Nat) (j : Nat) (hj : j < zs.length) : (nts zs)[j]? = some (.int .i64 ((zs.getD j 0 : Nat) : Int)) := by simp [nts, hj]

theorem info3 : ∃ i, Yba.prog.info? 3 = some i ∧ i.zero = some (.int .i64 0) ∧ i.size = 1 ∧ i.bytes = 8 := info_parts (by kernel_rfl)
theorem info29 : ∃ i, Yba.prog.info? 29 = some i ∧ i.zero = some (.pointer none) ∧ i.size = 1 ∧ i.bytes = 8 := info_parts (by kernel_rfl)
theorem info47 : ∃ i, Yba.prog.info? 47 = some i ∧ i.zero = some (.pointer none) ∧ i.size = 1 ∧ i.bytes = 8 := info_parts (by kernel_rfl)
theorem info53 : ∃ i, Yba.prog.info? 53 = some i ∧ i.zero = some (.agg #[.int .i64 0, .int .i64 0, .int .i64 0, .int .i64 0, .int .i64 0]) ∧ i.size = 5 ∧ i.bytes = 40 := info_parts (by kernel_rfl)

theorem app24 {l : Env} {h : Heap} {ty : TypeId} {x y : Operand} {base n b : Nat} {v : Value} {u : Int} {xs : List Value} (hx : ev l x = some v) (hy : ev l y = some (.slice (some ⟨b, 0, none⟩) 1 1))
    (hown : Owns h base 3 1 v n xs) (hb : hc h b 0 = some (.int .i64 u)) (hn : n ≤ 1099511627776) (hbase : base ≤ h.size) :
    Eff Yba.prog (.call { callee := .builtin .append, args := #[x, y], argTypes := #[24, 24] }) ty l h
      (fun v' h' => Owns h' base 3 1 v' (n + 1) (xs ++ [.int .i64 u]) ∧ Grow h h' v.ownBlock ∧ ¬ v' = .slice none 0 0 ∧ (v'.ownBlock = v.ownBlock ∨ v'.ownBlock = some h.size)) := by
  obtain ⟨i, hi, hz, hs, hby⟩ := info3
  exact e_append1 hx hy Yba.underlying24 hi hz hs hby rfl hown hb rfl (by simp only [maxLen]; omega) (by omega) hbase

/-- make([]T, 0, c). -/
theorem V.Owns.make0 {h h' : Heap} {base : Nat} {e : TypeId} {c : Nat} {cells : Array Value} (hn : New h h' (.cells cells e)) (hs : cells.size = c) (hb : base ≤ h.size) (hm : c ≤ maxLen) : Owns h' base e 1 (.slice (some ⟨h.size, 0, none⟩) 0 c) 0 [] :=
  ⟨by simp, .inr ⟨h.size, c, cells, rfl, hb, hn.at_, by omega, hm, by simpa using hs, by simp⟩⟩
theorem owns_nn {h : Heap} {base n : Nat} {e : TypeId} {u : Value} {xs : List Value} (ho : Owns h base e 1 u n xs) (hn : ¬ u = .slice none 0 0) : ∃ g c, u = .slice (some ⟨g, 0, none⟩) n c ∧ base ≤ g ∧ g < h.size := by
  rcases ho.shape with ⟨hv, hn0⟩ | ⟨g, cap, cur, hv, hb, hg, hnc, hm, hs, ht⟩
  · exact absurd hv hn
  · exact ⟨g, cap, hv, hb, lt_of_get hg⟩

theorem p_build52 {l : Env} {h : Heap} {ty : TypeId} {x : Operand} {a : Option Addr} {n k : Nat} (h0 : ev l x = some (.slice a n k)) :
    Pur Yba.prog (.build 52 #[(1, x)]) ty l h (.agg #[.nilIface, .slice a n k, .chan none]) := by
  refine ⟨fun ρ w d p af g hρ hw => ?_⟩
  simp only [execOp, Instr.build, List.map_toArray, List.map_cons, List.map_nil, hρ _ _ h0]
  simp [Yba.zeroValue52, run_underlying Yba.underlying52, Array.mapM_eq_mapM_toList, List.mapM_cons, Yba.sizeOf28, Yba.sizeOf49, Yba.sizeOf50, Yba.sizeOf51, Instr.fill, Value.cells]

/-- The networks that a visitor names. -/
def pkOf (np : Nat) (Z : Nat → Nat) (m : Nat) : List Nat := if m = 0 then [0] else (List.range (min m 4)).map fun j => Z j % np
theorem pkOf_len (np : Nat) (Z : Nat → Nat) (m : Nat) : 1 ≤ (pkOf np Z m).length ∧ (pkOf np Z m).length ≤ 4 := by
  unfold pkOf; split
  · simp
  · simp; omega
theorem pkOf_lt (np : Nat) (Z : Nat → Nat) (m : Nat) (h1 : 1 ≤ np) : ∀ x ∈ pkOf np Z m, x < np := by
  intro x hx
  unfold pkOf at hx
  split at hx
  · simp at hx; omega
  · obtain ⟨j, _, rfl⟩ := List.mem_map.1 hx
    exact Nat.mod_lt _ (by omega)
theorem getD_ltN (zs : List Nat) (i : Nat) (h : i < zs.length) : zs.getD i 0 = zs[i] := by simp [List.getD_eq_getElem?_getD, h]

/-- A row of pointers, the first k laid. -/
def PtrAt (q : Heap) (b : Nat) (e : TypeId) (nv k : Nat) (vb : Nat → Nat) : Prop := ∃ c, q[b]? = some (.cells c e (0, 0)) ∧ c.size = nv ∧ ∀ i, i < k → c[i]? = some (.pointer (some ⟨vb i, 0, none⟩))
theorem PtrAt.keep {q q' : Heap} {b : Nat} {e : TypeId} {nv k : Nat} {vb : Nat → Nat} (h : PtrAt q b e nv k vb) (he : q'[b]? = q[b]?) : PtrAt q' b e nv k vb := by
  obtain ⟨c, h1, r⟩ := h; exact ⟨c, by rw [he]; exact h1, r⟩
theorem PtrAt.set {q q' : Heap} {b : Nat} {e : TypeId} {nv k x : Nat} {vb vb' : Nat → Nat} {c : Array Value} (hs : c.size = nv) (hg : ∀ i, i < k → c[i]? = some (.pointer (some ⟨vb i, 0, none⟩))) (hu : Upd q q' b (.cells (c.setIfInBounds (0 + k) (.pointer (some ⟨x, 0, none⟩))) e (0, 0)))
    (hk : k < nv) (h1 : vb' k = x) (h2 : ∀ i, i < k → vb' i = vb i) : PtrAt q' b e nv (k + 1) vb' := by
  refine ⟨_, hu.at_, by simpa using hs, fun i hi => ?_⟩
  rw [Array.getElem?_setIfInBounds]
  by_cases hik : i = k
  · subst hik; rw [h1]; simp; omega
  · rw [if_neg (by omega), h2 i (by omega)]; exact hg i (by omega)
theorem PtrAt.hc {q : Heap} {b : Nat} {e : TypeId} {nv k : Nat} {vb : Nat → Nat} (h : PtrAt q b e nv k vb) (i : Nat) (hi : i < k) : hc q b (0 + i) = some (.pointer (some ⟨vb i, 0, none⟩)) := by
  obtain ⟨c, h1, h2, h3⟩ := h
  rw [hc_of h1, Nat.zero_add]; exact h3 i hi

/-- The rows. -/
def RowsAt (q : Heap) (b nv : Nat) (F : Nat → Nat → Int) : Prop := ∃ c, q[b]? = some (.cells c 53 (0, 0)) ∧ c.size = nv * 5 ∧ ∀ i, i < nv → ∀ t, t < 5 → c[i * 5 + t]? = some (.int .i64 (F i t))
theorem RowsAt.keep {q q' : Heap} {b nv : Nat} {F : Nat → Nat → Int} (h : RowsAt q b nv F) (he : q'[b]? = q[b]?) : RowsAt q' b nv F := by
  obtain ⟨c, h1, r⟩ := h; exact ⟨c, by rw [he]; exact h1, r⟩
theorem RowsAt.congr {q : Heap} {b nv : Nat} {F G : Nat → Nat → Int} (h : RowsAt q b nv F) (he : ∀ i, i < nv → ∀ t, t < 5 → F i t = G i t) : RowsAt q b nv G := by
  obtain ⟨c, h1, h2, h3⟩ := h; exact ⟨c, h1, h2, fun i hi t ht => by rw [← he i hi t ht]; exact h3 i hi t ht⟩
theorem RowsAt.set {q q' : Heap} {b nv k s : Nat} {z : Int} {F G : Nat → Nat → Int} {c : Array Value} (h2 : c.size = nv * 5) (h3 : ∀ i, i < nv → ∀ t, t < 5 → c[i * 5 + t]? = some (.int .i64 (F i t)))
    (hu : Upd q q' b (.cells (c.setIfInBounds (0 + k * 5 + s) (.int .i64 z)) 53 (0, 0))) (hk : k < nv) (hs : s < 5) (he : ∀ i, i < nv → ∀ t, t < 5 → G i t = if i = k ∧ t = s then z else F i t) : RowsAt q' b nv G := by
  refine ⟨_, hu.at_, by simpa using h2, fun i hi t ht => ?_⟩
  rw [Array.getElem?_setIfInBounds, he i hi t ht]
  by_cases hit : i = k ∧ t = s
  · obtain ⟨rfl, rfl⟩ := hit
    simp; omega
  · rw [if_neg (by omega), if_neg hit]; exact h3 i hi t ht

/-- A visitor, laid by the law. -/
def VisB (q : Heap) (B vb : Nat) (xb : Nat → Nat) (p : List Nat) : Prop :=
  B + 3 ≤ vb ∧ ∃ nb, B + 3 ≤ nb ∧ hc q vb 1 = some (.slice (some ⟨nb, 0, none⟩) p.length p.length) ∧ ∀ j, j < p.length → hc q nb j = some (.pointer (some ⟨xb (p.getD j 0), 0, none⟩))
theorem VisB.keep {q q' : Heap} {B vb : Nat} {xb : Nat → Nat} {p : List Nat} (h : VisB q B vb xb p) (hk : ∀ b, B + 3 ≤ b → b < q.size → q'[b]? = q[b]?) : VisB q' B vb xb p := by
  obtain ⟨h1, nb, h2, h3, h4⟩ := h
  exact ⟨h1, nb, h2, by rw [hc_congr (hk vb h1 (lt_of_hc h3))]; exact h3, fun j hj => by rw [hc_congr (hk nb h2 (lt_of_hc (h4 j hj)))]; exact h4 j hj⟩

structure BF (h hh : Heap) (np lb mb nb : Nat) (xb : Nat → Nat) (PL : Nat → Int) (PM : Nat → Bool) : Prop where
  low : Low h.size h hh
  lk : ∀ j, j < np → hc hh lb (0 + j) = some (.int .i64 (PL j))
  mm : ∀ j, j < np → hc hh mb (0 + j) = some (.bool (PM j))
  nt : ∀ j, j < np → hc hh nb (0 + j) = some (.pointer (some ⟨xb j, 0, none⟩)) ∧ hc hh (xb j) (0 + 4) = some (.int .i64 (PL j)) ∧ hc hh (xb j) (0 + 5) = some (.bool (PM j))
  hnp : np ≤ 65536
  h1 : 1 ≤ np
theorem BF.next {h hh h' : Heap} {np lb mb nb : Nat} {xb : Nat → Nat} {PL : Nat → Int} {PM : Nat → Bool} (D : BF h hh np lb mb nb xb PL PM) (hl : Low hh.size hh h') : BF h h' np lb mb nb xb PL PM :=
  ⟨D.low.then hl, fun j hj => low_hc hl (D.lk j hj), fun j hj => low_hc hl (D.mm j hj), fun j hj => ⟨low_hc hl (D.nt j hj).1, low_hc hl (D.nt j hj).2.1, low_hc hl (D.nt j hj).2.2⟩, D.hnp, D.h1⟩

/-- The visitors as they came in. -/
def VisIn (h : Heap) (va : Option Addr) (nv : Nat) (IA : Nat → Option Addr) (Mi IC : Nat → Nat) (Z : Nat → Nat → Nat) : Prop :=
  ∀ i, i < nv → ∃ b o, va = some ⟨b, o, none⟩ ∧ hc h b (o + i) = some (.slice (IA i) (Mi i) (IC i)) ∧ ∀ j, j < Mi i → ∃ ib io, IA i = some ⟨ib, io, none⟩ ∧ hc h ib (io + j) = some (.int .u8 (Z i j)) ∧ Z i j < 256

def rowOf (PL : Nat → Int) (PM : Nat → Bool) (p : List Nat) : Nat → Int := rowC (fun j => PL (p.getD j 0)) (fun j => PM (p.getD j 0)) p.length

structure LI (hh q : Heap) (nv k : Nat) (vb xb : Nat → Nat) (PL : Nat → Int) (PM : Nat → Bool) (pks : Nat → List Nat) : Prop where
  low : Low hh.size hh q
  w : PtrAt q hh.size 47 nv k vb
  f : PtrAt q (hh.size + 1) 47 nv k vb
  r : RowsAt q (hh.size + 2) nv (fun i t => if i < k then rowOf PL PM (pks i) t else 0)
  v : ∀ i, i < k → VisB q hh.size (vb i) xb (pks i)
  sz : hh.size + 3 ≤ q.size

end Go.Proofs.Ybulkdisg
