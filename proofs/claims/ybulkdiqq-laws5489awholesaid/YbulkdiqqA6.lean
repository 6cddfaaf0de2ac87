/-
  A6: slices.Clone at this program; crossings.order.
-/
import Derived.Test.YbulkdiqqA5
namespace Go.Proofs.Ybulkdiqq
set_option linter.unusedSimpArgs false
set_option linter.unusedVariables false
open Go Go.RowKit V Flt Srt
set_option maxRecDepth 100000

theorem info28 : ∃ i, Yba.prog.info? 28 = some i ∧ i.zero = some (.float .f64 0) ∧ i.size = 1 ∧ i.bytes = 8 := info_parts (by kernel_rfl)

theorem cloneI_ok (h : Heap) (b n c : Nat) (xs : List Value) (hl : xs.length = n) (hcell : ∀ j, j < n → hc h b j = xs[j]?) (h1 : ∀ u ∈ xs, u.oneCell' = true) (hn : n ≤ 1000) :
    CallsH Yba.prog 9 #[.slice (some ⟨b, 0, none⟩) n c] h (fun u h' => Owns h' h.size 3 1 u n xs ∧ Low h.size h h' ∧ ¬ u = .slice none 0 0) := by
  refine calls_of [(0, .slice (some ⟨b, 0, none⟩) n c)] Yba.func9 rfl Yba.ntmps9 (by simp) (.cons rfl .nil) ?_
  intro w0 hw0
  obtain ⟨i, hi, hz, hs, hby⟩ := info3
  repeat (first | refine c_seq ?_ | refine c_region ?_ | refine c_block ?_ | refine c_skip ?_ | refine c_exit ?_ | refine c_ret ?_ | refine n_then ?_ | refine n_block ?_ | refine x_then ?_ | refine x_block_eq ?_ | refine x_block_ne rfl ?_ | refine r_then ?_ | refine r_block ?_ | refine s_nil ?_ | refine c_true rfl ?_ | refine c_false rfl ?_ | refine s_pur (p_move rfl) rfl ?_ | refine s_pur (p_assign rfl) rfl ?_ | refine s_pur (p_nil rfl) rfl ?_ | refine s_pur (p_pick_t rfl rfl) rfl ?_ | refine s_pur (p_pick_f rfl rfl) rfl ?_ | refine s_pur (p_slnil rfl rfl Yba.underlying23) rfl ?_)
  refine s_eff (e_slice0 Yba.underlying23 Yba.sizeOf3) rfl ?_
  rintro _ h1' ⟨rfl, hn1⟩
  repeat (first | refine c_seq ?_ | refine c_region ?_ | refine c_block ?_ | refine c_skip ?_ | refine c_exit ?_ | refine c_ret ?_ | refine n_then ?_ | refine n_block ?_ | refine x_then ?_ | refine x_block_eq ?_ | refine x_block_ne rfl ?_ | refine r_then ?_ | refine r_block ?_ | refine s_nil ?_ | refine c_true rfl ?_ | refine c_false rfl ?_ | refine s_pur (p_move rfl) rfl ?_ | refine s_pur (p_assign rfl) rfl ?_ | refine s_pur (p_nil rfl) rfl ?_ | refine s_pur (p_pick_t rfl rfl) rfl ?_ | refine s_pur (p_pick_f rfl rfl) rfl ?_)
  refine s_eff (e_append rfl rfl Yba.underlying23 hi hz hs hby rfl (by omega) (Owns.empty hn1 (Nat.le_refl _)) (news := xs) (by omega) ?_ h1 (by simp only [maxLen]; omega) (by omega) (by have := hn1.size; omega)) rfl ?_
  · intro j u hj
    have hjn : j < n := by rw [← hl]; exact (List.getElem?_eq_some_iff.1 hj).1
    rw [add_none, cell_hc, Nat.zero_add]
    have := hcell j hjn
    rw [hj] at this
    show hc h1' b j = some u
    rw [hc_congr (hn1.other b (lt_of_hc this))]; exact this
  · rintro v' h2 ⟨ho, hg, hnn, _⟩
    repeat (first | refine c_seq ?_ | refine c_region ?_ | refine c_block ?_ | refine c_skip ?_ | refine c_exit ?_ | refine c_ret ?_ | refine n_then ?_ | refine n_block ?_ | refine x_then ?_ | refine x_block_eq ?_ | refine x_block_ne rfl ?_ | refine r_then ?_ | refine r_block ?_ | refine s_nil ?_ | refine c_true rfl ?_ | refine c_false rfl ?_ | refine s_pur (p_move rfl) rfl ?_ | refine s_pur (p_assign rfl) rfl ?_ | refine s_pur (p_nil rfl) rfl ?_ | refine s_pur (p_pick_t rfl rfl) rfl ?_ | refine s_pur (p_pick_f rfl rfl) rfl ?_)
    refine ret1 Yba.results9 rfl ⟨by simpa using ho, ((Low.refl _ _).new hn1 (Nat.le_refl _)).grow hg (by have := hn1.size; omega) (fun k hk => ?_), fun e => by have := (hnn.1 e).1; simp at this⟩
    simp [Value.ownBlock] at hk
    omega

theorem cloneF_ok (h : Heap) (b n c : Nat) (xs : List Value) (hl : xs.length = n) (hcell : ∀ j, j < n → hc h b j = xs[j]?) (h1 : ∀ u ∈ xs, u.oneCell' = true) (hn : n ≤ 1000) :
    CallsH Yba.prog 10 #[.slice (some ⟨b, 0, none⟩) n c] h (fun u h' => Owns h' h.size 28 1 u n xs ∧ Low h.size h h' ∧ ¬ u = .slice none 0 0) := by
  refine calls_of [(0, .slice (some ⟨b, 0, none⟩) n c)] Yba.func10 rfl Yba.ntmps10 (by simp) (.cons rfl .nil) ?_
  intro w0 hw0
  obtain ⟨i, hi, hz, hs, hby⟩ := info28
  repeat (first | refine c_seq ?_ | refine c_region ?_ | refine c_block ?_ | refine c_skip ?_ | refine c_exit ?_ | refine c_ret ?_ | refine n_then ?_ | refine n_block ?_ | refine x_then ?_ | refine x_block_eq ?_ | refine x_block_ne rfl ?_ | refine r_then ?_ | refine r_block ?_ | refine s_nil ?_ | refine c_true rfl ?_ | refine c_false rfl ?_ | refine s_pur (p_move rfl) rfl ?_ | refine s_pur (p_assign rfl) rfl ?_ | refine s_pur (p_nil rfl) rfl ?_ | refine s_pur (p_pick_t rfl rfl) rfl ?_ | refine s_pur (p_pick_f rfl rfl) rfl ?_ | refine s_pur (p_slnil rfl rfl Yba.underlying34) rfl ?_)
  refine s_eff (e_slice0 Yba.underlying34 Yba.sizeOf28) rfl ?_
  rintro _ h1' ⟨rfl, hn1⟩
  repeat (first | refine c_seq ?_ | refine c_region ?_ | refine c_block ?_ | refine c_skip ?_ | refine c_exit ?_ | refine c_ret ?_ | refine n_then ?_ | refine n_block ?_ | refine x_then ?_ | refine x_block_eq ?_ | refine x_block_ne rfl ?_ | refine r_then ?_ | refine r_block ?_ | refine s_nil ?_ | refine c_true rfl ?_ | refine c_false rfl ?_ | refine s_pur (p_move rfl) rfl ?_ | refine s_pur (p_assign rfl) rfl ?_ | refine s_pur (p_nil rfl) rfl ?_ | refine s_pur (p_pick_t rfl rfl) rfl ?_ | refine s_pur (p_pick_f rfl rfl) rfl ?_)
  refine s_eff (e_append rfl rfl Yba.underlying34 hi hz hs hby rfl (by omega) (Owns.empty hn1 (Nat.le_refl _)) (news := xs) (by omega) ?_ h1 (by simp only [maxLen]; omega) (by omega) (by have := hn1.size; omega)) rfl ?_
  · intro j u hj
    have hjn : j < n := by rw [← hl]; exact (List.getElem?_eq_some_iff.1 hj).1
    rw [add_none, cell_hc, Nat.zero_add]
    have := hcell j hjn
    rw [hj] at this
    show hc h1' b j = some u
    rw [hc_congr (hn1.other b (lt_of_hc this))]; exact this
  · rintro v' h2 ⟨ho, hg, hnn, _⟩
    repeat (first | refine c_seq ?_ | refine c_region ?_ | refine c_block ?_ | refine c_skip ?_ | refine c_exit ?_ | refine c_ret ?_ | refine n_then ?_ | refine n_block ?_ | refine x_then ?_ | refine x_block_eq ?_ | refine x_block_ne rfl ?_ | refine r_then ?_ | refine r_block ?_ | refine s_nil ?_ | refine c_true rfl ?_ | refine c_false rfl ?_ | refine s_pur (p_move rfl) rfl ?_ | refine s_pur (p_assign rfl) rfl ?_ | refine s_pur (p_nil rfl) rfl ?_ | refine s_pur (p_pick_t rfl rfl) rfl ?_ | refine s_pur (p_pick_f rfl rfl) rfl ?_)
    refine ret1 Yba.results10 rfl ⟨by simpa using ho, ((Low.refl _ _).new hn1 (Nat.le_refl _)).grow hg (by have := hn1.size; omega) (fun k hk => ?_), fun e => by have := (hnn.1 e).1; simp at this⟩
    simp [Value.ownBlock] at hk
    omega

/-! ### order -/
def indOf (pr : Nat → Bool) (n : Nat) : List Nat := (List.range n).filter pr
theorem indOf_succ (pr : Nat → Bool) (k : Nat) : indOf pr (k + 1) = indOf pr k ++ (if pr k then [k] else []) := by
  unfold indOf
  rw [List.range_succ, List.filter_append]
  by_cases h : pr k <;> simp [h]
theorem indOf_length_le (pr : Nat → Bool) (k : Nat) : (indOf pr k).length ≤ k := by
  unfold indOf
  have := List.length_filter_le pr (List.range k)
  simpa using this
theorem indOf_lt (pr : Nat → Bool) (n : Nat) : ∀ x ∈ indOf pr n, x < n := by
  intro x hx
  unfold indOf at hx
  have := (List.mem_filter.1 hx).1
  simpa using this

def sameTo (pr : Nat → Bool) (b0 : List Nat) (p : Int) (k : Nat) : Bool := decide ((b0.length : Int) = p) && (b0.take k).all pr
theorem sameTo_succ (pr : Nat → Bool) (b0 : List Nat) (p : Int) (k : Nat) (hk : k < b0.length) : sameTo pr b0 p (k + 1) = (sameTo pr b0 p k && pr (b0.getD k 0)) := by
  unfold sameTo
  rw [take_snocN b0 k hk, List.all_append]
  simp [Bool.and_assoc]

/-- c's block. -/
def cArr (c0 c1 c2 xv yv bx by_ c7 c8 c9 c10 c11 c12 : Value) : Array Value := #[c0, c1, c2, xv, yv, bx, by_, c7, c8, c9, c10, c11, c12]
theorem cArr_size (c0 c1 c2 xv yv bx by_ c7 c8 c9 c10 c11 c12 : Value) : (cArr c0 c1 c2 xv yv bx by_ c7 c8 c9 c10 c11 c12).size = 13 := rfl

/-- The two sorts at the end of order. -/
structure Tail (h hh : Heap) (base bc n : Nat) (KX KY : Nat → Int) (c0 c1 c2 xv yv c7 c8 c9 c10 c11 c12 : Value) (gx gy : Nat) (mx my : List Nat) (u v : Value) : Prop where
  cblk : hh[bc]? = some (.cells (cArr c0 c1 c2 xv yv u v c7 c8 c9 c10 c11 c12) 45 (0, 0))
  ownx : Owns hh base 3 1 u mx.length (ints (nats mx))
  owny : Owns hh base 3 1 v my.length (ints (nats my))
  size : h.size ≤ hh.size
  other : ∀ k, k < h.size → k ≠ bc → k ≠ gx → k ≠ gy → hh[k]? = h[k]?
  ux : ∀ k, u.ownBlock = some k → k = gx ∨ h.size ≤ k
  vy : ∀ k, v.ownBlock = some k → k = gy ∨ h.size ≤ k
  uv : ∀ k, u.ownBlock = some k → v.ownBlock ≠ some k

theorem SlF.keep {h h' : Heap} {v : Value} {n : Nat} {K : Nat → Int} (hs : SlF h v n K) (hk : ∀ k, v.ownBlock = some k → k < h.size → h'[k]? = h[k]?) : SlF h' v n K := by
  obtain ⟨a, c, rfl, hcase⟩ := hs
  refine ⟨a, c, rfl, hcase.imp id ?_⟩
  rintro ⟨b, o, rfl, hcell⟩
  refine ⟨b, o, rfl, fun j hj => ?_⟩
  obtain ⟨x, h1, h2⟩ := hcell j hj
  exact ⟨x, by rw [hc_congr (hk b rfl (lt_of_hc h1))]; exact h1, h2⟩

set_option maxHeartbeats 1000000 in
theorem tail_ok {h hh : Heap} {base bc n : Nat} {KX KY : Nat → Int} {c0 c1 c2 xv yv c7 c8 c9 c10 c11 c12 : Value} {gx gy : Nat} {mx my : List Nat} {u v : Value} (T : Tail h hh base bc n KX KY c0 c1 c2 xv yv c7 c8 c9 c10 c11 c12 gx gy mx my u v)
    (hbc : bc < h.size) (hbx : bc ≠ gx) (hby : bc ≠ gy) (hxv : SlF h xv n KX) (hyv : SlF h yv n KY) (hxo : ∀ k, xv.ownBlock = some k → k < h.size ∧ k ≠ bc ∧ k ≠ gx ∧ k ≠ gy) (hyo : ∀ k, yv.ownBlock = some k → k < h.size ∧ k ≠ bc ∧ k ≠ gx ∧ k ≠ gy)
    (hmx : ∀ x ∈ mx, x < n) (hmy : ∀ x ∈ my, x < n) (hlx : mx.length ≤ 1000) (hly : my.length ≤ 1000) {w0 : World} {R : Value → Heap → Prop}
    (hR : ∀ h' zx zy, zx.Perm mx → Asc KX zx zx.length → zy.Perm my → Asc KY zy zy.length → Tail h h' base bc n KX KY c0 c1 c2 xv yv c7 c8 c9 c10 c11 c12 gx gy zx zy u v → R (.tuple #[]) h') :
    V.Fin 97 w0 (CW Yba.prog (V.sub (Yba.f11.body.getD .skip) [1, 1, 1]) (bodyPost Yba.prog Yba.f11 (PostR w0 R))) [(0, .pointer (some ⟨bc, 0, none⟩))] hh := by
  have hxv' : SlF hh xv n KX := hxv.keep fun k hk _ => by obtain ⟨a1, a2, a3, a4⟩ := hxo k hk; exact T.other k a1 a2 a3 a4
  have hne : ∀ g, u.ownBlock = some g → xv.ownBlock ≠ some g := fun g hg e => by
    obtain ⟨a1, a2, a3, a4⟩ := hxo g e
    rcases T.ux g hg with r | r <;> omega
  have hsx := settle_ok sortOk hh base u xv mx n KX T.ownx hxv' hmx hlx hne
  refine c_seq ?_
  refine c_held followsM rfl ?_
  refine h_any 0 rfl (by kernel_rfl) rfl (fun _ => p_move rfl) rfl ?_
  refine h_any 1 rfl (by kernel_rfl) rfl (fun _ => p_nil rfl) rfl ?_
  refine h_any 2 rfl (by kernel_rfl) rfl (fun _ => p_fld rfl Yba.underlying45 rfl Yba.sizeOf23 rfl) rfl ?_
  refine h_any 4 rfl (by kernel_rfl) rfl (fun _ => p_move rfl) rfl ?_
  refine h_any 5 rfl (by kernel_rfl) rfl (fun _ => p_nil rfl) rfl ?_
  refine h_any 6 rfl (by kernel_rfl) rfl (fun _ => p_fld rfl Yba.underlying45 rfl Yba.sizeOf34 rfl) rfl ?_
  refine h_take 3 rfl (by kernel_rfl) rfl (p_load rfl Yba.isAgg23 ((hc_of T.cblk).trans rfl)) rfl ?_
  refine h_take 7 rfl (by kernel_rfl) rfl (p_load rfl Yba.isAgg34 ((hc_of T.cblk).trans rfl)) rfl ?_
  refine h_call 8 rfl (by kernel_rfl) rfl Yba.call18 rfl rfl hsx ?_
  rintro _ h1 ⟨zx, px, ax, ox, gx1⟩
  refine h_done (by kernel_rfl) ?_
  have bcu : ∀ k, u.ownBlock = some k → k ≠ bc := fun k hk e => by rcases T.ux k hk with r | r <;> omega
  have hcb1 : h1[bc]? = some (.cells (cArr c0 c1 c2 xv yv u v c7 c8 c9 c10 c11 c12) 45 (0, 0)) := by
    rw [gx1.other bc (by have := T.size; omega) (fun e => bcu bc e.symm rfl)]; exact T.cblk
  have ov1 : Owns h1 base 3 1 v my.length (ints (nats my)) := T.owny.keep fun k _ hk hv => gx1.other k hk (fun e => T.uv k e.symm hv)
  have hyv' : SlF h1 yv n KY := hyv.keep fun k hk _ => by
    obtain ⟨a1, a2, a3, a4⟩ := hyo k hk
    rw [gx1.other k (by have := T.size; omega) (fun e => by rcases T.ux k e.symm with r | r <;> omega)]
    exact T.other k a1 a2 a3 a4
  have hne2 : ∀ g, v.ownBlock = some g → yv.ownBlock ≠ some g := fun g hg e => by
    obtain ⟨a1, a2, a3, a4⟩ := hyo g e
    rcases T.vy g hg with r | r <;> omega
  have hsy := settle_ok sortOk h1 base v yv my n KY ov1 hyv' hmy hly hne2
  repeat (first | refine c_seq ?_ | refine c_region ?_ | refine c_block ?_ | refine c_skip ?_ | refine c_exit ?_ | refine c_ret ?_ | refine n_then ?_ | refine n_block ?_ | refine x_then ?_ | refine x_block_eq ?_ | refine x_block_ne rfl ?_ | refine r_then ?_ | refine r_block ?_ | refine s_nil ?_ | refine c_true rfl ?_ | refine c_false rfl ?_ | refine s_pur (p_move rfl) rfl ?_ | refine s_pur (p_assign rfl) rfl ?_ | refine s_pur (p_nil rfl) rfl ?_ | refine s_pur (p_pick_t rfl rfl) rfl ?_ | refine s_pur (p_pick_f rfl rfl) rfl ?_)
  refine c_held followsM rfl ?_
  refine h_any 0 rfl (by kernel_rfl) rfl (fun _ => p_move rfl) rfl ?_
  refine h_any 1 rfl (by kernel_rfl) rfl (fun _ => p_nil rfl) rfl ?_
  refine h_any 2 rfl (by kernel_rfl) rfl (fun _ => p_fld rfl Yba.underlying45 rfl Yba.sizeOf23 rfl) rfl ?_
  refine h_any 4 rfl (by kernel_rfl) rfl (fun _ => p_move rfl) rfl ?_
  refine h_any 5 rfl (by kernel_rfl) rfl (fun _ => p_nil rfl) rfl ?_
  refine h_any 6 rfl (by kernel_rfl) rfl (fun _ => p_fld rfl Yba.underlying45 rfl Yba.sizeOf34 rfl) rfl ?_
  refine h_take 3 rfl (by kernel_rfl) rfl (p_load rfl Yba.isAgg23 ((hc_of hcb1).trans rfl)) rfl ?_
  refine h_take 7 rfl (by kernel_rfl) rfl (p_load rfl Yba.isAgg34 ((hc_of hcb1).trans rfl)) rfl ?_
  refine h_call 8 rfl (by kernel_rfl) rfl Yba.call18 rfl rfl hsy ?_
  rintro _ h2 ⟨zy, py, ay, oy, gy2⟩
  refine h_done (by kernel_rfl) ?_
  refine end0 Yba.results11 (hR h2 zx zy px ax py ay ⟨?_, ?_, ?_, ?_, ?_, T.ux, T.vy, T.uv⟩)
  · rw [gy2.other bc (by have := gx1.size; have := T.size; omega) (fun e => by rcases T.vy bc e.symm with r | r <;> omega)]; exact hcb1
  · rw [px.length_eq]
    exact ox.keep fun k _ hk hu => gy2.other k hk (fun e => T.uv k hu e.symm)
  · rw [py.length_eq]; exact oy
  · have := gx1.size; have := gy2.size; have := T.size; omega
  · intro k hk a1 a2 a3
    rw [gy2.other k (by have := gx1.size; have := T.size; omega) (fun e => by rcases T.vy k e.symm with r | r <;> omega), gx1.other k (by have := T.size; omega) (fun e => by rcases T.ux k e.symm with r | r <;> omega)]
    exact T.other k hk a1 a2 a3
end Go.Proofs.Ybulkdiqq
