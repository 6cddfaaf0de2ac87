/-
  B3: math/big: nat.set, nat.setWord, nat.setUint64.
-/
import Derived.Test.YbulkdirsB2
namespace Go.Proofs.Ybulkdirs
set_option linter.unusedSimpArgs false
set_option linter.unusedVariables false
set_option linter.unnecessarySimpa false
open Go Go.RowKit V
set_option maxRecDepth 100000

theorem owns_mk {h : Heap} {base g c : Nat} {cur : Array Value} {ws : List Nat} (hb : base ≤ g) (hg : h[g]? = some (.cells cur 45 (0, 0))) (hs : cur.size = c) (hk : ws.length ≤ c) (hm : c ≤ maxLen) (hcell : ∀ j, j < ws.length → cur[j]? = some (wd (ws.getD j 0))) :
    Owns h base 45 1 (.slice (some ⟨g, 0, none⟩) ws.length c) ws.length (wds ws) := by
  refine ⟨by simp [wds], .inr ⟨g, c, cur, rfl, hb, hg, hk, hm, by simpa using hs, ?_⟩⟩
  apply List.ext_getElem?
  intro j
  by_cases hj : j < ws.length
  · rw [List.getElem?_take_of_lt (by omega), wds_get ws j hj]
    have := hcell j hj
    simpa using this
  · rw [List.getElem?_eq_none (by simp; omega), List.getElem?_eq_none (by simp [wds]; omega)]

/-- What a nat function hands back: the number's words, in z's own row or in a new one. -/
def NRes (h h' : Heap) (base : Nat) (zv u : Value) (v : Nat) : Prop := NV h' base u v ∧ Grow h h' zv.ownBlock ∧ (u.ownBlock = zv.ownBlock ∨ u.ownBlock = some h.size)

theorem mk_grow {h h1 h2 : Heap} {g : Nat} {zv : Value} {o : Obj} (hm : (zv.ownBlock = some g ∧ h1 = h) ∨ (g = h.size ∧ New h h1 o)) (ho : ∀ b, b ≠ g → h2[b]? = h1[b]?) (hs : h2.size = h1.size) (n c : Nat) :
    Grow h h2 zv.ownBlock ∧ ((Value.slice (some ⟨g, 0, none⟩) n c).ownBlock = zv.ownBlock ∨ (Value.slice (some ⟨g, 0, none⟩) n c).ownBlock = some h.size) := by
  rcases hm with ⟨e, rfl⟩ | ⟨rfl, nn⟩
  · refine ⟨⟨by omega, fun k hk hne => ho k (fun e' => hne (by rw [e, e']))⟩, .inl (by rw [e]; rfl)⟩
  · have := nn.size
    exact ⟨⟨by omega, fun k hk hne => by rw [ho k (by omega), nn.other k hk]⟩, .inr rfl⟩
theorem mk_base {h h1 : Heap} {g base nz : Nat} {zv : Value} {zs : List Value} {o : Obj} (hz : Owns h base 45 1 zv nz zs) (hbase : base ≤ h.size) (hm : (zv.ownBlock = some g ∧ h1 = h) ∨ (g = h.size ∧ New h h1 o)) : base ≤ g := by
  rcases hm with ⟨e, _⟩ | ⟨rfl, _⟩
  · exact hz.base g e
  · exact hbase

/-- z[:0]. -/
theorem V.Owns.none {h : Heap} {base n : Nat} {v : Value} {xs : List Value} (ho : Owns h base 45 1 v n xs) : ∃ a c, v = .slice a n c ∧ Owns h base 45 1 (.slice a 0 c) 0 [] ∧ (Value.slice a 0 c).ownBlock = v.ownBlock := by
  rcases ho.shape with ⟨hv, hn⟩ | ⟨g, cap, cur, hv, hb, hg, hnc, hm, hs, ht⟩
  · subst hv; subst hn
    exact ⟨Option.none, 0, rfl, ⟨by simp, .inl ⟨rfl, rfl⟩⟩, rfl⟩
  · subst hv
    exact ⟨_, cap, rfl, ⟨by simp, .inr ⟨g, cap, cur, rfl, hb, hg, by omega, hm, hs, by simp⟩⟩, rfl⟩
theorem NRes.zero {h : Heap} {base n : Nat} {v : Value} {xs : List Value} {a : Option Addr} {c : Nat} (ho : Owns h base 45 1 (.slice a 0 c) 0 []) (he : (Value.slice a 0 c).ownBlock = v.ownBlock) : NRes h h base v (.slice a 0 c) 0 :=
  ⟨⟨ho, by simp [B]⟩, ⟨Nat.le_refl _, fun _ _ _ => rfl⟩, .inl he⟩

set_option maxHeartbeats 1000000 in
theorem setWord_ok (h : Heap) (base nz x : Nat) (zv : Value) (zs : List Value) (hz : Owns h base 45 1 zv nz zs) (hbase : base ≤ h.size) (hx : x < B) :
    CallsH Yba.prog 34 #[zv, .int .u64 x] h (fun u h' => NRes h h' base zv u x) := by
  by_cases h0 : x = 0
  · subst h0
    obtain ⟨a, c, rfl, ho, he⟩ := hz.none
    refine calls_of [(0, .slice a nz c), (1, .int .u64 ((0 : Nat) : Int))] Yba.func34 rfl Yba.ntmps34 (by simp) (.cons rfl (.cons rfl .nil)) ?_
    intro w0 hw0
    repeat (first | refine c_seq ?_ | refine c_region ?_ | refine c_block ?_ | refine c_skip ?_ | refine c_exit ?_ | refine c_ret ?_ | refine n_then ?_ | refine n_block ?_ | refine x_then ?_ | refine x_block_eq ?_ | refine x_block_ne rfl ?_ | refine r_then ?_ | refine r_block ?_ | refine s_nil ?_ | refine c_true rfl ?_ | refine c_false rfl ?_ | refine s_pur (p_move rfl) rfl ?_ | refine s_pur (p_assign rfl) rfl ?_ | refine s_pur (p_nil rfl) rfl ?_ | refine s_pur (p_pick_t rfl rfl) rfl ?_ | refine s_pur (p_pick_f rfl rfl) rfl ?_ | refine s_pur (p_reslice (m := 0) rfl rfl (by omega) Yba.underlying30 Yba.sizeOf45) rfl ?_ | refine s_pur (p_lssT rfl rfl (by omega)) rfl ?_ | refine s_pur (p_lssF rfl rfl (by omega)) rfl ?_ | refine s_pur (p_leqT rfl rfl (by omega)) rfl ?_ | refine s_pur (p_leqF rfl rfl (by omega)) rfl ?_ | refine s_pur (p_gtrT rfl rfl (by omega)) rfl ?_ | refine s_pur (p_gtrF rfl rfl (by omega)) rfl ?_ | refine s_pur (p_geqT rfl rfl (by omega)) rfl ?_ | refine s_pur (p_geqF rfl rfl (by omega)) rfl ?_ | refine s_pur (p_eqlT rfl rfl (by omega)) rfl ?_ | refine s_pur (p_eqlF rfl rfl (by omega)) rfl ?_ | refine s_pur (p_neqT rfl rfl (by omega)) rfl ?_ | refine s_pur (p_neqF rfl rfl (by omega)) rfl ?_)
    exact ret1 Yba.results34 rfl (NRes.zero (n := nz) (xs := zs) ho he)
  · refine calls_of [(0, zv), (1, .int .u64 x)] Yba.func34 rfl Yba.ntmps34 (by simp) (.cons rfl (.cons rfl .nil)) ?_
    intro w0 hw0
    repeat (first | refine c_seq ?_ | refine c_region ?_ | refine c_block ?_ | refine c_skip ?_ | refine c_exit ?_ | refine c_ret ?_ | refine n_then ?_ | refine n_block ?_ | refine x_then ?_ | refine x_block_eq ?_ | refine x_block_ne rfl ?_ | refine r_then ?_ | refine r_block ?_ | refine s_nil ?_ | refine c_true rfl ?_ | refine c_false rfl ?_ | refine s_pur (p_move rfl) rfl ?_ | refine s_pur (p_assign rfl) rfl ?_ | refine s_pur (p_nil rfl) rfl ?_ | refine s_pur (p_pick_t rfl rfl) rfl ?_ | refine s_pur (p_pick_f rfl rfl) rfl ?_ | refine s_pur (p_lssT rfl rfl (by omega)) rfl ?_ | refine s_pur (p_lssF rfl rfl (by omega)) rfl ?_ | refine s_pur (p_leqT rfl rfl (by omega)) rfl ?_ | refine s_pur (p_leqF rfl rfl (by omega)) rfl ?_ | refine s_pur (p_gtrT rfl rfl (by omega)) rfl ?_ | refine s_pur (p_gtrF rfl rfl (by omega)) rfl ?_ | refine s_pur (p_geqT rfl rfl (by omega)) rfl ?_ | refine s_pur (p_geqF rfl rfl (by omega)) rfl ?_ | refine s_pur (p_eqlT rfl rfl (by omega)) rfl ?_ | refine s_pur (p_eqlF rfl rfl (by omega)) rfl ?_ | refine s_pur (p_neqT rfl rfl (by omega)) rfl ?_ | refine s_pur (p_neqF rfl rfl (by omega)) rfl ?_)
    refine s_call Yba.call26 rfl rfl (make_ok h base nz 1 zv zs hz (by omega) (by omega)) ?_
    rintro _ h1 ⟨g, c, cur, ⟨rfl, hg, hsz, hmc, hmx⟩, hm⟩
    repeat (first | refine c_seq ?_ | refine c_region ?_ | refine c_block ?_ | refine c_skip ?_ | refine c_exit ?_ | refine c_ret ?_ | refine n_then ?_ | refine n_block ?_ | refine x_then ?_ | refine x_block_eq ?_ | refine x_block_ne rfl ?_ | refine r_then ?_ | refine r_block ?_ | refine s_nil ?_ | refine c_true rfl ?_ | refine c_false rfl ?_ | refine s_pur (p_move rfl) rfl ?_ | refine s_pur (p_assign rfl) rfl ?_ | refine s_pur (p_nil rfl) rfl ?_ | refine s_pur (p_pick_t rfl rfl) rfl ?_ | refine s_pur (p_pick_f rfl rfl) rfl ?_ | refine s_pur (p_idx1 (j := 0) rfl rfl rfl (by omega) Yba.underlying30 Yba.sizeOf45) rfl ?_)
    refine s_eff0 (e_store rfl rfl rfl Yba.sizeOf45 hg (by omega)) ?_
    rintro _ h2 u2
    repeat (first | refine c_seq ?_ | refine c_region ?_ | refine c_block ?_ | refine c_skip ?_ | refine c_exit ?_ | refine c_ret ?_ | refine n_then ?_ | refine n_block ?_ | refine x_then ?_ | refine x_block_eq ?_ | refine x_block_ne rfl ?_ | refine r_then ?_ | refine r_block ?_ | refine s_nil ?_ | refine c_true rfl ?_ | refine c_false rfl ?_ | refine s_pur (p_move rfl) rfl ?_ | refine s_pur (p_assign rfl) rfl ?_ | refine s_pur (p_nil rfl) rfl ?_ | refine s_pur (p_pick_t rfl rfl) rfl ?_ | refine s_pur (p_pick_f rfl rfl) rfl ?_)
    have hd := dg_1 h0 hx
    have ow : Owns h2 base 45 1 (.slice (some ⟨g, 0, none⟩) 1 c) 1 (wds [x]) := owns_mk (ws := [x]) (mk_base hz hbase hm) u2.at_ (by simpa using hsz) (by simpa using hmc) hmx (fun j hj => by
      have : j = 0 := by simpa using hj
      subst this
      rw [Array.getElem?_setIfInBounds]
      simp [wd, show 0 < cur.size by omega])
    refine ret1 Yba.results34 rfl ⟨⟨by rw [hd]; exact ow, by simp only [B] at hx ⊢; omega⟩, mk_grow hm u2.other u2.size 1 c⟩

theorem setUint64_ok (h : Heap) (base nz x : Nat) (zv : Value) (zs : List Value) (hz : Owns h base 45 1 zv nz zs) (hbase : base ≤ h.size) (hx : x < B) :
    CallsH Yba.prog 22 #[zv, .int .u64 x] h (fun u h' => NRes h h' base zv u x) := by
  refine calls_of [(0, zv), (1, .int .u64 x)] Yba.func22 rfl Yba.ntmps22 (by simp) (.cons rfl (.cons rfl .nil)) ?_
  intro w0 hw0
  repeat (first | refine c_seq ?_ | refine c_region ?_ | refine c_block ?_ | refine c_skip ?_ | refine c_exit ?_ | refine c_ret ?_ | refine n_then ?_ | refine n_block ?_ | refine x_then ?_ | refine x_block_eq ?_ | refine x_block_ne rfl ?_ | refine r_then ?_ | refine r_block ?_ | refine s_nil ?_ | refine c_true rfl ?_ | refine c_false rfl ?_ | refine s_pur (p_move rfl) rfl ?_ | refine s_pur (p_assign rfl) rfl ?_ | refine s_pur (p_nil rfl) rfl ?_ | refine s_pur (p_pick_t rfl rfl) rfl ?_ | refine s_pur (p_pick_f rfl rfl) rfl ?_ | refine s_pur (p_lssT rfl rfl (by omega)) rfl ?_ | refine s_pur (p_lssF rfl rfl (by omega)) rfl ?_ | refine s_pur (p_leqT rfl rfl (by omega)) rfl ?_ | refine s_pur (p_leqF rfl rfl (by omega)) rfl ?_ | refine s_pur (p_gtrT rfl rfl (by omega)) rfl ?_ | refine s_pur (p_gtrF rfl rfl (by omega)) rfl ?_ | refine s_pur (p_geqT rfl rfl (by omega)) rfl ?_ | refine s_pur (p_geqF rfl rfl (by omega)) rfl ?_ | refine s_pur (p_eqlT rfl rfl (by omega)) rfl ?_ | refine s_pur (p_eqlF rfl rfl (by omega)) rfl ?_ | refine s_pur (p_neqT rfl rfl (by omega)) rfl ?_ | refine s_pur (p_neqF rfl rfl (by omega)) rfl ?_)
  refine s_call Yba.call34 rfl rfl (setWord_ok h base nz x zv zs hz hbase hx) ?_
  rintro u h1 hr
  repeat (first | refine c_seq ?_ | refine c_region ?_ | refine c_block ?_ | refine c_skip ?_ | refine c_exit ?_ | refine c_ret ?_ | refine n_then ?_ | refine n_block ?_ | refine x_then ?_ | refine x_block_eq ?_ | refine x_block_ne rfl ?_ | refine r_then ?_ | refine r_block ?_ | refine s_nil ?_ | refine c_true rfl ?_ | refine c_false rfl ?_ | refine s_pur (p_move rfl) rfl ?_ | refine s_pur (p_assign rfl) rfl ?_ | refine s_pur (p_nil rfl) rfl ?_ | refine s_pur (p_pick_t rfl rfl) rfl ?_ | refine s_pur (p_pick_f rfl rfl) rfl ?_)
  exact ret1 Yba.results22 rfl hr

/-- x's words where they lie. -/
theorem NV.cells {h : Heap} {base v : Nat} {u : Value} (hn : NV h base u v) (h0 : v ≠ 0) : ∃ g c cur, u = .slice (some ⟨g, 0, none⟩) (dg v).length c ∧ h[g]? = some (.cells cur 45 (0, 0)) ∧ cur.size = c ∧ (dg v).length ≤ c ∧ base ≤ g ∧ ∀ j, j < (dg v).length → hc h g (0 + j) = some (wd ((dg v).getD j 0)) := by
  rcases hn.1.shape with ⟨_, e0⟩ | ⟨g, cap, cur, e, hb, hg, hnc, hm, hs, ht⟩
  · exfalso
    unfold dg at e0
    simp only [h0, if_false] at e0
    split at e0 <;> simp at e0
  · refine ⟨g, cap, cur, e, hg, by simpa using hs, hnc, hb, fun j hj => ?_⟩
    rw [Nat.zero_add]
    exact hn.1.cell (by rw [e]; rfl) (wds_get _ j hj)

set_option maxHeartbeats 1000000 in
theorem natSet_ok (h : Heap) (base nz X : Nat) (zv xv : Value) (zs : List Value) (hz : Owns h base 45 1 zv nz zs) (hbase : base ≤ h.size) (hx : NV h base xv X) (h0 : X ≠ 0) :
    CallsH Yba.prog 25 #[zv, xv] h (fun u h' => NRes h h' base zv u X) := by
  obtain ⟨gx, cx, curx, rfl, hgx, hsx, hnx, hbx, hcx⟩ := hx.cells h0
  have hl : 1 ≤ (dg X).length ∧ (dg X).length ≤ 4 := by
    unfold dg
    simp only [h0, if_false]
    split <;> simp
  refine calls_of [(0, zv), (1, .slice (some ⟨gx, 0, none⟩) (dg X).length cx)] Yba.func25 rfl Yba.ntmps25 (by simp) (.cons rfl (.cons rfl .nil)) ?_
  intro w0 hw0
  repeat (first | refine c_seq ?_ | refine c_region ?_ | refine c_block ?_ | refine c_skip ?_ | refine c_exit ?_ | refine c_ret ?_ | refine n_then ?_ | refine n_block ?_ | refine x_then ?_ | refine x_block_eq ?_ | refine x_block_ne rfl ?_ | refine r_then ?_ | refine r_block ?_ | refine s_nil ?_ | refine c_true rfl ?_ | refine c_false rfl ?_ | refine s_pur (p_move rfl) rfl ?_ | refine s_pur (p_assign rfl) rfl ?_ | refine s_pur (p_nil rfl) rfl ?_ | refine s_pur (p_pick_t rfl rfl) rfl ?_ | refine s_pur (p_pick_f rfl rfl) rfl ?_ | refine s_pur (p_len rfl Yba.underlying30) rfl ?_ | refine s_pur (p_idx1 rfl rfl rfl (by omega) Yba.underlying30 Yba.sizeOf45) rfl ?_)
  refine s_call Yba.call26 rfl rfl (make_ok h base nz (dg X).length zv zs hz hl.2 hl.1) ?_
  rintro _ h1 ⟨g, c, cur, ⟨rfl, hg, hsz, hmc, hmx⟩, hm⟩
  have rd : ∀ j, j < (dg X).length → hc h1 gx (0 + j) = some (wd ((dg X).getD j 0)) := by
    intro j hj
    rcases hm with ⟨_, rfl⟩ | ⟨_, nn⟩
    · exact hcx j hj
    · rw [hc_congr (nn.other gx (lt_of_get hgx))]; exact hcx j hj
  repeat (first | refine c_seq ?_ | refine c_region ?_ | refine c_block ?_ | refine c_skip ?_ | refine c_exit ?_ | refine c_ret ?_ | refine n_then ?_ | refine n_block ?_ | refine x_then ?_ | refine x_block_eq ?_ | refine x_block_ne rfl ?_ | refine r_then ?_ | refine r_block ?_ | refine s_nil ?_ | refine c_true rfl ?_ | refine c_false rfl ?_ | refine s_pur (p_move rfl) rfl ?_ | refine s_pur (p_assign rfl) rfl ?_ | refine s_pur (p_nil rfl) rfl ?_ | refine s_pur (p_pick_t rfl rfl) rfl ?_ | refine s_pur (p_pick_f rfl rfl) rfl ?_)
  refine s_eff (e_copy (cs := wds (dg X)) rfl rfl Yba.underlying30 size45 hg (by simp [wds]) (fun j v hj => ?_) (by simp [wds]; omega) (wds_one _)) rfl ?_
  · have hjl : j < (dg X).length := by have := (List.getElem?_eq_some_iff.1 hj).1; simpa [wds] using this
    rw [wds_get _ j hjl] at hj
    rw [add_none, cell_hc]
    cases hj
    exact rd j hjl
  rintro _ h2 u2
  repeat (first | refine c_seq ?_ | refine c_region ?_ | refine c_block ?_ | refine c_skip ?_ | refine c_exit ?_ | refine c_ret ?_ | refine n_then ?_ | refine n_block ?_ | refine x_then ?_ | refine x_block_eq ?_ | refine x_block_ne rfl ?_ | refine r_then ?_ | refine r_block ?_ | refine s_nil ?_ | refine c_true rfl ?_ | refine c_false rfl ?_ | refine s_pur (p_move rfl) rfl ?_ | refine s_pur (p_assign rfl) rfl ?_ | refine s_pur (p_nil rfl) rfl ?_ | refine s_pur (p_pick_t rfl rfl) rfl ?_ | refine s_pur (p_pick_f rfl rfl) rfl ?_)
  have ow : Owns h2 base 45 1 (.slice (some ⟨g, 0, none⟩) (dg X).length c) (dg X).length (wds (dg X)) := owns_mk (mk_base hz hbase hm) u2.at_ (by simp [wds]; omega) hmc hmx (fun j hj => by
    rw [List.getElem?_toArray]
    simp only [List.take_zero, List.nil_append]
    rw [List.getElem?_append_left (by simpa [wds] using hj)]
    exact wds_get _ j hj)
  exact ret1 Yba.results25 rfl ⟨⟨ow, hx.2⟩, mk_grow hm u2.other u2.size _ c⟩
end Go.Proofs.Ybulkdirs
