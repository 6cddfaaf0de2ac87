/-
  D8: beacon.start: its first region, in every order.
-/
import Derived.Test.YbulkdiqqD7
namespace Go.Proofs.Ybulkdiqq
set_option linter.unusedSimpArgs false
set_option linter.unusedVariables false
set_option linter.unnecessarySimpa false
open Go Go.RowKit V
set_option maxRecDepth 100000

theorem V.h_pick1 {P : Program} {N : Nt} {w0 : World} {l : Env} {h : Heap} {Q : Exit → Act → World → Prop} {ops : Array Oper} {fuel : Nat} {listed : Array Bool} (i : Nat) (hr : Region.ready .any ops listed = [i]) (ki : V.Fin N w0 (HO P ops Q fuel listed i) l h) : V.Fin N w0 (HW P ops Q (fuel + 1) listed) l h :=
  h_pick [i] hr (by simp) fun x hx => by
    simp at hx
    subst hx
    exact ki

set_option maxHeartbeats 16000000 in
theorem start0 {h : Heap} {bb rb pb : Nat} {L : ML} {id p per miss hor : Int} {w0 : World} {Q : Exit → Act → World → Prop} (c0 : hc h bb (0 + 0) = some (.pointer (some ⟨rb, 0, none⟩))) (c1 : hc h bb 1 = some (.int .i64 per)) (c2 : hc h bb 2 = some (.int .i64 miss)) (c3 : hc h bb 3 = some (.int .i64 hor))
    (r0 : hc h rb 0 = some (.map (some pb))) (mp : MapAt keyU h pb L) (hp : prio L id = .int .u64 p)
    (hK : ∀ q nd rs, Kp h q → h.size ≤ nd → q[nd]? = some (.cells (node p id per (IntKind.i64.wrap (miss * per))).toArray 66 (0, 0)) → q[rs]? = some (.cells (bres p id per).toArray 118 (0, 0)) → h.size ≤ rs → V.Fin 30 w0 (XW Q .normal) [(0, .pointer (some ⟨bb, 0, none⟩)), (1, .int .u64 id), (4, .pointer (some ⟨nd, 0, none⟩)), (5, .pointer (some ⟨rs, 0, none⟩))] q) :
    V.Fin 30 w0 (CW Yba.prog (V.sub (Yba.f15.body.getD .skip) [0]) Q) [(0, .pointer (some ⟨bb, 0, none⟩)), (1, .int .u64 id)] h := by
  have lcfg : ∀ q : Heap, Kp h q → ∀ j, j < 3 → hc q bb (0 + 1 + j) = ([.int .i64 per, .int .i64 miss, .int .i64 hor] : List Value)[j]? := fun q kq j hj => by
    rcases (by omega : j = 0 ∨ j = 1 ∨ j = 2) with rfl | rfl | rfl
    · exact kq.cell c1
    · exact kq.cell c2
    · exact kq.cell c3
  have sEnd : ∀ (q : Heap) (rs : Nat) (c : Array Value) (nd : Nat), Kp h q → q[rs]? = some (.cells c 118 (0, 0)) → c.size = 6 → h.size ≤ rs → h.size ≤ nd → q[nd]? = some (.cells (node p id per (IntKind.i64.wrap (miss * per))).toArray 66 (0, 0)) → V.Fin 30 w0 (HW Yba.prog (rops (V.sub (Yba.f15.body.getD .skip) [0])) Q 2 #[true, true, true, true, true, true, true, true, true, true, true, true, true, true, true, false, false]) [(0, .pointer (some ⟨bb, 0, none⟩)), (1, .int .u64 id), (9, .pointer (some ⟨bb, 0 + 0, none⟩)), (11, .int .u64 id), (15, .pointer (some ⟨bb, 0 + 1, none⟩)), (10, .pointer (some ⟨rb, 0, none⟩)), (12, .agg [.int .u64 p, .int .u64 id].toArray), (16, .agg [.int .i64 per, .int .i64 miss, .int .i64 hor].toArray), (5, .pointer (some ⟨rs, 0, none⟩)), (17, .tuple #[.pointer (some ⟨nd, 0, none⟩), .agg (bres p id per).toArray]), (18, .pointer (some ⟨nd, 0, none⟩)), (19, .agg (bres p id per).toArray)] q := by
    intro q rs c nd kq hrs hcs hrl hnl hnd
    refine h_any 15 rfl (by kernel_rfl) rfl (fun _ => p_assign rfl) rfl ?_
    refine h_eff0 16 rfl (by kernel_rfl) rfl (e_storeAll (vs := bres p id per) rfl rfl Yba.sizeOf118 rfl hrs hcs (by simp [bres, Value.oneCell'])) ?_
    intro _ y uy
    refine h_done (by kernel_rfl) ?_
    have hne : nd ≠ rs := by rintro rfl; rw [hnd] at hrs; simp at hrs
    exact cut [(0, .pointer (some ⟨bb, 0, none⟩)), (1, .int .u64 id), (4, .pointer (some ⟨nd, 0, none⟩)), (5, .pointer (some ⟨rs, 0, none⟩))] (by repeat (first | exact Sub.nil | refine Sub.cons rfl ?_)) (hK y nd rs ⟨by rw [uy.size]; exact kq.size, fun k hk => by rw [uy.other k (by omega), kq.same k hk]⟩ hnl (by rw [uy.other nd hne]; exact hnd) uy.at_ hrl)
  have sA2 : ∀ (q : Heap) (rs : Nat) (c : Array Value) (nd : Nat), Kp h q → q[rs]? = some (.cells c 118 (0, 0)) → c.size = 6 → h.size ≤ rs → h.size ≤ nd → q[nd]? = some (.cells (node p id per (IntKind.i64.wrap (miss * per))).toArray 66 (0, 0)) → V.Fin 30 w0 (HW Yba.prog (rops (V.sub (Yba.f15.body.getD .skip) [0])) Q 5 #[true, true, true, true, true, true, true, true, true, true, true, false, false, false, true, false, false]) [(0, .pointer (some ⟨bb, 0, none⟩)), (1, .int .u64 id), (9, .pointer (some ⟨bb, 0 + 0, none⟩)), (11, .int .u64 id), (15, .pointer (some ⟨bb, 0 + 1, none⟩)), (10, .pointer (some ⟨rb, 0, none⟩)), (12, .agg [.int .u64 p, .int .u64 id].toArray), (16, .agg [.int .i64 per, .int .i64 miss, .int .i64 hor].toArray), (5, .pointer (some ⟨rs, 0, none⟩)), (17, .tuple #[.pointer (some ⟨nd, 0, none⟩), .agg (bres p id per).toArray])] q := by
    intro q rs c nd kq hrs hcs hrl hnl hnd
    refine h_any 11 rfl (by kernel_rfl) rfl (fun _ => p_move rfl) rfl ?_
    refine h_any 12 rfl (by kernel_rfl) rfl (fun _ => p_extract rfl rfl) rfl ?_
    refine h_any 13 rfl (by kernel_rfl) (listed' := #[true, true, true, true, true, true, true, true, true, true, true, true, true, true, true, false, false]) (by kernel_rfl) (fun _ => p_extract rfl rfl) rfl ?_
    exact cut [(0, .pointer (some ⟨bb, 0, none⟩)), (1, .int .u64 id), (9, .pointer (some ⟨bb, 0 + 0, none⟩)), (11, .int .u64 id), (15, .pointer (some ⟨bb, 0 + 1, none⟩)), (10, .pointer (some ⟨rb, 0, none⟩)), (12, .agg [.int .u64 p, .int .u64 id].toArray), (16, .agg [.int .i64 per, .int .i64 miss, .int .i64 hor].toArray), (5, .pointer (some ⟨rs, 0, none⟩)), (17, .tuple #[.pointer (some ⟨nd, 0, none⟩), .agg (bres p id per).toArray]), (18, .pointer (some ⟨nd, 0, none⟩)), (19, .agg (bres p id per).toArray)] (by repeat (first | exact Sub.nil | refine Sub.cons rfl ?_)) (sEnd q rs c nd kq hrs hcs hrl hnl hnd)
  have sA1 : ∀ (q : Heap) (nd : Nat), Kp h q → h.size ≤ nd → q[nd]? = some (.cells (node p id per (IntKind.i64.wrap (miss * per))).toArray 66 (0, 0)) → V.Fin 30 w0 (HW Yba.prog (rops (V.sub (Yba.f15.body.getD .skip) [0])) Q 6 #[true, true, true, true, true, true, true, true, true, true, true, false, false, false, false, false, false]) [(0, .pointer (some ⟨bb, 0, none⟩)), (1, .int .u64 id), (9, .pointer (some ⟨bb, 0 + 0, none⟩)), (11, .int .u64 id), (15, .pointer (some ⟨bb, 0 + 1, none⟩)), (10, .pointer (some ⟨rb, 0, none⟩)), (12, .agg [.int .u64 p, .int .u64 id].toArray), (16, .agg [.int .i64 per, .int .i64 miss, .int .i64 hor].toArray), (17, .tuple #[.pointer (some ⟨nd, 0, none⟩), .agg (bres p id per).toArray])] q := by
    intro q nd kq hnl hnd
    refine h_any 11 rfl (by kernel_rfl) rfl (fun _ => p_move rfl) rfl ?_
    refine h_any 12 rfl (by kernel_rfl) rfl (fun _ => p_extract rfl rfl) rfl ?_
    refine h_any 13 rfl (by kernel_rfl) rfl (fun _ => p_extract rfl rfl) rfl ?_
    refine h_eff 14 rfl (by kernel_rfl) (listed' := #[true, true, true, true, true, true, true, true, true, true, true, true, true, true, true, false, false]) (by kernel_rfl) (e_alloc Yba.zeroValue118) rfl ?_
    rintro _ x ⟨rfl, nx⟩
    exact cut [(0, .pointer (some ⟨bb, 0, none⟩)), (1, .int .u64 id), (9, .pointer (some ⟨bb, 0 + 0, none⟩)), (11, .int .u64 id), (15, .pointer (some ⟨bb, 0 + 1, none⟩)), (10, .pointer (some ⟨rb, 0, none⟩)), (12, .agg [.int .u64 p, .int .u64 id].toArray), (16, .agg [.int .i64 per, .int .i64 miss, .int .i64 hor].toArray), (5, .pointer (some ⟨q.size, 0, none⟩)), (17, .tuple #[.pointer (some ⟨nd, 0, none⟩), .agg (bres p id per).toArray]), (18, .pointer (some ⟨nd, 0, none⟩)), (19, .agg (bres p id per).toArray)] (by repeat (first | exact Sub.nil | refine Sub.cons rfl ?_)) (sEnd x q.size _ nd (kq.trans (Kp.of nx)) nx.at_ rfl kq.size hnl ((Kp.of nx).get hnd))
  have sBp : ∀ (q : Heap) (rs : Nat) (c : Array Value), Kp h q → q[rs]? = some (.cells c 118 (0, 0)) → c.size = 6 → h.size ≤ rs → V.Fin 30 w0 (HW Yba.prog (rops (V.sub (Yba.f15.body.getD .skip) [0])) Q 6 #[true, true, true, true, true, true, true, true, true, true, false, false, false, false, true, false, false]) [(0, .pointer (some ⟨bb, 0, none⟩)), (1, .int .u64 id), (9, .pointer (some ⟨bb, 0 + 0, none⟩)), (11, .int .u64 id), (15, .pointer (some ⟨bb, 0 + 1, none⟩)), (10, .pointer (some ⟨rb, 0, none⟩)), (12, .agg [.int .u64 p, .int .u64 id].toArray), (16, .agg [.int .i64 per, .int .i64 miss, .int .i64 hor].toArray), (5, .pointer (some ⟨rs, 0, none⟩))] q := by
    intro q rs c kq hrs hcs hrl
    refine h_pick1 10 (by kernel_rfl) ?_
    refine o_call rfl (listed' := #[true, true, true, true, true, true, true, true, true, true, true, false, false, false, true, false, false]) (by kernel_rfl) Yba.call21 rfl rfl (newNode_ok q p id per miss hor) ?_
    rintro _ x ⟨kx, nd, rfl, hnl, hnd⟩
    have := kq.size
    exact cut [(0, .pointer (some ⟨bb, 0, none⟩)), (1, .int .u64 id), (9, .pointer (some ⟨bb, 0 + 0, none⟩)), (11, .int .u64 id), (15, .pointer (some ⟨bb, 0 + 1, none⟩)), (10, .pointer (some ⟨rb, 0, none⟩)), (12, .agg [.int .u64 p, .int .u64 id].toArray), (16, .agg [.int .i64 per, .int .i64 miss, .int .i64 hor].toArray), (5, .pointer (some ⟨rs, 0, none⟩)), (17, .tuple #[.pointer (some ⟨nd, 0, none⟩), .agg (bres p id per).toArray])] (by repeat (first | exact Sub.nil | refine Sub.cons rfl ?_)) (sA2 x rs c nd (kq.trans kx) (kx.get hrs) hcs hrl (by omega) hnd)
  have sB : ∀ (q : Heap), Kp h q → V.Fin 30 w0 (HW Yba.prog (rops (V.sub (Yba.f15.body.getD .skip) [0])) Q 7 #[true, true, true, true, true, true, true, true, true, true, false, false, false, false, false, false, false]) [(0, .pointer (some ⟨bb, 0, none⟩)), (1, .int .u64 id), (9, .pointer (some ⟨bb, 0 + 0, none⟩)), (11, .int .u64 id), (15, .pointer (some ⟨bb, 0 + 1, none⟩)), (10, .pointer (some ⟨rb, 0, none⟩)), (12, .agg [.int .u64 p, .int .u64 id].toArray), (16, .agg [.int .i64 per, .int .i64 miss, .int .i64 hor].toArray)] q := by
    intro q kq
    refine h_pick2 10 14 (by kernel_rfl) ?_ ?_
    · refine o_call rfl (listed' := #[true, true, true, true, true, true, true, true, true, true, true, false, false, false, false, false, false]) (by kernel_rfl) Yba.call21 rfl rfl (newNode_ok q p id per miss hor) ?_
      rintro _ x ⟨kx, nd, rfl, hnl, hnd⟩
      have := kq.size
      exact cut [(0, .pointer (some ⟨bb, 0, none⟩)), (1, .int .u64 id), (9, .pointer (some ⟨bb, 0 + 0, none⟩)), (11, .int .u64 id), (15, .pointer (some ⟨bb, 0 + 1, none⟩)), (10, .pointer (some ⟨rb, 0, none⟩)), (12, .agg [.int .u64 p, .int .u64 id].toArray), (16, .agg [.int .i64 per, .int .i64 miss, .int .i64 hor].toArray), (17, .tuple #[.pointer (some ⟨nd, 0, none⟩), .agg (bres p id per).toArray])] (by repeat (first | exact Sub.nil | refine Sub.cons rfl ?_)) (sA1 x nd (kq.trans kx) (by omega) hnd)
    · refine o_eff rfl (listed' := #[true, true, true, true, true, true, true, true, true, true, false, false, false, false, true, false, false]) (by kernel_rfl) (e_alloc Yba.zeroValue118) rfl ?_
      rintro _ x ⟨rfl, nx⟩
      exact cut [(0, .pointer (some ⟨bb, 0, none⟩)), (1, .int .u64 id), (9, .pointer (some ⟨bb, 0 + 0, none⟩)), (11, .int .u64 id), (15, .pointer (some ⟨bb, 0 + 1, none⟩)), (10, .pointer (some ⟨rb, 0, none⟩)), (12, .agg [.int .u64 p, .int .u64 id].toArray), (16, .agg [.int .i64 per, .int .i64 miss, .int .i64 hor].toArray), (5, .pointer (some ⟨q.size, 0, none⟩))] (by repeat (first | exact Sub.nil | refine Sub.cons rfl ?_)) (sBp x q.size _ (kq.trans (Kp.of nx)) nx.at_ rfl kq.size)
  have sCp : ∀ (q : Heap) (rs : Nat) (c : Array Value), Kp h q → q[rs]? = some (.cells c 118 (0, 0)) → c.size = 6 → h.size ≤ rs → V.Fin 30 w0 (HW Yba.prog (rops (V.sub (Yba.f15.body.getD .skip) [0])) Q 7 #[true, true, true, true, true, false, true, true, true, true, false, false, false, false, true, false, false]) [(0, .pointer (some ⟨bb, 0, none⟩)), (1, .int .u64 id), (9, .pointer (some ⟨bb, 0 + 0, none⟩)), (11, .int .u64 id), (15, .pointer (some ⟨bb, 0 + 1, none⟩)), (10, .pointer (some ⟨rb, 0, none⟩)), (16, .agg [.int .i64 per, .int .i64 miss, .int .i64 hor].toArray), (5, .pointer (some ⟨rs, 0, none⟩))] q := by
    intro q rs c kq hrs hcs hrl
    refine h_pick1 5 (by kernel_rfl) ?_
    refine o_call rfl (listed' := #[true, true, true, true, true, true, true, true, true, true, false, false, false, false, true, false, false]) (by kernel_rfl) Yba.call22 rfl rfl (rank_ok q rb pb L id p (kq.cell r0) (mp.keep (kq.same pb mp.lt)) hp) ?_
    rintro _ x ⟨rfl, kx⟩
    exact cut [(0, .pointer (some ⟨bb, 0, none⟩)), (1, .int .u64 id), (9, .pointer (some ⟨bb, 0 + 0, none⟩)), (11, .int .u64 id), (15, .pointer (some ⟨bb, 0 + 1, none⟩)), (10, .pointer (some ⟨rb, 0, none⟩)), (12, .agg [.int .u64 p, .int .u64 id].toArray), (16, .agg [.int .i64 per, .int .i64 miss, .int .i64 hor].toArray), (5, .pointer (some ⟨rs, 0, none⟩))] (by repeat (first | exact Sub.nil | refine Sub.cons rfl ?_)) (sBp x rs c (kq.trans kx) (kx.get hrs) hcs hrl)
  have sC : ∀ (q : Heap), Kp h q → V.Fin 30 w0 (HW Yba.prog (rops (V.sub (Yba.f15.body.getD .skip) [0])) Q 8 #[true, true, true, true, true, false, true, true, true, true, false, false, false, false, false, false, false]) [(0, .pointer (some ⟨bb, 0, none⟩)), (1, .int .u64 id), (9, .pointer (some ⟨bb, 0 + 0, none⟩)), (11, .int .u64 id), (15, .pointer (some ⟨bb, 0 + 1, none⟩)), (10, .pointer (some ⟨rb, 0, none⟩)), (16, .agg [.int .i64 per, .int .i64 miss, .int .i64 hor].toArray)] q := by
    intro q kq
    refine h_pick2 5 14 (by kernel_rfl) ?_ ?_
    · refine o_call rfl (listed' := #[true, true, true, true, true, true, true, true, true, true, false, false, false, false, false, false, false]) (by kernel_rfl) Yba.call22 rfl rfl (rank_ok q rb pb L id p (kq.cell r0) (mp.keep (kq.same pb mp.lt)) hp) ?_
      rintro _ x ⟨rfl, kx⟩
      exact cut [(0, .pointer (some ⟨bb, 0, none⟩)), (1, .int .u64 id), (9, .pointer (some ⟨bb, 0 + 0, none⟩)), (11, .int .u64 id), (15, .pointer (some ⟨bb, 0 + 1, none⟩)), (10, .pointer (some ⟨rb, 0, none⟩)), (12, .agg [.int .u64 p, .int .u64 id].toArray), (16, .agg [.int .i64 per, .int .i64 miss, .int .i64 hor].toArray)] (by repeat (first | exact Sub.nil | refine Sub.cons rfl ?_)) (sB x (kq.trans kx))
    · refine o_eff rfl (listed' := #[true, true, true, true, true, false, true, true, true, true, false, false, false, false, true, false, false]) (by kernel_rfl) (e_alloc Yba.zeroValue118) rfl ?_
      rintro _ x ⟨rfl, nx⟩
      exact cut [(0, .pointer (some ⟨bb, 0, none⟩)), (1, .int .u64 id), (9, .pointer (some ⟨bb, 0 + 0, none⟩)), (11, .int .u64 id), (15, .pointer (some ⟨bb, 0 + 1, none⟩)), (10, .pointer (some ⟨rb, 0, none⟩)), (16, .agg [.int .i64 per, .int .i64 miss, .int .i64 hor].toArray), (5, .pointer (some ⟨q.size, 0, none⟩))] (by repeat (first | exact Sub.nil | refine Sub.cons rfl ?_)) (sCp x q.size _ (kq.trans (Kp.of nx)) nx.at_ rfl kq.size)
  have sDp : ∀ (q : Heap) (rs : Nat) (c : Array Value), Kp h q → q[rs]? = some (.cells c 118 (0, 0)) → c.size = 6 → h.size ≤ rs → V.Fin 30 w0 (HW Yba.prog (rops (V.sub (Yba.f15.body.getD .skip) [0])) Q 7 #[true, true, true, true, true, true, true, true, true, false, false, false, false, false, true, false, false]) [(0, .pointer (some ⟨bb, 0, none⟩)), (1, .int .u64 id), (9, .pointer (some ⟨bb, 0 + 0, none⟩)), (11, .int .u64 id), (15, .pointer (some ⟨bb, 0 + 1, none⟩)), (10, .pointer (some ⟨rb, 0, none⟩)), (12, .agg [.int .u64 p, .int .u64 id].toArray), (5, .pointer (some ⟨rs, 0, none⟩))] q := by
    intro q rs c kq hrs hcs hrl
    refine h_pick1 9 (by kernel_rfl) ?_
    refine o_pur rfl (listed' := #[true, true, true, true, true, true, true, true, true, true, false, false, false, false, true, false, false]) (by kernel_rfl) (p_loadA (vs := [.int .i64 per, .int .i64 miss, .int .i64 hor]) rfl Yba.isAgg84 Yba.sizeOf84 rfl (lcfg q kq)) rfl ?_
    exact cut [(0, .pointer (some ⟨bb, 0, none⟩)), (1, .int .u64 id), (9, .pointer (some ⟨bb, 0 + 0, none⟩)), (11, .int .u64 id), (15, .pointer (some ⟨bb, 0 + 1, none⟩)), (10, .pointer (some ⟨rb, 0, none⟩)), (12, .agg [.int .u64 p, .int .u64 id].toArray), (16, .agg [.int .i64 per, .int .i64 miss, .int .i64 hor].toArray), (5, .pointer (some ⟨rs, 0, none⟩))] (by repeat (first | exact Sub.nil | refine Sub.cons rfl ?_)) (sBp q rs c kq hrs hcs hrl)
  have sD : ∀ (q : Heap), Kp h q → V.Fin 30 w0 (HW Yba.prog (rops (V.sub (Yba.f15.body.getD .skip) [0])) Q 8 #[true, true, true, true, true, true, true, true, true, false, false, false, false, false, false, false, false]) [(0, .pointer (some ⟨bb, 0, none⟩)), (1, .int .u64 id), (9, .pointer (some ⟨bb, 0 + 0, none⟩)), (11, .int .u64 id), (15, .pointer (some ⟨bb, 0 + 1, none⟩)), (10, .pointer (some ⟨rb, 0, none⟩)), (12, .agg [.int .u64 p, .int .u64 id].toArray)] q := by
    intro q kq
    refine h_pick2 9 14 (by kernel_rfl) ?_ ?_
    · refine o_pur rfl (listed' := #[true, true, true, true, true, true, true, true, true, true, false, false, false, false, false, false, false]) (by kernel_rfl) (p_loadA (vs := [.int .i64 per, .int .i64 miss, .int .i64 hor]) rfl Yba.isAgg84 Yba.sizeOf84 rfl (lcfg q kq)) rfl ?_
      exact cut [(0, .pointer (some ⟨bb, 0, none⟩)), (1, .int .u64 id), (9, .pointer (some ⟨bb, 0 + 0, none⟩)), (11, .int .u64 id), (15, .pointer (some ⟨bb, 0 + 1, none⟩)), (10, .pointer (some ⟨rb, 0, none⟩)), (12, .agg [.int .u64 p, .int .u64 id].toArray), (16, .agg [.int .i64 per, .int .i64 miss, .int .i64 hor].toArray)] (by repeat (first | exact Sub.nil | refine Sub.cons rfl ?_)) (sB q kq)
    · refine o_eff rfl (listed' := #[true, true, true, true, true, true, true, true, true, false, false, false, false, false, true, false, false]) (by kernel_rfl) (e_alloc Yba.zeroValue118) rfl ?_
      rintro _ x ⟨rfl, nx⟩
      exact cut [(0, .pointer (some ⟨bb, 0, none⟩)), (1, .int .u64 id), (9, .pointer (some ⟨bb, 0 + 0, none⟩)), (11, .int .u64 id), (15, .pointer (some ⟨bb, 0 + 1, none⟩)), (10, .pointer (some ⟨rb, 0, none⟩)), (12, .agg [.int .u64 p, .int .u64 id].toArray), (5, .pointer (some ⟨q.size, 0, none⟩))] (by repeat (first | exact Sub.nil | refine Sub.cons rfl ?_)) (sDp x q.size _ (kq.trans (Kp.of nx)) nx.at_ rfl kq.size)
  have sEp : ∀ (q : Heap) (rs : Nat) (c : Array Value), Kp h q → q[rs]? = some (.cells c 118 (0, 0)) → c.size = 6 → h.size ≤ rs → V.Fin 30 w0 (HW Yba.prog (rops (V.sub (Yba.f15.body.getD .skip) [0])) Q 8 #[true, true, true, true, true, false, true, true, true, false, false, false, false, false, true, false, false]) [(0, .pointer (some ⟨bb, 0, none⟩)), (1, .int .u64 id), (9, .pointer (some ⟨bb, 0 + 0, none⟩)), (11, .int .u64 id), (15, .pointer (some ⟨bb, 0 + 1, none⟩)), (10, .pointer (some ⟨rb, 0, none⟩)), (5, .pointer (some ⟨rs, 0, none⟩))] q := by
    intro q rs c kq hrs hcs hrl
    refine h_pick2 5 9 (by kernel_rfl) ?_ ?_
    · refine o_call rfl (listed' := #[true, true, true, true, true, true, true, true, true, false, false, false, false, false, true, false, false]) (by kernel_rfl) Yba.call22 rfl rfl (rank_ok q rb pb L id p (kq.cell r0) (mp.keep (kq.same pb mp.lt)) hp) ?_
      rintro _ x ⟨rfl, kx⟩
      exact cut [(0, .pointer (some ⟨bb, 0, none⟩)), (1, .int .u64 id), (9, .pointer (some ⟨bb, 0 + 0, none⟩)), (11, .int .u64 id), (15, .pointer (some ⟨bb, 0 + 1, none⟩)), (10, .pointer (some ⟨rb, 0, none⟩)), (12, .agg [.int .u64 p, .int .u64 id].toArray), (5, .pointer (some ⟨rs, 0, none⟩))] (by repeat (first | exact Sub.nil | refine Sub.cons rfl ?_)) (sDp x rs c (kq.trans kx) (kx.get hrs) hcs hrl)
    · refine o_pur rfl (listed' := #[true, true, true, true, true, false, true, true, true, true, false, false, false, false, true, false, false]) (by kernel_rfl) (p_loadA (vs := [.int .i64 per, .int .i64 miss, .int .i64 hor]) rfl Yba.isAgg84 Yba.sizeOf84 rfl (lcfg q kq)) rfl ?_
      exact cut [(0, .pointer (some ⟨bb, 0, none⟩)), (1, .int .u64 id), (9, .pointer (some ⟨bb, 0 + 0, none⟩)), (11, .int .u64 id), (15, .pointer (some ⟨bb, 0 + 1, none⟩)), (10, .pointer (some ⟨rb, 0, none⟩)), (16, .agg [.int .i64 per, .int .i64 miss, .int .i64 hor].toArray), (5, .pointer (some ⟨rs, 0, none⟩))] (by repeat (first | exact Sub.nil | refine Sub.cons rfl ?_)) (sCp q rs c kq hrs hcs hrl)
  have sE : ∀ (q : Heap), Kp h q → V.Fin 30 w0 (HW Yba.prog (rops (V.sub (Yba.f15.body.getD .skip) [0])) Q 9 #[true, true, true, true, true, false, true, true, true, false, false, false, false, false, false, false, false]) [(0, .pointer (some ⟨bb, 0, none⟩)), (1, .int .u64 id), (9, .pointer (some ⟨bb, 0 + 0, none⟩)), (11, .int .u64 id), (15, .pointer (some ⟨bb, 0 + 1, none⟩)), (10, .pointer (some ⟨rb, 0, none⟩))] q := by
    intro q kq
    refine h_pick3 5 9 14 (by kernel_rfl) ?_ ?_ ?_
    · refine o_call rfl (listed' := #[true, true, true, true, true, true, true, true, true, false, false, false, false, false, false, false, false]) (by kernel_rfl) Yba.call22 rfl rfl (rank_ok q rb pb L id p (kq.cell r0) (mp.keep (kq.same pb mp.lt)) hp) ?_
      rintro _ x ⟨rfl, kx⟩
      exact cut [(0, .pointer (some ⟨bb, 0, none⟩)), (1, .int .u64 id), (9, .pointer (some ⟨bb, 0 + 0, none⟩)), (11, .int .u64 id), (15, .pointer (some ⟨bb, 0 + 1, none⟩)), (10, .pointer (some ⟨rb, 0, none⟩)), (12, .agg [.int .u64 p, .int .u64 id].toArray)] (by repeat (first | exact Sub.nil | refine Sub.cons rfl ?_)) (sD x (kq.trans kx))
    · refine o_pur rfl (listed' := #[true, true, true, true, true, false, true, true, true, true, false, false, false, false, false, false, false]) (by kernel_rfl) (p_loadA (vs := [.int .i64 per, .int .i64 miss, .int .i64 hor]) rfl Yba.isAgg84 Yba.sizeOf84 rfl (lcfg q kq)) rfl ?_
      exact cut [(0, .pointer (some ⟨bb, 0, none⟩)), (1, .int .u64 id), (9, .pointer (some ⟨bb, 0 + 0, none⟩)), (11, .int .u64 id), (15, .pointer (some ⟨bb, 0 + 1, none⟩)), (10, .pointer (some ⟨rb, 0, none⟩)), (16, .agg [.int .i64 per, .int .i64 miss, .int .i64 hor].toArray)] (by repeat (first | exact Sub.nil | refine Sub.cons rfl ?_)) (sC q kq)
    · refine o_eff rfl (listed' := #[true, true, true, true, true, false, true, true, true, false, false, false, false, false, true, false, false]) (by kernel_rfl) (e_alloc Yba.zeroValue118) rfl ?_
      rintro _ x ⟨rfl, nx⟩
      exact cut [(0, .pointer (some ⟨bb, 0, none⟩)), (1, .int .u64 id), (9, .pointer (some ⟨bb, 0 + 0, none⟩)), (11, .int .u64 id), (15, .pointer (some ⟨bb, 0 + 1, none⟩)), (10, .pointer (some ⟨rb, 0, none⟩)), (5, .pointer (some ⟨q.size, 0, none⟩))] (by repeat (first | exact Sub.nil | refine Sub.cons rfl ?_)) (sEp x q.size _ (kq.trans (Kp.of nx)) nx.at_ rfl kq.size)
  have sF9p : ∀ (q : Heap) (rs : Nat) (c : Array Value), Kp h q → q[rs]? = some (.cells c 118 (0, 0)) → c.size = 6 → h.size ≤ rs → V.Fin 30 w0 (HW Yba.prog (rops (V.sub (Yba.f15.body.getD .skip) [0])) Q 8 #[true, true, true, false, true, false, true, true, true, true, false, false, false, false, true, false, false]) [(0, .pointer (some ⟨bb, 0, none⟩)), (1, .int .u64 id), (9, .pointer (some ⟨bb, 0 + 0, none⟩)), (11, .int .u64 id), (15, .pointer (some ⟨bb, 0 + 1, none⟩)), (16, .agg [.int .i64 per, .int .i64 miss, .int .i64 hor].toArray), (5, .pointer (some ⟨rs, 0, none⟩))] q := by
    intro q rs c kq hrs hcs hrl
    refine h_pick1 3 (by kernel_rfl) ?_
    refine o_pur rfl (listed' := #[true, true, true, true, true, false, true, true, true, true, false, false, false, false, true, false, false]) (by kernel_rfl) (p_load rfl Yba.isAgg85 (kq.cell c0)) rfl ?_
    exact cut [(0, .pointer (some ⟨bb, 0, none⟩)), (1, .int .u64 id), (9, .pointer (some ⟨bb, 0 + 0, none⟩)), (11, .int .u64 id), (15, .pointer (some ⟨bb, 0 + 1, none⟩)), (10, .pointer (some ⟨rb, 0, none⟩)), (16, .agg [.int .i64 per, .int .i64 miss, .int .i64 hor].toArray), (5, .pointer (some ⟨rs, 0, none⟩))] (by repeat (first | exact Sub.nil | refine Sub.cons rfl ?_)) (sCp q rs c kq hrs hcs hrl)
  have sF9 : ∀ (q : Heap), Kp h q → V.Fin 30 w0 (HW Yba.prog (rops (V.sub (Yba.f15.body.getD .skip) [0])) Q 9 #[true, true, true, false, true, false, true, true, true, true, false, false, false, false, false, false, false]) [(0, .pointer (some ⟨bb, 0, none⟩)), (1, .int .u64 id), (9, .pointer (some ⟨bb, 0 + 0, none⟩)), (11, .int .u64 id), (15, .pointer (some ⟨bb, 0 + 1, none⟩)), (16, .agg [.int .i64 per, .int .i64 miss, .int .i64 hor].toArray)] q := by
    intro q kq
    refine h_pick2 3 14 (by kernel_rfl) ?_ ?_
    · refine o_pur rfl (listed' := #[true, true, true, true, true, false, true, true, true, true, false, false, false, false, false, false, false]) (by kernel_rfl) (p_load rfl Yba.isAgg85 (kq.cell c0)) rfl ?_
      exact cut [(0, .pointer (some ⟨bb, 0, none⟩)), (1, .int .u64 id), (9, .pointer (some ⟨bb, 0 + 0, none⟩)), (11, .int .u64 id), (15, .pointer (some ⟨bb, 0 + 1, none⟩)), (10, .pointer (some ⟨rb, 0, none⟩)), (16, .agg [.int .i64 per, .int .i64 miss, .int .i64 hor].toArray)] (by repeat (first | exact Sub.nil | refine Sub.cons rfl ?_)) (sC q kq)
    · refine o_eff rfl (listed' := #[true, true, true, false, true, false, true, true, true, true, false, false, false, false, true, false, false]) (by kernel_rfl) (e_alloc Yba.zeroValue118) rfl ?_
      rintro _ x ⟨rfl, nx⟩
      exact cut [(0, .pointer (some ⟨bb, 0, none⟩)), (1, .int .u64 id), (9, .pointer (some ⟨bb, 0 + 0, none⟩)), (11, .int .u64 id), (15, .pointer (some ⟨bb, 0 + 1, none⟩)), (16, .agg [.int .i64 per, .int .i64 miss, .int .i64 hor].toArray), (5, .pointer (some ⟨q.size, 0, none⟩))] (by repeat (first | exact Sub.nil | refine Sub.cons rfl ?_)) (sF9p x q.size _ (kq.trans (Kp.of nx)) nx.at_ rfl kq.size)
  have sF14 : ∀ (q : Heap) (rs : Nat) (c : Array Value), Kp h q → q[rs]? = some (.cells c 118 (0, 0)) → c.size = 6 → h.size ≤ rs → V.Fin 30 w0 (HW Yba.prog (rops (V.sub (Yba.f15.body.getD .skip) [0])) Q 9 #[true, true, true, false, true, false, true, true, true, false, false, false, false, false, true, false, false]) [(0, .pointer (some ⟨bb, 0, none⟩)), (1, .int .u64 id), (9, .pointer (some ⟨bb, 0 + 0, none⟩)), (11, .int .u64 id), (15, .pointer (some ⟨bb, 0 + 1, none⟩)), (5, .pointer (some ⟨rs, 0, none⟩))] q := by
    intro q rs c kq hrs hcs hrl
    refine h_pick2 3 9 (by kernel_rfl) ?_ ?_
    · refine o_pur rfl (listed' := #[true, true, true, true, true, false, true, true, true, false, false, false, false, false, true, false, false]) (by kernel_rfl) (p_load rfl Yba.isAgg85 (kq.cell c0)) rfl ?_
      exact cut [(0, .pointer (some ⟨bb, 0, none⟩)), (1, .int .u64 id), (9, .pointer (some ⟨bb, 0 + 0, none⟩)), (11, .int .u64 id), (15, .pointer (some ⟨bb, 0 + 1, none⟩)), (10, .pointer (some ⟨rb, 0, none⟩)), (5, .pointer (some ⟨rs, 0, none⟩))] (by repeat (first | exact Sub.nil | refine Sub.cons rfl ?_)) (sEp q rs c kq hrs hcs hrl)
    · refine o_pur rfl (listed' := #[true, true, true, false, true, false, true, true, true, true, false, false, false, false, true, false, false]) (by kernel_rfl) (p_loadA (vs := [.int .i64 per, .int .i64 miss, .int .i64 hor]) rfl Yba.isAgg84 Yba.sizeOf84 rfl (lcfg q kq)) rfl ?_
      exact cut [(0, .pointer (some ⟨bb, 0, none⟩)), (1, .int .u64 id), (9, .pointer (some ⟨bb, 0 + 0, none⟩)), (11, .int .u64 id), (15, .pointer (some ⟨bb, 0 + 1, none⟩)), (16, .agg [.int .i64 per, .int .i64 miss, .int .i64 hor].toArray), (5, .pointer (some ⟨rs, 0, none⟩))] (by repeat (first | exact Sub.nil | refine Sub.cons rfl ?_)) (sF9p q rs c kq hrs hcs hrl)
  have sF : ∀ (q : Heap), Kp h q → V.Fin 30 w0 (HW Yba.prog (rops (V.sub (Yba.f15.body.getD .skip) [0])) Q 10 #[true, true, true, false, true, false, true, true, true, false, false, false, false, false, false, false, false]) [(0, .pointer (some ⟨bb, 0, none⟩)), (1, .int .u64 id), (9, .pointer (some ⟨bb, 0 + 0, none⟩)), (11, .int .u64 id), (15, .pointer (some ⟨bb, 0 + 1, none⟩))] q := by
    intro q kq
    refine h_pick3 3 9 14 (by kernel_rfl) ?_ ?_ ?_
    · refine o_pur rfl (listed' := #[true, true, true, true, true, false, true, true, true, false, false, false, false, false, false, false, false]) (by kernel_rfl) (p_load rfl Yba.isAgg85 (kq.cell c0)) rfl ?_
      exact cut [(0, .pointer (some ⟨bb, 0, none⟩)), (1, .int .u64 id), (9, .pointer (some ⟨bb, 0 + 0, none⟩)), (11, .int .u64 id), (15, .pointer (some ⟨bb, 0 + 1, none⟩)), (10, .pointer (some ⟨rb, 0, none⟩))] (by repeat (first | exact Sub.nil | refine Sub.cons rfl ?_)) (sE q kq)
    · refine o_pur rfl (listed' := #[true, true, true, false, true, false, true, true, true, true, false, false, false, false, false, false, false]) (by kernel_rfl) (p_loadA (vs := [.int .i64 per, .int .i64 miss, .int .i64 hor]) rfl Yba.isAgg84 Yba.sizeOf84 rfl (lcfg q kq)) rfl ?_
      exact cut [(0, .pointer (some ⟨bb, 0, none⟩)), (1, .int .u64 id), (9, .pointer (some ⟨bb, 0 + 0, none⟩)), (11, .int .u64 id), (15, .pointer (some ⟨bb, 0 + 1, none⟩)), (16, .agg [.int .i64 per, .int .i64 miss, .int .i64 hor].toArray)] (by repeat (first | exact Sub.nil | refine Sub.cons rfl ?_)) (sF9 q kq)
    · refine o_eff rfl (listed' := #[true, true, true, false, true, false, true, true, true, false, false, false, false, false, true, false, false]) (by kernel_rfl) (e_alloc Yba.zeroValue118) rfl ?_
      rintro _ x ⟨rfl, nx⟩
      exact cut [(0, .pointer (some ⟨bb, 0, none⟩)), (1, .int .u64 id), (9, .pointer (some ⟨bb, 0 + 0, none⟩)), (11, .int .u64 id), (15, .pointer (some ⟨bb, 0 + 1, none⟩)), (5, .pointer (some ⟨q.size, 0, none⟩))] (by repeat (first | exact Sub.nil | refine Sub.cons rfl ?_)) (sF14 x q.size _ (kq.trans (Kp.of nx)) nx.at_ rfl kq.size)
  refine c_held followsM rfl ?_
  refine h_any 0 rfl (by kernel_rfl) rfl (fun _ => p_move rfl) rfl ?_
  refine h_any 1 rfl (by kernel_rfl) rfl (fun _ => p_nil rfl) rfl ?_
  refine h_any 2 rfl (by kernel_rfl) rfl (fun _ => p_fld (off := 0) rfl Yba.underlying107 rfl Yba.sizeOf85 rfl) rfl ?_
  refine h_any 4 rfl (by kernel_rfl) rfl (fun _ => p_move rfl) rfl ?_
  refine h_any 6 rfl (by kernel_rfl) rfl (fun _ => p_move rfl) rfl ?_
  refine h_any 7 rfl (by kernel_rfl) rfl (fun _ => p_nil rfl) rfl ?_
  refine h_any 8 rfl (by kernel_rfl) (listed' := #[true, true, true, false, true, false, true, true, true, false, false, false, false, false, false, false, false]) (by kernel_rfl) (fun _ => p_fld (off := 1) rfl Yba.underlying107 rfl Yba.sizeOf84 rfl) rfl ?_
  exact cut [(0, .pointer (some ⟨bb, 0, none⟩)), (1, .int .u64 id), (9, .pointer (some ⟨bb, 0 + 0, none⟩)), (11, .int .u64 id), (15, .pointer (some ⟨bb, 0 + 1, none⟩))] (by repeat (first | exact Sub.nil | refine Sub.cons rfl ?_)) (sF h (Kp.refl h))
end Go.Proofs.Ybulkdiqq
