/-
  C5: what the cache holds in memory.
-/
import Derived.Test.YbulkdireC4
namespace Go.Proofs.Ybulkdire
set_option linter.unusedSimpArgs false
set_option linter.unusedVariables false
set_option linter.unnecessarySimpa false
open Go Go.RowKit V

/-- Below base nothing has turned; rows of other types than the cache's stand. -/
structure Frm (base : Nat) (h h' : Heap) : Prop where
  size : h.size ≤ h'.size
  low : ∀ k, k < base → h'[k]? = h[k]?
  keep : ∀ (k : Nat) c e, h[k]? = some (.cells c e (0, 0)) → e ≠ 54 → e ≠ 52 → h'[k]? = some (.cells c e (0, 0))
theorem Frm.refl (base : Nat) (h : Heap) : Frm base h h := ⟨Nat.le_refl _, fun _ _ => rfl, fun _ _ _ hk _ _ => hk⟩
theorem Frm.trans {base : Nat} {h h1 h2 : Heap} (a : Frm base h h1) (b : Frm base h1 h2) : Frm base h h2 :=
  ⟨Nat.le_trans a.size b.size, fun k hk => (b.low k hk).trans (a.low k hk), fun k c e hk h5 h2 => b.keep k c e (a.keep k c e hk h5 h2) h5 h2⟩
theorem Frm.new {base : Nat} {h h1 h2 : Heap} {o : Obj} (a : Frm base h h1) (n : New h1 h2 o) (hb : base ≤ h1.size) : Frm base h h2 :=
  a.trans ⟨by have := n.size; omega, fun k hk => n.other k (by omega), fun k c e hk _ _ => by rw [n.other k (lt_of_get hk)]; exact hk⟩
theorem Frm.wr {base : Nat} {h h1 h2 : Heap} {b o n : Nat} {v : Value} {e : TypeId} (a : Frm base h h1) (w : Wr h1 h2 b o v) (hb : base ≤ b) (bk : Blk h1 b n e) (he : e = 54 ∨ e = 52) : Frm base h h2 := by
  refine a.trans ⟨by have := w.size; omega, fun k hk => w.other k (by omega), fun k c f hk h5 h2 => ?_⟩
  rw [w.other k]
  · exact hk
  · rintro rfl
    obtain ⟨d, h3, _⟩ := bk
    rw [h3] at hk
    simp at hk
    obtain ⟨_, rfl⟩ := hk
    exact he.elim h5 h2
theorem Frm.updM {base : Nat} {h h1 h2 : Heap} {b : Nat} {L L0 : List ((Int × Int) × Value)} (a : Frm base h h1) (u : UpdM keyV h1 h2 b L) (hb : base ≤ b) (hm : MapAt keyV h1 b L0) : Frm base h h2 := by
  refine a.trans ⟨by have := u.size; omega, fun k hk => u.other k (by omega), fun k c f hk h5 h2 => ?_⟩
  rw [u.other k]
  · exact hk
  · rintro rfl
    obtain ⟨es, cl, h3, _⟩ := hm
    rw [h3] at hk
    simp at hk
theorem Frm.toLow {base : Nat} {h h' : Heap} (a : Frm base h h') : Low base h h' := ⟨a.size, a.low⟩

/-- A row of n bytes. -/
def Byt (h : Heap) (b n : Nat) : Prop := ∃ c : Array Value, h[b]? = some (.cells c 5 (0, 0)) ∧ c.size = n ∧ ∀ j, j < n → ∃ z : Nat, c[j]? = some (.int .u8 (z : Int)) ∧ z < 256
theorem Byt.frm {base : Nat} {h h' : Heap} {b n : Nat} (x : Byt h b n) (f : Frm base h h') : Byt h' b n := by
  obtain ⟨c, h1, h2, h3⟩ := x
  exact ⟨c, f.keep b c 5 h1 (by decide) (by decide), h2, h3⟩

/-- A node. -/
structure Nd (h : Heap) (base : Nat) (e : Ent) : Prop where
  blk : Blk h e.nb 5 52
  id : hc h e.nb 0 = some (.int .u64 e.id)
  off : hc h e.nb 1 = some (.int .i64 e.off)
  row : hc h e.nb 2 = some e.blk
  byt : Byt h e.bb e.len
  low : base ≤ e.nb
/-- The cache and its one shard. -/
structure Sh (h : Heap) (base cb sb mb : Nat) (cap lk sz : Int) (L : List ((Int × Int) × Value)) : Prop where
  cch : h[cb]? = some (.cells #[.slice (some ⟨sb, 0, none⟩) 1 1] 58 (0, 0))
  blk : Blk h sb 10 54
  lck : hc h sb 0 = some (.int .i32 lk)
  cap : hc h sb 2 = some (.int .i64 cap)
  siz : hc h sb 3 = some (.int .i64 sz)
  mpc : hc h sb 4 = some (.map (some mb))
  mp : MapAt keyV h mb L
  low : base ≤ sb ∧ base ≤ mb
/-- A cell that links. -/
def Link (h : Heap) (base sb b o : Nat) : Prop := base ≤ b ∧ ((b = sb ∧ 5 ≤ o) ∨ (Blk h b 5 52 ∧ 3 ≤ o))

theorem Blk.map_ne {h : Heap} {b n mb : Nat} {e : TypeId} {L : List ((Int × Int) × Value)} (hb : Blk h b n e) (hm : MapAt keyV h mb L) : mb ≠ b := by
  rintro rfl
  obtain ⟨c, h1, _⟩ := hb
  obtain ⟨es, cl, h2, _⟩ := hm
  rw [h1] at h2; simp at h2
theorem Sh.cblk {h : Heap} {base cb sb mb : Nat} {cap lk sz : Int} {L : List ((Int × Int) × Value)} (s : Sh h base cb sb mb cap lk sz L) : Blk h cb 1 58 := ⟨_, s.cch, rfl⟩
theorem Sh.c0 {h : Heap} {base cb sb mb : Nat} {cap lk sz : Int} {L : List ((Int × Int) × Value)} (s : Sh h base cb sb mb cap lk sz L) : hc h cb 0 = some (.slice (some ⟨sb, 0, none⟩) 1 1) := by rw [hc_of s.cch]; rfl

section
variable {h h' : Heap} {base cb sb mb : Nat} {cap lk sz : Int} {L : List ((Int × Int) × Value)} {b o : Nat} {v : Value}
theorem Link.blk {e : Nat} (s : Sh h base cb sb mb cap lk sz L) (hl : Link h base sb b o) : ∃ n e, Blk h b n e ∧ (e = 54 ∨ e = 52) := by
  rcases hl.2 with ⟨rfl, _⟩ | ⟨hb, _⟩
  · exact ⟨_, _, s.blk, .inl rfl⟩
  · exact ⟨_, _, hb, .inr rfl⟩
theorem Sh.wr (s : Sh h base cb sb mb cap lk sz L) (w : Wr h h' b o v) (hl : Link h base sb b o) : Sh h' base cb sb mb cap lk sz L := by
  obtain ⟨n, e, bk, he⟩ := Link.blk (e := 0) s hl
  have hcb : cb ≠ b := s.cblk.ne bk (by rcases he with rfl | rfl <;> decide)
  have hcell : ∀ o', o' < 5 → ¬ (sb = b ∧ o' = o) := by
    rintro o' ho ⟨rfl, rfl⟩
    rcases hl.2 with ⟨_, h5⟩ | ⟨hb, _⟩
    · omega
    · exact s.blk.ne hb (by decide) rfl
  refine ⟨by rw [w.other cb hcb]; exact s.cch, w.blk _ _ _ s.blk, w.cell' (hcell 0 (by omega)) s.lck, w.cell' (hcell 2 (by omega)) s.cap, w.cell' (hcell 3 (by omega)) s.siz, w.cell' (hcell 4 (by omega)) s.mpc, s.mp.keep (w.other mb (bk.map_ne s.mp)), s.low⟩
theorem Nd.wr {e : Ent} (x : Nd h base e) (s : Sh h base cb sb mb cap lk sz L) (w : Wr h h' b o v) (hl : Link h base sb b o) : Nd h' base e := by
  have hcell : ∀ o', o' < 3 → ¬ (e.nb = b ∧ o' = o) := by
    rintro o' ho ⟨rfl, rfl⟩
    rcases hl.2 with ⟨e1, _⟩ | ⟨_, h3⟩
    · exact x.blk.ne s.blk (by decide) e1
    · omega
  obtain ⟨n, f, bk, he⟩ := Link.blk (e := 0) s hl
  have f0 : Frm base h h' := (Frm.refl _ _).wr w hl.1 bk he
  exact ⟨w.blk _ _ _ x.blk, w.cell' (hcell 0 (by omega)) x.id, w.cell' (hcell 1 (by omega)) x.off, w.cell' (hcell 2 (by omega)) x.row, x.byt.frm f0, x.low⟩
theorem Link.wr {b' o' : Nat} (hl : Link h base sb b' o') (w : Wr h h' b o v) : Link h' base sb b' o' :=
  ⟨hl.1, hl.2.imp id (fun ⟨x, y⟩ => ⟨w.blk _ _ _ x, y⟩)⟩
theorem Sh.frm (s : Sh h base cb sb mb cap lk sz L) (w : Wr h h' b o v) (hl : Link h base sb b o) : Frm base h h' := by
  obtain ⟨n, e, bk, he⟩ := Link.blk (e := 0) s hl
  exact (Frm.refl _ _).wr w hl.1 bk he

/-! a cell of the shard's own -/
theorem Sh.lock {lk' : Int} (s : Sh h base cb sb mb cap lk sz L) (w : Wr h h' sb 0 (.int .i32 lk')) : Sh h' base cb sb mb cap lk' sz L :=
  ⟨by rw [w.other cb (s.cblk.ne s.blk (by decide))]; exact s.cch, w.blk _ _ _ s.blk, w.at_, w.cell' (by simp) s.cap, w.cell' (by simp) s.siz, w.cell' (by simp) s.mpc, s.mp.keep (w.other mb (s.blk.map_ne s.mp)), s.low⟩
theorem Sh.size {sz' : Int} (s : Sh h base cb sb mb cap lk sz L) (w : Wr h h' sb 3 (.int .i64 sz')) : Sh h' base cb sb mb cap lk sz' L :=
  ⟨by rw [w.other cb (s.cblk.ne s.blk (by decide))]; exact s.cch, w.blk _ _ _ s.blk, w.cell' (by simp) s.lck, w.cell' (by simp) s.cap, w.at_, w.cell' (by simp) s.mpc, s.mp.keep (w.other mb (s.blk.map_ne s.mp)), s.low⟩
theorem Nd.own {e : Ent} (x : Nd h base e) (s : Sh h base cb sb mb cap lk sz L) (w : Wr h h' sb o v) : Nd h' base e := by
  have hne := x.blk.ne s.blk (by decide)
  have f0 : Frm base h h' := (Frm.refl _ _).wr w s.low.1 s.blk (.inl rfl)
  exact ⟨w.blk _ _ _ x.blk, w.cell' (by simp [hne]) x.id, w.cell' (by simp [hne]) x.off, w.cell' (by simp [hne]) x.row, x.byt.frm f0, x.low⟩
theorem Ring.own {n : Nat} {E : Nat → Ent} (r : Ring h sb n E) (nd : ∀ i, i < n → (E i).nb ≠ sb) (w : Wr h h' sb o v) (ho : o < 5) : Ring h' sb n E := by
  have hcell : ∀ i d, ¬ ((adr sb n E i).1 = sb ∧ (adr sb n E i).2 + d = o) := fun i d ⟨e1, e2⟩ => by
    unfold adr at e1 e2
    split at e1
    · exact nd _ (by omega) e1
    · rename_i hx; rw [if_neg hx] at e2; simp at e2; omega
  exact ⟨fun i hi => w.cell' (hcell i 4) (r.nx i hi), fun i hi => w.cell' (hcell (i + 1) 3) (r.pv i hi)⟩

/-! the map is turned -/
theorem UpdM.blk {L' : List ((Int × Int) × Value)} (u : UpdM keyV h h' mb L') (hm : MapAt keyV h mb L) {b n : Nat} {e : TypeId} (hb : Blk h b n e) : Blk h' b n e := hb.keep (u.other b (fun e => hb.map_ne hm e.symm))
theorem UpdM.cell {L' : List ((Int × Int) × Value)} (u : UpdM keyV h h' mb L') (hm : MapAt keyV h mb L) {b o : Nat} {v : Value} (hv : hc h b o = some v) : hc h' b o = some v := by
  rw [hc_congr (u.other b ?_)]
  · exact hv
  · rintro rfl
    obtain ⟨es, cl, h2, _⟩ := hm
    simp [hc, h2] at hv
theorem Sh.updM {L' : List ((Int × Int) × Value)} (s : Sh h base cb sb mb cap lk sz L) (u : UpdM keyV h h' mb L') : Sh h' base cb sb mb cap lk sz L' :=
  ⟨by rw [u.other cb (fun e => s.cblk.map_ne s.mp e.symm)]; exact s.cch, UpdM.blk u s.mp s.blk, UpdM.cell u s.mp s.lck, UpdM.cell u s.mp s.cap, UpdM.cell u s.mp s.siz, UpdM.cell u s.mp s.mpc, u.at_, s.low⟩
theorem Nd.updM {L' : List ((Int × Int) × Value)} {e : Ent} (x : Nd h base e) (s : Sh h base cb sb mb cap lk sz L) (u : UpdM keyV h h' mb L') : Nd h' base e :=
  ⟨UpdM.blk u s.mp x.blk, UpdM.cell u s.mp x.id, UpdM.cell u s.mp x.off, UpdM.cell u s.mp x.row, x.byt.frm ((Frm.refl _ _).updM u s.low.2 s.mp), x.low⟩
theorem Ring.updM {L' : List ((Int × Int) × Value)} {n : Nat} {E : Nat → Ent} (r : Ring h sb n E) (s : Sh h base cb sb mb cap lk sz L) (u : UpdM keyV h h' mb L') : Ring h' sb n E :=
  ⟨fun i hi => UpdM.cell u s.mp (r.nx i hi), fun i hi => UpdM.cell u s.mp (r.pv i hi)⟩

/-! new blocks, and what others turn -/
structure Kp (h h' : Heap) : Prop where
  size : h.size ≤ h'.size
  same : ∀ k, k < h.size → h'[k]? = h[k]?
theorem Kp.refl (h : Heap) : Kp h h := ⟨Nat.le_refl _, fun _ _ => rfl⟩
theorem Kp.trans {h h1 h2 : Heap} (a : Kp h h1) (b : Kp h1 h2) : Kp h h2 := ⟨Nat.le_trans a.size b.size, fun k hk => (b.same k (Nat.lt_of_lt_of_le hk a.size)).trans (a.same k hk)⟩
theorem Kp.of {o : Obj} (n : New h h' o) : Kp h h' := ⟨by have := n.size; omega, n.other⟩
theorem Kp.low (a : Low h.size h h') : Kp h h' := ⟨a.size, a.same⟩
theorem Kp.frm (a : Kp h h') (hb : base ≤ h.size) : Frm base h h' := ⟨a.size, fun k hk => a.same k (by omega), fun k c e hk _ _ => by rw [a.same k (lt_of_get hk)]; exact hk⟩
theorem Kp.cell (a : Kp h h') {b o : Nat} {v : Value} (hv : hc h b o = some v) : hc h' b o = some v := by rw [hc_congr (a.same b (lt_of_hc hv))]; exact hv
theorem Kp.blk (a : Kp h h') {b n : Nat} {e : TypeId} (hb : Blk h b n e) : Blk h' b n e := hb.keep (a.same b hb.lt)
theorem Sh.kp (s : Sh h base cb sb mb cap lk sz L) (a : Kp h h') : Sh h' base cb sb mb cap lk sz L :=
  ⟨by rw [a.same cb (lt_of_get s.cch)]; exact s.cch, a.blk s.blk, a.cell s.lck, a.cell s.cap, a.cell s.siz, a.cell s.mpc, s.mp.keep (a.same mb s.mp.lt), s.low⟩
theorem Byt.kp {b n : Nat} (x : Byt h b n) (a : Kp h h') : Byt h' b n := by
  obtain ⟨c, h1, h2, h3⟩ := x; exact ⟨c, by rw [a.same b (lt_of_get h1)]; exact h1, h2, h3⟩
theorem Nd.kp {e : Ent} (x : Nd h base e) (a : Kp h h') : Nd h' base e := ⟨a.blk x.blk, a.cell x.id, a.cell x.off, a.cell x.row, x.byt.kp a, x.low⟩
theorem Ring.kp {n : Nat} {E : Nat → Ent} (r : Ring h sb n E) (a : Kp h h') : Ring h' sb n E := ⟨fun i hi => a.cell (r.nx i hi), fun i hi => a.cell (r.pv i hi)⟩
end

/-- The nodes, and what the map says of them. -/
structure Nods (h : Heap) (base n : Nat) (E : Nat → Ent) : Prop where
  nd : ∀ i, i < n → Nd h base (E i)
  key : ∀ i k, i < n → k < n → (E i).key = (E k).key → i = k
def MapOf (L : List ((Int × Int) × Value)) (n : Nat) (E : Nat → Ent) : Prop :=
  KeysND L ∧ (∀ i, i < n → getM L (E i).key = some (ptr ((E i).nb, 0))) ∧ ∀ k, (∀ i, i < n → (E i).key ≠ k) → getM L k = none
def sumL : Nat → (Nat → Ent) → Nat
  | 0, _ => 0
  | n + 1, E => sumL n E + (E n).len

theorem Nods.apart {h : Heap} {base cb sb mb n : Nat} {cap lk sz : Int} {L : List ((Int × Int) × Value)} {E : Nat → Ent} (x : Nods h base n E) (s : Sh h base cb sb mb cap lk sz L) : Apart sb n E := by
  refine ⟨fun i k hi hk e => x.key i k hi hk ?_, fun i hi => (x.nd i hi).blk.ne s.blk (by decide)⟩
  have a := x.nd i hi
  have b := x.nd k hk
  have e1 := a.id.symm.trans (e ▸ b.id)
  have e2 := a.off.symm.trans (e ▸ b.off)
  simp at e1 e2
  exact Prod.ext e1 e2
end Go.Proofs.Ybulkdire
