/-
  C11p: bytes.Equal at one slice twice.
-/
import Derived.Test.YbulkdireC10
import Derived.Laws.BytesString
namespace Go.Proofs.Ybulkdire
set_option linter.unusedSimpArgs false
set_option linter.unusedVariables false
set_option linter.unnecessarySimpa false
open Go Go.RowKit V
set_option maxRecDepth 100000

theorem bytes_str {h : Heap} {bb len : Nat} (hby : Byt h bb len) : ∃ s : ByteArray, ∀ (ty : TypeId) (l : Env) (x : Operand), ev l x = some (.slice (some ⟨bb, 0, none⟩) len len) → Pur Yba.prog (.convert 25 9 x) ty l h (.string s) := by
  obtain ⟨c, hb, hs, hz⟩ := hby
  have : ∃ ns : List Int, ns.length = len ∧ ∀ j, j < len → c[j]? = (ns.map (Value.int .u8))[j]? := by
    refine ⟨(List.range len).map fun j => if hj : j < len then ((hz j hj).choose : Int) else 0, by simp, fun j hj => ?_⟩
    rw [(hz j hj).choose_spec.1]
    simp [hj]
  obtain ⟨ns, hl, hns⟩ := this
  refine ⟨ns.foldl (fun r n => r.push (UInt8.ofNat n.toNat)) ByteArray.empty, fun ty l x hx => ⟨fun ρ w d p af g hρ hw => ?_⟩⟩
  subst hw
  have hld := run_loadCells_list (P := Yba.prog) w ⟨bb, 0, none⟩ (ns.map (Value.int .u8)) (fun j v hj => by
    have hlt : j < len := by
      have := (List.getElem?_eq_some_iff.1 hj).1
      simpa [hl] using this
    rw [add_none, cell_hc, hc_of hb, Nat.zero_add, hns j hlt]; exact hj)
  simp only [List.length_map, hl] at hld
  have hr := run_convert_bytes_string (P := Yba.prog) w 25 9 5 (some ⟨bb, 0, none⟩) len len Yba.underlying25 Yba.underlying5 Yba.underlying9
  rw [run_bytesToString (P := Yba.prog) w ⟨bb, 0, none⟩ len len ns hld] at hr
  simp [execOp, hρ _ _ hx, hr]

theorem p_seql {P : Program} {l : Env} {h : Heap} {ty : TypeId} {x y : Operand} {t t2 : TypeId} {s : ByteArray} (hx : ev l x = some (.string s)) (hy : ev l y = some (.string s)) : Pur P (.binOp .eql t x y t2) ty l h (.bool true) := by
  refine ⟨fun ρ w d p af g hρ hw => ?_⟩
  simp [execOp, hρ _ _ hx, hρ _ _ hy, eqGuard, binOp, Op.stringOp]

theorem bequal_ok (h : Heap) (bb len : Nat) (hby : Byt h bb len) :
    CallsH Yba.prog 15 #[.slice (some ⟨bb, 0, none⟩) len len, .slice (some ⟨bb, 0, none⟩) len len] h (fun u h' => u = .bool true ∧ h' = h) := by
  refine calls_of (N := 10) [(0, .slice (some ⟨bb, 0, none⟩) len len), (1, .slice (some ⟨bb, 0, none⟩) len len)] Yba.func15 rfl rfl (by simp) (by repeat (first | exact ArgsAre.nil | refine ArgsAre.cons rfl ?_)) ?_
  intro w0 _
  obtain ⟨s, hstr⟩ := bytes_str hby
  repeat (first | refine c_seq ?_ | refine c_region ?_ | refine c_block ?_ | refine c_skip ?_ | refine c_exit ?_ | refine c_ret ?_ | refine n_then ?_ | refine n_block ?_ | refine x_then ?_ | refine x_block_eq ?_ | refine x_block_ne rfl ?_ | refine r_then ?_ | refine r_block ?_ | refine s_nil ?_ | refine c_true rfl ?_ | refine c_false rfl ?_ | refine s_pur (p_move rfl) rfl ?_ | refine s_pur (p_assign rfl) rfl ?_ | refine s_pur (p_nil rfl) rfl ?_ | refine s_pur (p_pick_t rfl rfl) rfl ?_ | refine s_pur (p_pick_f rfl rfl) rfl ?_ | refine s_pur (hstr _ _ _ rfl) rfl ?_ | refine s_pur (p_seql rfl rfl) rfl ?_)
  exact ret1 Yba.results15 rfl ⟨rfl, rfl⟩
end Go.Proofs.Ybulkdire
