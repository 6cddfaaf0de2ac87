/-
  No cell of these rows narrows 'for every input' (looked for: loops, veiled, ifaces, maps, wideKeys, modest, calm, conditions, laid).
  DERIVED. THE GIVEN ROWS OF THIS SEAT. 2 by the template 'for every input the law returns true; each argument reads behind the call as it read before'; 0 by the template 'total and deterministic' (their statements: YbulkdiqqTotals.lean).
  GIVEN WITH THE SEED: the statements are not yours to turn. If you find one false, say at which input.
  Laid BY PROGRAM, IN A SANDBOX (cutbox-rows.mjs): the forced cells as the released guide's own fill.sh prints them over the translation 12e7bd47621802cc… (all of the seat's roots in one cut). By AI agents, Wed Nov 11 2026. No macro, syntax, notation, axiom, sorry.
-/
import Derived.Test.YbulkdiqqChecked
import GoSem.Claim
import GoSem.ClaimJoined
import GoSem.ClaimMapViews
import Derived.JoinedTies
import Derived.KernelRfl
namespace Go.Proofs.Ybulkdiqq
/- THE CELL 'sum', in the pinned program and in every row, IS THE sha256 OF THE DUMP (.gsa) THAT YbulkdiqqProg.lean LOADS. Nothing in Lean hashes anything: it is a label: what it is worth is what the hold of that sum in a sandbox is worth. -/
noncomputable def Yba.pinned : Pinned := { name := "ybulkdiqq", sum := "12e7bd47621802cc6405a4fe009058c76eac86e50951a951a0e52f6db96f4be5", checked := Yba.checked }
namespace Rows
def none {H : Type} : Left H := { results := [], args := [] }

/-- 'scenario.LawS5489AWhole': WHATEVER THE INPUT: true; the input reads as it did. -/
def lawS5489AWholeSpec : ChangeSpec := { name := "lawS5489AWhole", fn := fun _ => fun
  | [d1, d2, d3, d4, d5, d6, d7, d8] => { results := [.lit (.bool true)], args := [d1, d2, d3, d4, d5, d6, d7, d8] }
  | _ => none }
def lawS5489AWholeRow : OpenClaim := { program := "ybulkdiqq", sum := "12e7bd47621802cc6405a4fe009058c76eac86e50951a951a0e52f6db96f4be5", func := "example.com/driftquorum/driftquorum/internal/scenario.LawS5489AWhole", spec := "lawS5489AWhole", unfollowed := true, recurses := true, plainKeys := false, apart := false }
def LawS5489AWholeSaid : Prop := lawS5489AWholeRow.holds Yba.pinned (OpenSpec.ofChange lawS5489AWholeSpec)

/-- ITS FALSE NEIGHBOUR: 'it returns false'. Refute it at one input. -/
def lawS5489AWholeWrong : ChangeSpec := { name := "lawS5489AWhole", fn := fun _ => fun
  | [d1, d2, d3, d4, d5, d6, d7, d8] => { results := [.lit (.bool false)], args := [d1, d2, d3, d4, d5, d6, d7, d8] }
  | _ => none }
def LawS5489AWholeWrongFalsely : Prop := lawS5489AWholeRow.holds Yba.pinned (OpenSpec.ofChange lawS5489AWholeWrong)

/-- 'sim.LawS5489CWhole': WHATEVER THE INPUT: true; the input reads as it did. -/
def lawS5489CWholeSpec : ChangeSpec := { name := "lawS5489CWhole", fn := fun _ => fun
  | [d1, d2, d3, d4, d5, d6, d7, d8, d9, d10, d11, d12] => { results := [.lit (.bool true)], args := [d1, d2, d3, d4, d5, d6, d7, d8, d9, d10, d11, d12] }
  | _ => none }
def lawS5489CWholeRow : OpenClaim := { program := "ybulkdiqq", sum := "12e7bd47621802cc6405a4fe009058c76eac86e50951a951a0e52f6db96f4be5", func := "example.com/driftquorum/driftquorum/internal/sim.LawS5489CWhole", spec := "lawS5489CWhole", unfollowed := true, recurses := true, named := ["encoding/binary.BigEndian"], plainKeys := false, apart := false }
def LawS5489CWholeSaid : Prop := lawS5489CWholeRow.holds Yba.pinned (OpenSpec.ofChange lawS5489CWholeSpec)

/-- ITS FALSE NEIGHBOUR: 'it returns false'. Refute it at one input. -/
def lawS5489CWholeWrong : ChangeSpec := { name := "lawS5489CWhole", fn := fun _ => fun
  | [d1, d2, d3, d4, d5, d6, d7, d8, d9, d10, d11, d12] => { results := [.lit (.bool false)], args := [d1, d2, d3, d4, d5, d6, d7, d8, d9, d10, d11, d12] }
  | _ => none }
def LawS5489CWholeWrongFalsely : Prop := lawS5489CWholeRow.holds Yba.pinned (OpenSpec.ofChange lawS5489CWholeWrong)

end Rows
end Go.Proofs.Ybulkdiqq
