/-
  No cell of these rows narrows 'for every input' (looked for: loops, veiled, ifaces, maps, wideKeys, modest, calm, conditions, laid).
  DERIVED. THE GIVEN ROWS OF THIS SEAT. 1 by the template 'for every input the law returns true; each argument reads behind the call as it read before'; 0 by the template 'total and deterministic' (their statements: YbulkdisgTotals.lean).
  GIVEN WITH THE SEED: the statements are not yours to turn. If you find one false, say at which input.
  Laid BY PROGRAM, IN A SANDBOX (cutbox-rows.mjs): the forced cells as the released guide's own fill.sh prints them over the translation c71a1ce963b64eb1… (all of the seat's roots in one cut). By AI agents, Wed Nov 11 2026. No macro, syntax, notation, axiom, sorry.
-/
import Derived.Test.YbulkdisgChecked
import GoSem.Claim
import GoSem.ClaimJoined
import GoSem.ClaimMapViews
import Derived.JoinedTies
import Derived.KernelRfl
namespace Go.Proofs.Ybulkdisg
/- THE CELL 'sum', in the pinned program and in every row, IS THE sha256 OF THE DUMP (.gsa) THAT YbulkdisgProg.lean LOADS. Nothing in Lean hashes anything: it is a label: what it is worth is what the hold of that sum in a sandbox is worth. -/
noncomputable def Yba.pinned : Pinned := { name := "ybulkdisg", sum := "c71a1ce963b64eb15b1418b0ea41c68173130345ff6433eb89ca260a4c7e75c7", checked := Yba.checked }
namespace Rows
def none {H : Type} : Left H := { results := [], args := [] }

/-- 'link.LawS5492CWhole': WHATEVER THE INPUT: true; the input reads as it did. -/
def lawS5492CWholeSpec : ChangeSpec := { name := "lawS5492CWhole", fn := fun _ => fun
  | [d1, d2] => { results := [.lit (.bool true)], args := [d1, d2] }
  | _ => none }
def lawS5492CWholeRow : OpenClaim := { program := "ybulkdisg", sum := "c71a1ce963b64eb15b1418b0ea41c68173130345ff6433eb89ca260a4c7e75c7", func := "example.com/tercile/tercile/link.LawS5492CWhole", spec := "lawS5492CWhole", plainKeys := false, apart := false }
def LawS5492CWholeSaid : Prop := lawS5492CWholeRow.holds Yba.pinned (OpenSpec.ofChange lawS5492CWholeSpec)

/-- ITS FALSE NEIGHBOUR: 'it returns false'. Refute it at one input. -/
def lawS5492CWholeWrong : ChangeSpec := { name := "lawS5492CWhole", fn := fun _ => fun
  | [d1, d2] => { results := [.lit (.bool false)], args := [d1, d2] }
  | _ => none }
def LawS5492CWholeWrongFalsely : Prop := lawS5492CWholeRow.holds Yba.pinned (OpenSpec.ofChange lawS5492CWholeWrong)

end Rows
end Go.Proofs.Ybulkdisg
