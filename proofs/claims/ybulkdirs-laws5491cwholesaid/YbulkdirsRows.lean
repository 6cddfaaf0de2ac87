/-
  No cell of these rows narrows 'for every input' (looked for: loops, veiled, ifaces, maps, wideKeys, modest, calm, conditions, laid).
  DERIVED. THE GIVEN ROWS OF THIS SEAT. 1 by the template 'for every input the law returns true; each argument reads behind the call as it read before'; 0 by the template 'total and deterministic' (their statements: YbulkdirsTotals.lean).
  GIVEN WITH THE SEED: the statements are not yours to turn. If you find one false, say at which input.
  Laid BY PROGRAM, IN A SANDBOX (cutbox-rows.mjs): the forced cells as the released guide's own fill.sh prints them over the translation de2a6653b24bbef3… (all of the seat's roots in one cut). By AI agents, Wed Nov 11 2026. No macro, syntax, notation, axiom, sorry.
-/
import Derived.Test.YbulkdirsChecked
import GoSem.Claim
import GoSem.ClaimJoined
import GoSem.ClaimMapViews
import Derived.JoinedTies
import Derived.KernelRfl
namespace Go.Proofs.Ybulkdirs
/- THE CELL 'sum', in the pinned program and in every row, IS THE sha256 OF THE DUMP (.gsa) THAT YbulkdirsProg.lean LOADS. Nothing in Lean hashes anything: it is a label: what it is worth is what the hold of that sum in a sandbox is worth. -/
noncomputable def Yba.pinned : Pinned := { name := "ybulkdirs", sum := "de2a6653b24bbef32f4ae851f677f9cb7575eb50a77be5112b77e755a7d7a859", checked := Yba.checked }
namespace Rows
def none {H : Type} : Left H := { results := [], args := [] }

/-- 'roster.LawS5491CWhole': WHATEVER THE INPUT: true; the input reads as it did. -/
def lawS5491CWholeSpec : ChangeSpec := { name := "lawS5491CWhole", fn := fun _ => fun
  | [d] => { results := [.lit (.bool true)], args := [d] }
  | _ => none }
def lawS5491CWholeRow : OpenClaim := { program := "ybulkdirs", sum := "de2a6653b24bbef32f4ae851f677f9cb7575eb50a77be5112b77e755a7d7a859", func := "example.com/jiesuo/jiesuo/roster.LawS5491CWhole", spec := "lawS5491CWhole", inPlace := ["math/big.addVV", "math/bits.Add64", "math/big.subVV", "math/bits.Sub64", "math/big.lshVU"], recurses := true, apart := false }
def LawS5491CWholeSaid : Prop := lawS5491CWholeRow.holds Yba.pinned (OpenSpec.ofChange lawS5491CWholeSpec)

/-- ITS FALSE NEIGHBOUR: 'it returns false'. Refute it at one input. -/
def lawS5491CWholeWrong : ChangeSpec := { name := "lawS5491CWhole", fn := fun _ => fun
  | [d] => { results := [.lit (.bool false)], args := [d] }
  | _ => none }
def LawS5491CWholeWrongFalsely : Prop := lawS5491CWholeRow.holds Yba.pinned (OpenSpec.ofChange lawS5491CWholeWrong)

end Rows
end Go.Proofs.Ybulkdirs
