/-
  No cell of these rows narrows 'for every input' (looked for: loops, veiled, ifaces, maps, wideKeys, modest, calm, conditions, laid).
  DERIVED. THE GIVEN ROWS OF THIS SEAT. 1 by the template 'for every input the law returns true; each argument reads behind the call as it read before'; 0 by the template 'total and deterministic' (their statements: YbulkdmrcTotals.lean).
  GIVEN WITH THE SEED: the statements are not yours to turn. If you find one false, say at which input.
  Laid BY PROGRAM, IN A SANDBOX (cutbox-rows.mjs): the forced cells as the released guide's own fill.sh prints them over the translation f212408a65fc66bf… (all of the seat's roots in one cut). By AI agents, Wed Nov 11 2026. No macro, syntax, notation, axiom, sorry.
-/
import Derived.Test.YbulkdmrcChecked
import GoSem.Claim
import GoSem.ClaimJoined
import GoSem.ClaimMapViews
import Derived.JoinedTies
import Derived.KernelRfl
namespace Go.Proofs.Ybulkdmrc
/- THE CELL 'sum', in the pinned program and in every row, IS THE sha256 OF THE DUMP (.gsa) THAT YbulkdmrcProg.lean LOADS. Nothing in Lean hashes anything: it is a label: what it is worth is what the hold of that sum in a sandbox is worth. -/
noncomputable def Yba.pinned : Pinned := { name := "ybulkdmrc", sum := "f212408a65fc66bffa12c4df7b4afaac9070d1af8fece949ee79568f1dbcab55", checked := Yba.checked }
namespace Rows
def none {H : Type} : Left H := { results := [], args := [] }

/-- 'notation.LawS5683BWhole': WHATEVER THE INPUT: true; the input reads as it did. -/
def lawS5683BWholeSpec : ChangeSpec := { name := "lawS5683BWhole", fn := fun _ => fun
  | [d] => { results := [.lit (.bool true)], args := [d] }
  | _ => none }
def lawS5683BWholeRow : OpenClaim := { program := "ybulkdmrc", sum := "f212408a65fc66bffa12c4df7b4afaac9070d1af8fece949ee79568f1dbcab55", func := "example.com/wireloom/wireloom/notation.LawS5683BWhole", spec := "lawS5683BWhole", apart := false }
def LawS5683BWholeSaid : Prop := lawS5683BWholeRow.holds Yba.pinned (OpenSpec.ofChange lawS5683BWholeSpec)

/-- ITS FALSE NEIGHBOUR: 'it returns false'. Refute it at one input. -/
def lawS5683BWholeWrong : ChangeSpec := { name := "lawS5683BWhole", fn := fun _ => fun
  | [d] => { results := [.lit (.bool false)], args := [d] }
  | _ => none }
def LawS5683BWholeWrongFalsely : Prop := lawS5683BWholeRow.holds Yba.pinned (OpenSpec.ofChange lawS5683BWholeWrong)

end Rows
end Go.Proofs.Ybulkdmrc
