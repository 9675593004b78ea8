/-
  No cell of these rows narrows 'for every input' (looked for: loops, veiled, ifaces, maps, wideKeys, modest, calm, conditions, laid).
  DERIVED. THE GIVEN ROWS OF THIS SEAT. 1 by the template 'for every input the law returns true; each argument reads behind the call as it read before'; 0 by the template 'total and deterministic' (their statements: YbulkdmoyTotals.lean).
  GIVEN WITH THE SEED: the statements are not yours to turn. If you find one false, say at which input.
  Laid BY PROGRAM, IN A SANDBOX (cutbox-rows.mjs): the forced cells as the released guide's own fill.sh prints them over the translation cc4c900bf2e32ea8… (all of the seat's roots in one cut). By AI agents, Wed Nov 11 2026. No macro, syntax, notation, axiom, sorry.
-/
import Derived.Test.YbulkdmoyChecked
import GoSem.Claim
import GoSem.ClaimJoined
import GoSem.ClaimMapViews
import Derived.JoinedTies
import Derived.KernelRfl
namespace Go.Proofs.Ybulkdmoy
/- THE CELL 'sum', in the pinned program and in every row, IS THE sha256 OF THE DUMP (.gsa) THAT YbulkdmoyProg.lean LOADS. Nothing in Lean hashes anything: it is a label: what it is worth is what the hold of that sum in a sandbox is worth. -/
noncomputable def Yba.pinned : Pinned := { name := "ybulkdmoy", sum := "cc4c900bf2e32ea867149171778c2683a553d04548e3ab6ae34016316c8d5ed3", checked := Yba.checked }
namespace Rows
def none {H : Type} : Left H := { results := [], args := [] }

/-- 'mintwright.LawS5679BWhole': WHATEVER THE INPUT: true; the input reads as it did. -/
def lawS5679BWholeSpec : ChangeSpec := { name := "lawS5679BWhole", fn := fun _ => fun
  | [d1, d2, d3] => { results := [.lit (.bool true)], args := [d1, d2, d3] }
  | _ => none }
def lawS5679BWholeRow : OpenClaim := { program := "ybulkdmoy", sum := "cc4c900bf2e32ea867149171778c2683a553d04548e3ab6ae34016316c8d5ed3", func := "example.com/mintwright/mintwright.LawS5679BWhole", spec := "lawS5679BWhole", named := ["encoding/binary.LittleEndian"], apart := false }
def LawS5679BWholeSaid : Prop := lawS5679BWholeRow.holds Yba.pinned (OpenSpec.ofChange lawS5679BWholeSpec)

/-- ITS FALSE NEIGHBOUR: 'it returns false'. Refute it at one input. -/
def lawS5679BWholeWrong : ChangeSpec := { name := "lawS5679BWhole", fn := fun _ => fun
  | [d1, d2, d3] => { results := [.lit (.bool false)], args := [d1, d2, d3] }
  | _ => none }
def LawS5679BWholeWrongFalsely : Prop := lawS5679BWholeRow.holds Yba.pinned (OpenSpec.ofChange lawS5679BWholeWrong)

end Rows
end Go.Proofs.Ybulkdmoy
