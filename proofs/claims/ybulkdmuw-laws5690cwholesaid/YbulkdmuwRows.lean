/-
  No cell of these rows narrows 'for every input' (looked for: loops, veiled, ifaces, maps, wideKeys, modest, calm, conditions, laid).
  DERIVED. THE GIVEN ROWS OF THIS SEAT. 2 by the template 'for every input the law returns true; each argument reads behind the call as it read before'; 0 by the template 'total and deterministic' (their statements: YbulkdmuwTotals.lean).
  GIVEN WITH THE SEED: the statements are not yours to turn. If you find one false, say at which input.
  Laid BY PROGRAM, IN A SANDBOX (cutbox-rows.mjs): the forced cells as the released guide's own fill.sh prints them over the translation ada7623452095085… (all of the seat's roots in one cut). By AI agents, Wed Nov 11 2026. No macro, syntax, notation, axiom, sorry.
-/
import Derived.Test.YbulkdmuwChecked
import GoSem.Claim
import GoSem.ClaimJoined
import GoSem.ClaimMapViews
import Derived.JoinedTies
import Derived.KernelRfl
namespace Go.Proofs.Ybulkdmuw
/- THE CELL 'sum', in the pinned program and in every row, IS THE sha256 OF THE DUMP (.gsa) THAT YbulkdmuwProg.lean LOADS. Nothing in Lean hashes anything: it is a label: what it is worth is what the hold of that sum in a sandbox is worth. -/
noncomputable def Yba.pinned : Pinned := { name := "ybulkdmuw", sum := "ada76234520950853b92d7fa723fcf625e6794aebfdb03ae8c471aecbd4589fe", checked := Yba.checked }
namespace Rows
def none {H : Type} : Left H := { results := [], args := [] }

/-- 'kindred.LawS5690AWhole': WHATEVER THE INPUT: true; the input reads as it did. -/
def lawS5690AWholeSpec : ChangeSpec := { name := "lawS5690AWhole", fn := fun _ => fun
  | [d1, d2] => { results := [.lit (.bool true)], args := [d1, d2] }
  | _ => none }
def lawS5690AWholeRow : OpenClaim := { program := "ybulkdmuw", sum := "ada76234520950853b92d7fa723fcf625e6794aebfdb03ae8c471aecbd4589fe", func := "example.com/kindred/kindred.LawS5690AWhole", spec := "lawS5690AWhole", apart := false }
def LawS5690AWholeSaid : Prop := lawS5690AWholeRow.holds Yba.pinned (OpenSpec.ofChange lawS5690AWholeSpec)

/-- ITS FALSE NEIGHBOUR: 'it returns false'. Refute it at one input. -/
def lawS5690AWholeWrong : ChangeSpec := { name := "lawS5690AWhole", fn := fun _ => fun
  | [d1, d2] => { results := [.lit (.bool false)], args := [d1, d2] }
  | _ => none }
def LawS5690AWholeWrongFalsely : Prop := lawS5690AWholeRow.holds Yba.pinned (OpenSpec.ofChange lawS5690AWholeWrong)

/-- 'kindred.LawS5690CWhole': WHATEVER THE INPUT: true; the input reads as it did. -/
def lawS5690CWholeSpec : ChangeSpec := { name := "lawS5690CWhole", fn := fun _ => fun
  | [d1, d2] => { results := [.lit (.bool true)], args := [d1, d2] }
  | _ => none }
def lawS5690CWholeRow : OpenClaim := { program := "ybulkdmuw", sum := "ada76234520950853b92d7fa723fcf625e6794aebfdb03ae8c471aecbd4589fe", func := "example.com/kindred/kindred.LawS5690CWhole", spec := "lawS5690CWhole", apart := false }
def LawS5690CWholeSaid : Prop := lawS5690CWholeRow.holds Yba.pinned (OpenSpec.ofChange lawS5690CWholeSpec)

/-- ITS FALSE NEIGHBOUR: 'it returns false'. Refute it at one input. -/
def lawS5690CWholeWrong : ChangeSpec := { name := "lawS5690CWhole", fn := fun _ => fun
  | [d1, d2] => { results := [.lit (.bool false)], args := [d1, d2] }
  | _ => none }
def LawS5690CWholeWrongFalsely : Prop := lawS5690CWholeRow.holds Yba.pinned (OpenSpec.ofChange lawS5690CWholeWrong)

end Rows
end Go.Proofs.Ybulkdmuw
