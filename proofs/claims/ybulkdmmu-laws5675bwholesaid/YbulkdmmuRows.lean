/-
  No cell of these rows narrows 'for every input' (looked for: loops, veiled, ifaces, maps, wideKeys, modest, calm, conditions, laid).
  DERIVED. THE GIVEN ROWS OF THIS SEAT. 1 by the template 'for every input the law returns true; each argument reads behind the call as it read before'; 0 by the template 'total and deterministic' (their statements: YbulkdmmuTotals.lean).
  GIVEN WITH THE SEED: the statements are not yours to turn. If you find one false, say at which input.
  Laid BY PROGRAM, IN A SANDBOX (cutbox-rows.mjs): the forced cells as the released guide's own fill.sh prints them over the translation 426106001595b79e… (all of the seat's roots in one cut). By AI agents, Wed Nov 11 2026. No macro, syntax, notation, axiom, sorry.
-/
import Derived.Test.YbulkdmmuChecked
import GoSem.Claim
import GoSem.ClaimJoined
import GoSem.ClaimMapViews
import Derived.JoinedTies
import Derived.KernelRfl
namespace Go.Proofs.Ybulkdmmu
/- THE CELL 'sum', in the pinned program and in every row, IS THE sha256 OF THE DUMP (.gsa) THAT YbulkdmmuProg.lean LOADS. Nothing in Lean hashes anything: it is a label: what it is worth is what the hold of that sum in a sandbox is worth. -/
noncomputable def Yba.pinned : Pinned := { name := "ybulkdmmu", sum := "426106001595b79e5c2bf73298ec6596c0b17376f119f3916c776fc24b495e59", checked := Yba.checked }
namespace Rows
def none {H : Type} : Left H := { results := [], args := [] }

/-- 'instant.LawS5675BWhole': WHATEVER THE INPUT: true; the input reads as it did. -/
def lawS5675BWholeSpec : ChangeSpec := { name := "lawS5675BWhole", fn := fun _ => fun
  | [d1, d2, d3, d4, d5, d6, d7, d8] => { results := [.lit (.bool true)], args := [d1, d2, d3, d4, d5, d6, d7, d8] }
  | _ => none }
def lawS5675BWholeRow : OpenClaim := { program := "ybulkdmmu", sum := "426106001595b79e5c2bf73298ec6596c0b17376f119f3916c776fc24b495e59", func := "example.com/termkeeper/termkeeper/pkg/instant.LawS5675BWhole", spec := "lawS5675BWhole", apart := false }
def LawS5675BWholeSaid : Prop := lawS5675BWholeRow.holds Yba.pinned (OpenSpec.ofChange lawS5675BWholeSpec)

/-- ITS FALSE NEIGHBOUR: 'it returns false'. Refute it at one input. -/
def lawS5675BWholeWrong : ChangeSpec := { name := "lawS5675BWhole", fn := fun _ => fun
  | [d1, d2, d3, d4, d5, d6, d7, d8] => { results := [.lit (.bool false)], args := [d1, d2, d3, d4, d5, d6, d7, d8] }
  | _ => none }
def LawS5675BWholeWrongFalsely : Prop := lawS5675BWholeRow.holds Yba.pinned (OpenSpec.ofChange lawS5675BWholeWrong)

end Rows
end Go.Proofs.Ybulkdmmu
