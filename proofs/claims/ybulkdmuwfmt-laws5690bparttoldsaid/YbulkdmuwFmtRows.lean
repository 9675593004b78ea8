/-
  No cell of these rows narrows 'for every input' (looked for: loops, veiled, ifaces, maps, wideKeys, modest, calm, conditions, laid).
  DERIVED. THE GIVEN ROWS OF THIS SEAT. 1 by the template 'for every input the law returns true; each argument reads behind the call as it read before'; 0 by the template 'total and deterministic' (their statements: YbulkdmuwFmtTotals.lean).
  GIVEN WITH THE SEED: the statements are not yours to turn. If you find one false, say at which input.
  Laid BY PROGRAM, IN A SANDBOX (cutbox-rows.mjs): the forced cells as the released guide's own fill.sh prints them over the translation 802f5e6cc2b12af4… (all of the seat's roots in one cut). By AI agents, Wed Nov 11 2026. No macro, syntax, notation, axiom, sorry.
-/
import Derived.Test.YbulkdmuwFmtChecked
import GoSem.Claim
import GoSem.ClaimJoined
import GoSem.ClaimMapViews
import Derived.JoinedTies
import Derived.KernelRfl
namespace Go.Proofs.YbulkdmuwFmt
/- THE CELL 'sum', in the pinned program and in every row, IS THE sha256 OF THE DUMP (.gsa) THAT YbulkdmuwFmtProg.lean LOADS. Nothing in Lean hashes anything: it is a label: what it is worth is what the hold of that sum in a sandbox is worth. -/
noncomputable def Ybaf.pinned : Pinned := { name := "ybulkdmuwfmt", sum := "802f5e6cc2b12af4eceeaf2a80e7a96d6fa55f35096333a81d2479bd6fd65a90", checked := Ybaf.checked }
namespace Rows
def none {H : Type} : Left H := { results := [], args := [] }

/-- 'kindred.LawS5690BPart': WHATEVER THE INPUT: true; the input reads as it did. -/
def lawS5690BPartSpec : ChangeSpec := { name := "lawS5690BPart", fn := fun _ => fun
  | [d] => { results := [.lit (.bool true)], args := [d] }
  | _ => none }
def lawS5690BPartRow : OpenClaim := { program := "ybulkdmuwfmt", sum := "802f5e6cc2b12af4eceeaf2a80e7a96d6fa55f35096333a81d2479bd6fd65a90", func := "example.com/kindred/kindred.LawS5690BPart", spec := "lawS5690BPart", stops := ["fmt.Sprintf, its operands' methods called"], inPlace := ["fmt.Sprintf"], unfollowed := true, recurses := true, apart := false }
/-- NO THEOREM (fmt's text is open here; it may be false): for the released tool's asking of the row's closed facts alone. THE STATEMENT IS 'LawS5690BPartToldSaid' (YbulkdmuwFmtCards.lean). -/
def LawS5690BPartFormAsk : Prop := lawS5690BPartRow.holds Ybaf.pinned (OpenSpec.ofChange lawS5690BPartSpec)

/-- ITS FALSE NEIGHBOUR: 'it returns false'. Refute it at one input. -/
def lawS5690BPartWrong : ChangeSpec := { name := "lawS5690BPart", fn := fun _ => fun
  | [d] => { results := [.lit (.bool false)], args := [d] }
  | _ => none }
def LawS5690BPartWrongFormAsk : Prop := lawS5690BPartRow.holds Ybaf.pinned (OpenSpec.ofChange lawS5690BPartWrong)

end Rows
end Go.Proofs.YbulkdmuwFmt
