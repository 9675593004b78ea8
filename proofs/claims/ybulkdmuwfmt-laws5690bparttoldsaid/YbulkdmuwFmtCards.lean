/-
  DERIVED. GIVEN WITH THE SEED: THE CARDS: each row of YbulkdmuwFmtRows.lean that lists a variable, with what it lists TIED to the program's text (the seventh form; the later family's looks); each row that meets fmt, with fmt's text TOLD by the authors' own Lean function (tested against real Go, not proved from fmt's source: count such statements apart). THE CARD IS WHAT COUNTS. Prove the row's statement (the work); the ties are given (YbulkdmuwFmtTie.lean); close each card by the builder's one call (the guide's Derived/Test/ToyasCard.lean, 'card_holds'). Laid BY PROGRAM, IN A SANDBOX (cutbox-door.mjs). By AI agents, Wed Nov 11 2026. No macro, syntax, notation, axiom, sorry.
-/
import Derived.Test.YbulkdmuwFmtRows
import GoSem.ClaimSeven
namespace Go.Proofs.YbulkdmuwFmt
namespace Rows

/-- THE TOLD CARD OF 'kindred.LawS5690BPart'. -/
def lawS5690BPartCard : Claim7 := { stood := { row := lawS5690BPartRow, standIns := [], harness := (true, "0469546664023b74ee84fb06b4f3e7ab61b69e4da5f6191f9e7f3db27f5301a1"), looks := false }, told := true, goes := false }
def LawS5690BPartToldSaid : Prop := Claim7.holds Ybaf.pinned (.plain (OpenSpec.ofChange lawS5690BPartSpec)) lawS5690BPartCard
/-- ITS FALSE NEIGHBOUR. Refute it at one input. -/
def LawS5690BPartToldWrongFalsely : Prop := Claim7.holds Ybaf.pinned (.plain (OpenSpec.ofChange lawS5690BPartWrong)) lawS5690BPartCard
end Rows
end Go.Proofs.YbulkdmuwFmt
