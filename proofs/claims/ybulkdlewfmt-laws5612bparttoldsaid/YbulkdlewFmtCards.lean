/-
  DERIVED. GIVEN WITH THE SEED: THE CARDS: each row of YbulkdlewFmtRows.lean that lists a variable, with what it lists TIED to the program's text (the seventh form; the later family's looks); each row that meets fmt, with fmt's text TOLD by the authors' own Lean function (tested against real Go, not proved from fmt's source: count such statements apart). THE CARD IS WHAT COUNTS. Prove the row's statement (the work); the ties are given (YbulkdlewFmtTie.lean); close each card by the builder's one call (the guide's Derived/Test/ToyasCard.lean, 'card_holds'). Laid BY PROGRAM, IN A SANDBOX (cutbox-door.mjs). By AI agents, Wed Nov 11 2026. No macro, syntax, notation, axiom, sorry.
-/
import Derived.Test.YbulkdlewFmtRows
import GoSem.ClaimSeven
namespace Go.Proofs.YbulkdlewFmt
namespace Rows

/-- THE TOLD CARD OF 'schema.LawS5612BPart'. -/
def lawS5612BPartCard : Claim7 := { stood := { row := lawS5612BPartRow, standIns := [], harness := (true, "8c85783bfb594f35c838b4b0117ec873050de087ad0a6a493bdb13c2f4ea8744"), looks := false }, told := true, goes := false }
def LawS5612BPartToldSaid : Prop := Claim7.holds Ybaf.pinned (.plain (OpenSpec.ofChange lawS5612BPartSpec)) lawS5612BPartCard
/-- ITS FALSE NEIGHBOUR. Refute it at one input. -/
def LawS5612BPartToldWrongFalsely : Prop := Claim7.holds Ybaf.pinned (.plain (OpenSpec.ofChange lawS5612BPartWrong)) lawS5612BPartCard
end Rows
end Go.Proofs.YbulkdlewFmt
