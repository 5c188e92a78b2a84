/-
  DERIVED. GIVEN WITH THE SEED: THE CARDS: each row of YbulkdlfyFmtRows.lean that lists a variable, with what it lists TIED to the program's text (the seventh form; the later family's looks); each row that meets fmt, with fmt's text TOLD by the authors' own Lean function (tested against real Go, not proved from fmt's source: count such statements apart). THE CARD IS WHAT COUNTS. Prove the row's statement (the work); the ties are given (YbulkdlfyFmtTie.lean); close each card by the builder's one call (the guide's Derived/Test/ToyasCard.lean, 'card_holds'). Laid BY PROGRAM, IN A SANDBOX (cutbox-door.mjs). By AI agents, Wed Nov 11 2026. No macro, syntax, notation, axiom, sorry.
-/
import Derived.Test.YbulkdlfyFmtRows
import GoSem.ClaimSeven
namespace Go.Proofs.YbulkdlfyFmt
namespace Rows

/-- THE TOLD CARD OF 'apportion.LawS5614AWhole'. -/
def lawS5614AWholeCard : Claim7 := { stood := { row := lawS5614AWholeRow, standIns := [], harness := (true, "f1d6d35362025b1041a4090092b82ace10c5f352cf9db146e6105e5145f58cc8"), looks := false }, told := true, goes := false }
def LawS5614AWholeToldSaid : Prop := Claim7.holds Ybaf.pinned (.plain (OpenSpec.ofChange lawS5614AWholeSpec)) lawS5614AWholeCard
/-- ITS FALSE NEIGHBOUR. Refute it at one input. -/
def LawS5614AWholeToldWrongFalsely : Prop := Claim7.holds Ybaf.pinned (.plain (OpenSpec.ofChange lawS5614AWholeWrong)) lawS5614AWholeCard

/-- THE TOLD CARD OF 'apportion.LawS5614AFresh'. -/
def lawS5614AFreshCard : Claim7 := { stood := { row := lawS5614AFreshRow, standIns := [], harness := (true, "f1d6d35362025b1041a4090092b82ace10c5f352cf9db146e6105e5145f58cc8"), looks := false }, told := true, goes := false }
def LawS5614AFreshToldSaid : Prop := Claim7.holds Ybaf.pinned (.plain (OpenSpec.ofChange lawS5614AFreshSpec)) lawS5614AFreshCard
/-- ITS FALSE NEIGHBOUR. Refute it at one input. -/
def LawS5614AFreshToldWrongFalsely : Prop := Claim7.holds Ybaf.pinned (.plain (OpenSpec.ofChange lawS5614AFreshWrong)) lawS5614AFreshCard

/-- THE TOLD AND TIED CARD OF 'apportion.LawS5614CPart'. -/
def lawS5614CPartCard : Claim7 := { stood := { row := lawS5614CPartRow, standIns := [], harness := (true, "f1d6d35362025b1041a4090092b82ace10c5f352cf9db146e6105e5145f58cc8"), looks := false }, told := true, laidByText := true, laidKinds := [.data, .called, .called, .called, .widerDeep, .pinned], laidTests := true, laidLooks := .later, goes := false }
def LawS5614CPartToldSaid : Prop := Claim7.holds Ybaf.pinned (.plain (OpenSpec.ofChange lawS5614CPartSpec)) lawS5614CPartCard
/-- ITS FALSE NEIGHBOUR. Refute it at one input. -/
def LawS5614CPartToldWrongFalsely : Prop := Claim7.holds Ybaf.pinned (.plain (OpenSpec.ofChange lawS5614CPartWrong)) lawS5614CPartCard
end Rows
end Go.Proofs.YbulkdlfyFmt
