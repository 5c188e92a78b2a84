/-
  No cell of these rows narrows 'for every input' (looked for: loops, veiled, ifaces, maps, wideKeys, modest, calm, conditions, laid).
  DERIVED. THE GIVEN ROWS OF THIS SEAT. 1 by the template 'for every input the law returns true; each argument reads behind the call as it read before'; 0 by the template 'total and deterministic' (their statements: YbulkdlewFmtTotals.lean).
  GIVEN WITH THE SEED: the statements are not yours to turn. If you find one false, say at which input.
  Laid BY PROGRAM, IN A SANDBOX (cutbox-rows.mjs): the forced cells as the released guide's own fill.sh prints them over the translation ba6ec511e8460896… (all of the seat's roots in one cut). By AI agents, Wed Nov 11 2026. No macro, syntax, notation, axiom, sorry.
-/
import Derived.Test.YbulkdlewFmtChecked
import GoSem.Claim
import GoSem.ClaimJoined
import GoSem.ClaimMapViews
import Derived.JoinedTies
import Derived.KernelRfl
namespace Go.Proofs.YbulkdlewFmt
/- THE CELL 'sum', in the pinned program and in every row, IS THE sha256 OF THE DUMP (.gsa) THAT YbulkdlewFmtProg.lean LOADS. Nothing in Lean hashes anything: it is a label: what it is worth is what the hold of that sum in a sandbox is worth. -/
noncomputable def Ybaf.pinned : Pinned := { name := "ybulkdlewfmt", sum := "ba6ec511e8460896eace7ef1d39f52dad9c0c1ab3435eb9a9728ca7646ea38b0", checked := Ybaf.checked }
namespace Rows
def none {H : Type} : Left H := { results := [], args := [] }

/-- 'schema.LawS5612BPart': WHATEVER THE INPUT: true; the input reads as it did. -/
def lawS5612BPartSpec : ChangeSpec := { name := "lawS5612BPart", fn := fun _ => fun
  | [d] => { results := [.lit (.bool true)], args := [d] }
  | _ => none }
def lawS5612BPartRow : OpenClaim := { program := "ybulkdlewfmt", sum := "ba6ec511e8460896eace7ef1d39f52dad9c0c1ab3435eb9a9728ca7646ea38b0", func := "example.com/eithr/eithr/internal/schema.LawS5612BPart", spec := "lawS5612BPart", stops := ["fmt.Sprintf"], inPlace := ["fmt.Sprintf"], apart := false }
/-- NO THEOREM (fmt's text is open here; it may be false): for the released tool's asking of the row's closed facts alone. THE STATEMENT IS 'LawS5612BPartToldSaid' (YbulkdlewFmtCards.lean). -/
def LawS5612BPartFormAsk : Prop := lawS5612BPartRow.holds Ybaf.pinned (OpenSpec.ofChange lawS5612BPartSpec)

/-- ITS FALSE NEIGHBOUR: 'it returns false'. Refute it at one input. -/
def lawS5612BPartWrong : ChangeSpec := { name := "lawS5612BPart", fn := fun _ => fun
  | [d] => { results := [.lit (.bool false)], args := [d] }
  | _ => none }
def LawS5612BPartWrongFormAsk : Prop := lawS5612BPartRow.holds Ybaf.pinned (OpenSpec.ofChange lawS5612BPartWrong)

end Rows
end Go.Proofs.YbulkdlewFmt
