/-
  No cell of these rows narrows 'for every input' (looked for: loops, veiled, ifaces, maps, wideKeys, modest, calm, conditions, laid).
  DERIVED. THE GIVEN ROWS OF THIS SEAT. 1 by the template 'for every input the law returns true; each argument reads behind the call as it read before'; 0 by the template 'total and deterministic' (their statements: YbulkdlhaTotals.lean).
  GIVEN WITH THE SEED: the statements are not yours to turn. If you find one false, say at which input.
  Laid BY PROGRAM, IN A SANDBOX (cutbox-rows.mjs): the forced cells as the released guide's own fill.sh prints them over the translation 109cfb321b471432… (all of the seat's roots in one cut). By AI agents, Wed Nov 11 2026. No macro, syntax, notation, axiom, sorry.
-/
import Derived.Test.YbulkdlhaChecked
import GoSem.Claim
import GoSem.ClaimJoined
import GoSem.ClaimMapViews
import Derived.JoinedTies
import Derived.KernelRfl
namespace Go.Proofs.Ybulkdlha
/- THE CELL 'sum', in the pinned program and in every row, IS THE sha256 OF THE DUMP (.gsa) THAT YbulkdlhaProg.lean LOADS. Nothing in Lean hashes anything: it is a label: what it is worth is what the hold of that sum in a sandbox is worth. -/
noncomputable def Yba.pinned : Pinned := { name := "ybulkdlha", sum := "109cfb321b471432b2c948d6f0925d417179e94636bf9d1c46a859fb02384456", checked := Yba.checked }
namespace Rows
def none {H : Type} : Left H := { results := [], args := [] }

/-- 'octocell.LawS5616CWhole': WHATEVER THE INPUT: true; the input reads as it did. -/
def lawS5616CWholeSpec : ChangeSpec := { name := "lawS5616CWhole", fn := fun _ => fun
  | [d1, d2, d3, d4] => { results := [.lit (.bool true)], args := [d1, d2, d3, d4] }
  | _ => none }
def lawS5616CWholeRow : OpenClaim := { program := "ybulkdlha", sum := "109cfb321b471432b2c948d6f0925d417179e94636bf9d1c46a859fb02384456", func := "example.com/octocell/octocell.LawS5616CWhole", spec := "lawS5616CWhole", apart := false }
def LawS5616CWholeSaid : Prop := lawS5616CWholeRow.holds Yba.pinned (OpenSpec.ofChange lawS5616CWholeSpec)

/-- ITS FALSE NEIGHBOUR: 'it returns false'. Refute it at one input. -/
def lawS5616CWholeWrong : ChangeSpec := { name := "lawS5616CWhole", fn := fun _ => fun
  | [d1, d2, d3, d4] => { results := [.lit (.bool false)], args := [d1, d2, d3, d4] }
  | _ => none }
def LawS5616CWholeWrongFalsely : Prop := lawS5616CWholeRow.holds Yba.pinned (OpenSpec.ofChange lawS5616CWholeWrong)

end Rows
end Go.Proofs.Ybulkdlha
