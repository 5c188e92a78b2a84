/-
  No cell of these rows narrows 'for every input' (looked for: loops, veiled, ifaces, maps, wideKeys, modest, calm, conditions, laid).
  DERIVED. THE GIVEN ROWS OF THIS SEAT. 2 by the template 'for every input the law returns true; each argument reads behind the call as it read before'; 0 by the template 'total and deterministic' (their statements: YbulkdlicTotals.lean).
  GIVEN WITH THE SEED: the statements are not yours to turn. If you find one false, say at which input.
  Laid BY PROGRAM, IN A SANDBOX (cutbox-rows.mjs): the forced cells as the released guide's own fill.sh prints them over the translation 74d4091f72a41115… (all of the seat's roots in one cut). By AI agents, Wed Nov 11 2026. No macro, syntax, notation, axiom, sorry.
-/
import Derived.Test.YbulkdlicChecked
import GoSem.Claim
import GoSem.ClaimJoined
import GoSem.ClaimMapViews
import Derived.JoinedTies
import Derived.KernelRfl
namespace Go.Proofs.Ybulkdlic
/- THE CELL 'sum', in the pinned program and in every row, IS THE sha256 OF THE DUMP (.gsa) THAT YbulkdlicProg.lean LOADS. Nothing in Lean hashes anything: it is a label: what it is worth is what the hold of that sum in a sandbox is worth. -/
noncomputable def Yba.pinned : Pinned := { name := "ybulkdlic", sum := "74d4091f72a411153c9b82e444b083bcc3d20eecfc1eefac5a192b1d1b797b8a", checked := Yba.checked }
namespace Rows
def none {H : Type} : Left H := { results := [], args := [] }

/-- 'alloc.LawS5618AWhole': WHATEVER THE INPUT: true; the input reads as it did. -/
def lawS5618AWholeSpec : ChangeSpec := { name := "lawS5618AWhole", fn := fun _ => fun
  | [d1, d2, d3, d4, d5, d6, d7, d8] => { results := [.lit (.bool true)], args := [d1, d2, d3, d4, d5, d6, d7, d8] }
  | _ => none }
def lawS5618AWholeRow : OpenClaim := { program := "ybulkdlic", sum := "74d4091f72a411153c9b82e444b083bcc3d20eecfc1eefac5a192b1d1b797b8a", func := "example.com/cadastre/cadastre/pkg/alloc.LawS5618AWhole", spec := "lawS5618AWhole", inPlace := ["slices.overlaps[example.com/cadastre/cadastre/pkg/space.Range]", "math/bits.Sub64", "math/bits.Add64"], unfollowed := true, recurses := true, plainKeys := false, apart := false }
def LawS5618AWholeSaid : Prop := lawS5618AWholeRow.holds Yba.pinned (OpenSpec.ofChange lawS5618AWholeSpec)

/-- ITS FALSE NEIGHBOUR: 'it returns false'. Refute it at one input. -/
def lawS5618AWholeWrong : ChangeSpec := { name := "lawS5618AWhole", fn := fun _ => fun
  | [d1, d2, d3, d4, d5, d6, d7, d8] => { results := [.lit (.bool false)], args := [d1, d2, d3, d4, d5, d6, d7, d8] }
  | _ => none }
def LawS5618AWholeWrongFalsely : Prop := lawS5618AWholeRow.holds Yba.pinned (OpenSpec.ofChange lawS5618AWholeWrong)

/-- 'alloc.LawS5618BWhole': WHATEVER THE INPUT: true; the input reads as it did. -/
def lawS5618BWholeSpec : ChangeSpec := { name := "lawS5618BWhole", fn := fun _ => fun
  | [d1, d2, d3, d4, d5] => { results := [.lit (.bool true)], args := [d1, d2, d3, d4, d5] }
  | _ => none }
def lawS5618BWholeRow : OpenClaim := { program := "ybulkdlic", sum := "74d4091f72a411153c9b82e444b083bcc3d20eecfc1eefac5a192b1d1b797b8a", func := "example.com/cadastre/cadastre/pkg/alloc.LawS5618BWhole", spec := "lawS5618BWhole", inPlace := ["slices.overlaps[example.com/cadastre/cadastre/pkg/space.Range]", "math/bits.Sub64", "math/bits.Add64"], unfollowed := true, recurses := true, plainKeys := false, apart := false }
def LawS5618BWholeSaid : Prop := lawS5618BWholeRow.holds Yba.pinned (OpenSpec.ofChange lawS5618BWholeSpec)

/-- ITS FALSE NEIGHBOUR: 'it returns false'. Refute it at one input. -/
def lawS5618BWholeWrong : ChangeSpec := { name := "lawS5618BWhole", fn := fun _ => fun
  | [d1, d2, d3, d4, d5] => { results := [.lit (.bool false)], args := [d1, d2, d3, d4, d5] }
  | _ => none }
def LawS5618BWholeWrongFalsely : Prop := lawS5618BWholeRow.holds Yba.pinned (OpenSpec.ofChange lawS5618BWholeWrong)

end Rows
end Go.Proofs.Ybulkdlic
