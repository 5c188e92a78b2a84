/-
  NARROWER THAN 'FOR EVERY INPUT', by the rows' own cells (each row's printed sentence says how): LawS5614CPart: ifaces, laid.
  DERIVED. THE GIVEN ROWS OF THIS SEAT. 3 by the template 'for every input the law returns true; each argument reads behind the call as it read before'; 0 by the template 'total and deterministic' (their statements: YbulkdlfyFmtTotals.lean).
  GIVEN WITH THE SEED: the statements are not yours to turn. If you find one false, say at which input.
  Laid BY PROGRAM, IN A SANDBOX (cutbox-rows.mjs): the forced cells as the released guide's own fill.sh prints them over the translation 449875357ff3b037… (all of the seat's roots in one cut). By AI agents, Wed Nov 11 2026. No macro, syntax, notation, axiom, sorry.
-/
import Derived.Test.YbulkdlfyFmtChecked
import GoSem.PinnedTables
import GoSem.Claim
import GoSem.ClaimJoined
import GoSem.ClaimMapViews
import Derived.JoinedTies
import Derived.KernelRfl
namespace Go.Proofs.YbulkdlfyFmt
/- THE CELL 'sum', in the pinned program and in every row, IS THE sha256 OF THE DUMP (.gsa) THAT YbulkdlfyFmtProg.lean LOADS. Nothing in Lean hashes anything: it is a label: what it is worth is what the hold of that sum in a sandbox is worth. -/
noncomputable def Ybaf.pinned : Pinned := { name := "ybulkdlfyfmt", sum := "449875357ff3b0371b0085d99c4e1fefd939ef3bd96ac8413d8db8cf931f55b8", checked := Ybaf.checked }
namespace Rows
def none {H : Type} : Left H := { results := [], args := [] }

/- WHAT THE LISTED PACKAGE-LEVEL VARIABLES READ AS WHEN THE CALL BEGINS. Each datum BY PROGRAM (the guide's laid-datum.mjs) off the statement by which the dump's own 'gosem.cut.vars' lays the variable. In a bare row this is a premise. The card (YbulkdlfyFmtCards.lean) ties it to the program's text. -/
def laid_unicode_utf8_acceptRanges {H : Type} : DataW H := .agg [.agg [.lit (.int .u8 128), .lit (.int .u8 191)], .agg [.lit (.int .u8 160), .lit (.int .u8 191)], .agg [.lit (.int .u8 128), .lit (.int .u8 159)], .agg [.lit (.int .u8 144), .lit (.int .u8 191)], .agg [.lit (.int .u8 128), .lit (.int .u8 143)], .agg [.lit (.int .u8 0), .lit (.int .u8 0)], .agg [.lit (.int .u8 0), .lit (.int .u8 0)], .agg [.lit (.int .u8 0), .lit (.int .u8 0)], .agg [.lit (.int .u8 0), .lit (.int .u8 0)], .agg [.lit (.int .u8 0), .lit (.int .u8 0)], .agg [.lit (.int .u8 0), .lit (.int .u8 0)], .agg [.lit (.int .u8 0), .lit (.int .u8 0)], .agg [.lit (.int .u8 0), .lit (.int .u8 0)], .agg [.lit (.int .u8 0), .lit (.int .u8 0)], .agg [.lit (.int .u8 0), .lit (.int .u8 0)], .agg [.lit (.int .u8 0), .lit (.int .u8 0)]]
def laid_example_com_apportion_apportion_ErrNotANumber {H : Type} : DataW H := .iface "*errors.errorString" (.ptr (.agg [.lit (.string [110, 111, 116, 32, 97, 32, 110, 117, 109, 98, 101, 114])]))
def laid_example_com_apportion_apportion_ErrTooManyDecimals {H : Type} : DataW H := .iface "*errors.errorString" (.ptr (.agg [.lit (.string [116, 111, 111, 32, 109, 97, 110, 121, 32, 100, 101, 99, 105, 109, 97, 108, 115])]))
def laid_example_com_apportion_apportion_ErrOutOfRange {H : Type} : DataW H := .iface "*errors.errorString" (.ptr (.agg [.lit (.string [111, 117, 116, 32, 111, 102, 32, 114, 97, 110, 103, 101])]))
def laid_example_com_apportion_apportion_roundings {H : Type} : DataW H := .slice [.lit (.string [104, 97, 108, 102, 45, 101, 118, 101, 110]), .lit (.string [104, 97, 108, 102, 45, 117, 112]), .lit (.string [100, 111, 119, 110])] []
/-- One of Go's own tables, pinned by name: the form's constant. -/
def laid_unicode_utf8_first : DataW Unit := Go.Pinned.utf8First

/-- 'apportion.LawS5614AWhole': WHATEVER THE INPUT: true; the input reads as it did. -/
def lawS5614AWholeSpec : ChangeSpec := { name := "lawS5614AWhole", fn := fun _ => fun
  | [d1, d2, d3, d4, d5] => { results := [.lit (.bool true)], args := [d1, d2, d3, d4, d5] }
  | _ => none }
def lawS5614AWholeRow : OpenClaim := { program := "ybulkdlfyfmt", sum := "449875357ff3b0371b0085d99c4e1fefd939ef3bd96ac8413d8db8cf931f55b8", func := "example.com/apportion/apportion.LawS5614AWhole", spec := "lawS5614AWhole", stops := ["fmt.errorf", "fmt.Sprintf"], inPlace := ["fmt.errorf"], apart := false }
/-- NO THEOREM (fmt's text is open here; it may be false): for the released tool's asking of the row's closed facts alone. THE STATEMENT IS 'LawS5614AWholeToldSaid' (YbulkdlfyFmtCards.lean). -/
def LawS5614AWholeFormAsk : Prop := lawS5614AWholeRow.holds Ybaf.pinned (OpenSpec.ofChange lawS5614AWholeSpec)

/-- ITS FALSE NEIGHBOUR: 'it returns false'. Refute it at one input. -/
def lawS5614AWholeWrong : ChangeSpec := { name := "lawS5614AWhole", fn := fun _ => fun
  | [d1, d2, d3, d4, d5] => { results := [.lit (.bool false)], args := [d1, d2, d3, d4, d5] }
  | _ => none }
def LawS5614AWholeWrongFormAsk : Prop := lawS5614AWholeRow.holds Ybaf.pinned (OpenSpec.ofChange lawS5614AWholeWrong)

/-- 'apportion.LawS5614AFresh': WHATEVER THE INPUT: true; the input reads as it did. -/
def lawS5614AFreshSpec : ChangeSpec := { name := "lawS5614AFresh", fn := fun _ => fun
  | [d1, d2, d3, d4] => { results := [.lit (.bool true)], args := [d1, d2, d3, d4] }
  | _ => none }
def lawS5614AFreshRow : OpenClaim := { program := "ybulkdlfyfmt", sum := "449875357ff3b0371b0085d99c4e1fefd939ef3bd96ac8413d8db8cf931f55b8", func := "example.com/apportion/apportion.LawS5614AFresh", spec := "lawS5614AFresh", stops := ["fmt.errorf", "fmt.Sprintf"], inPlace := ["fmt.errorf"], apart := false }
/-- NO THEOREM (fmt's text is open here; it may be false): for the released tool's asking of the row's closed facts alone. THE STATEMENT IS 'LawS5614AFreshToldSaid' (YbulkdlfyFmtCards.lean). -/
def LawS5614AFreshFormAsk : Prop := lawS5614AFreshRow.holds Ybaf.pinned (OpenSpec.ofChange lawS5614AFreshSpec)

/-- ITS FALSE NEIGHBOUR: 'it returns false'. Refute it at one input. -/
def lawS5614AFreshWrong : ChangeSpec := { name := "lawS5614AFresh", fn := fun _ => fun
  | [d1, d2, d3, d4] => { results := [.lit (.bool false)], args := [d1, d2, d3, d4] }
  | _ => none }
def LawS5614AFreshWrongFormAsk : Prop := lawS5614AFreshRow.holds Ybaf.pinned (OpenSpec.ofChange lawS5614AFreshWrong)

/-- 'apportion.LawS5614CPart': WHATEVER THE INPUT: true; the input reads as it did. -/
def lawS5614CPartSpec : ChangeSpec := { name := "lawS5614CPart", vars := ["example.com/apportion/apportion.roundings", "example.com/apportion/apportion.ErrNotANumber", "example.com/apportion/apportion.ErrTooManyDecimals", "example.com/apportion/apportion.ErrOutOfRange"], fn := fun _ => fun
  | [d1, d2, d3, d4, d5, d6, d7, d8, d9, d10, g1, g2, g3, g4] => { results := [.lit (.bool true)], args := [d1, d2, d3, d4, d5, d6, d7, d8, d9, d10], vars := [g1, g2, g3, g4] }
  | _ => none }
def lawS5614CPartRow : OpenClaim := { program := "ybulkdlfyfmt", sum := "449875357ff3b0371b0085d99c4e1fefd939ef3bd96ac8413d8db8cf931f55b8", func := "example.com/apportion/apportion.LawS5614CPart", spec := "lawS5614CPart", stops := ["fmt.errorf", "fmt.Sprintf"], inPlace := ["fmt.Sprintf", "internal/bytealg.IndexByteString", "internal/bytealg.IndexString", "fmt.errorf", "internal/abi.NoEscape", "internal/bytealg.MakeNoZero"], named := ["example.com/apportion/apportion.roundings", "example.com/apportion/apportion.ErrNotANumber", "example.com/apportion/apportion.ErrTooManyDecimals", "example.com/apportion/apportion.ErrOutOfRange", "internal/bytealg.MaxLen", "unicode/utf8.first", "unicode/utf8.acceptRanges"], ifaces := true, apart := false, laid := [("unicode/utf8.acceptRanges", laid_unicode_utf8_acceptRanges), ("example.com/apportion/apportion.ErrNotANumber", laid_example_com_apportion_apportion_ErrNotANumber), ("example.com/apportion/apportion.ErrTooManyDecimals", laid_example_com_apportion_apportion_ErrTooManyDecimals), ("example.com/apportion/apportion.ErrOutOfRange", laid_example_com_apportion_apportion_ErrOutOfRange), ("example.com/apportion/apportion.roundings", laid_example_com_apportion_apportion_roundings), ("unicode/utf8.first", laid_unicode_utf8_first)] }
/-- NO THEOREM (fmt's text is open here; it may be false): for the released tool's asking of the row's closed facts alone. THE STATEMENT IS 'LawS5614CPartToldSaid' (YbulkdlfyFmtCards.lean). -/
def LawS5614CPartFormAsk : Prop := lawS5614CPartRow.holds Ybaf.pinned (OpenSpec.ofChange lawS5614CPartSpec)

/-- ITS FALSE NEIGHBOUR: 'it returns false'. Refute it at one input. -/
def lawS5614CPartWrong : ChangeSpec := { name := "lawS5614CPart", vars := ["example.com/apportion/apportion.roundings", "example.com/apportion/apportion.ErrNotANumber", "example.com/apportion/apportion.ErrTooManyDecimals", "example.com/apportion/apportion.ErrOutOfRange"], fn := fun _ => fun
  | [d1, d2, d3, d4, d5, d6, d7, d8, d9, d10, g1, g2, g3, g4] => { results := [.lit (.bool false)], args := [d1, d2, d3, d4, d5, d6, d7, d8, d9, d10], vars := [g1, g2, g3, g4] }
  | _ => none }
def LawS5614CPartWrongFormAsk : Prop := lawS5614CPartRow.holds Ybaf.pinned (OpenSpec.ofChange lawS5614CPartWrong)

end Rows
end Go.Proofs.YbulkdlfyFmt
