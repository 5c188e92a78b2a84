/-
  DERIVED. alloc.LawS5618BWhole: THE LAW's BODY, CUT INTO STATEMENTS.
-/
import Derived.Test.YbulkdlicBNew
import Derived.Test.YbulkdlicBRel
import Derived.Test.YbulkdlicBWith
import Derived.Test.YbulkdlicBEqual
import Derived.Test.YbulkdlicBPtr
import Derived.Test.YbulkdlicBRev
import Derived.Laws.MakeOwn
namespace Go.Proofs.Ybulkdlic
open Go.RowKit

noncomputable def B4 : Code := Yba.f4.body.getD .skip
def tl : Nat → Code → Code
  | 0, c => c
  | k + 1, .seq _ b => tl k b
  | _ + 1, c => c
def hdc : Code → Code
  | .seq a _ => a
  | c => c
theorem seq_cut {P : Program} {Q : Exit → Act → World → Prop} {a : Act} {w : World} {x y : Code} (h : ∀ K : Act → World → Prop, Hid (∀ a w, y.wp P Q a w → K a w) → x.wp P (Exit.then K Q) a w) : (Code.seq x y).wp P Q a w := wp_seq_k (fun K hK => h K hK)

end Go.Proofs.Ybulkdlic
