/-
  DERIVED. octocell.LawS5616CWhole: THE STATE BEHIND claim, as the law's last loops read it.
-/
import Derived.Test.YbulkdlhaRead
namespace Go.Proofs.Ybulkdlha
open Go.RowKit

/-- THE STATE BEHIND claim: un: the segment I had no memory of its own; N: then its fresh block. F, T: the blocks of 'firsts' and of the table. -/
structure CInv (w : World) (cnt sl : Nat) (own G : Nat → Nat) (F T I N : Nat) (un : Bool) (tot sft : Int) (W : World) : Prop where
  owner : W.rowIs w.heap.size 3 cnt (fun j => .int .i64 ((own j : Nat) : Int))
  segs : W.rowIs (w.heap.size + 1) 27 cnt (fun j => .slice (some ⟨if un = true ∧ j = I then N else G (own j), 0, none⟩) sl sl)
  firsts : W.rowIs F 32 cnt (fun j => .pointer (some ⟨G (own j), 0, none⟩))
  tab : W.heap[T]? = some (.cells #[.slice (some ⟨w.heap.size + 1, 0, none⟩) cnt cnt, .int .u64 sft, .int .i64 tot, .pointer none, .int .i64 3, .slice none 0 0] 37 (0, 0))
  marked : ∀ j, j < cnt → W.rowIs (G (own j)) 30 (sl * 18) (bcell (own j) sl)
  fresh : un = true → W.rowIs N 30 (sl * 18) zcell ∧ ∀ j, j < cnt → G (own j) ≠ N
  below : Below w.heap.size w W

theorem lt_of_block {w : World} {b : Nat} {o : Obj} (h : w.heap[b]? = some o) : b < w.heap.size := (Array.getElem?_eq_some_iff.1 h).1

theorem CInv.later {w : World} {cnt sl : Nat} {own G : Nat → Nat} {F T I N : Nat} {un : Bool} {tot sft : Int} {W W' : World} (h : CInv w cnt sl own G F T I N un tot sft W) (hb : Below W.heap.size W W') : CInv w cnt sl own G F T I N un tot sft W' :=
  ⟨h.owner.of_block (hb.block _ h.owner.lt), h.segs.of_block (hb.block _ h.segs.lt), h.firsts.of_block (hb.block _ h.firsts.lt), (hb.block _ (lt_of_block h.tab)).trans h.tab,
    fun j hj => (h.marked j hj).of_block (hb.block _ (h.marked j hj).lt), fun hu => ⟨(h.fresh hu).1.of_block (hb.block _ (h.fresh hu).1.lt), (h.fresh hu).2⟩, h.below.trans (hb.mono h.below.size)⟩

/-- Behind a claim that found memory. -/
theorem c_own {w : World} {cnt sl half : Nat} {own G : Nat → Nat} {F T I N : Nat} {tot sft : Int} {W : World} (h : TInv w cnt sl half cnt own G W) (hf : W.rowIs F 32 cnt (fun j => if j < cnt then .pointer (some ⟨G (own j), 0, none⟩) else .pointer none))
    (ht : W.heap[T]? = some (.cells #[.slice (some ⟨w.heap.size + 1, 0, none⟩) cnt cnt, .int .u64 sft, .int .i64 tot, .pointer none, .int .i64 3, .slice none 0 0] 37 (0, 0))) : CInv w cnt sl own G F T I N false tot sft W :=
  ⟨h.owner.congr fun j hj => by rw [if_pos hj], h.segs.congr fun j hj => by rw [if_pos hj]; simp, hf.congr fun j hj => by rw [if_pos hj], ht, (fun j hj => h.marked hj), (fun hu => by cases hu), h.below⟩

/-- Behind a claim that laid fresh memory. -/
theorem c_new {w : World} {cnt sl half : Nat} {own G : Nat → Nat} {F T I : Nat} {tot sft : Int} {W : World} (h : TInv w cnt sl half cnt own G W) (hf : W.rowIs F 32 cnt (fun j => if j < cnt then .pointer (some ⟨G (own j), 0, none⟩) else .pointer none))
    (ht : W.heap[T]? = some (.cells #[.slice (some ⟨w.heap.size + 1, 0, none⟩) cnt cnt, .int .u64 sft, .int .i64 tot, .pointer none, .int .i64 3, .slice none 0 0] 37 (0, 0)))
    (hF : w.heap.size + 1 < F) (hT : w.heap.size + 1 < T) :
    CInv w cnt sl own G F T I W.heap.size true tot sft ((W.alloc (.cells (madeCells zeros (sl * 18)) 30)).setCell ⟨w.heap.size + 1, I, none⟩ (.slice (some ⟨W.heap.size, 0, none⟩) sl sl)) := by
  have hsl := h.segs.lt
  have ot : ∀ {b t n : Nat} {f : Nat → Value}, W.rowIs b t n f → b ≠ w.heap.size + 1 → ((W.alloc (.cells (madeCells zeros (sl * 18)) 30)).setCell ⟨w.heap.size + 1, I, none⟩ (.slice (some ⟨W.heap.size, 0, none⟩) sl sl)).rowIs b t n f :=
    fun hr hb => rowIs_setOther' (hr.alloc _) _ _ hb _
  refine ⟨(ot h.owner (by omega)).congr fun j hj => by rw [if_pos hj], ?_, (ot hf (by omega)).congr fun j hj => by rw [if_pos hj], ?_, fun j hj => ot (h.marked hj) (by have := h.high j hj; omega), fun _ => ⟨?_, fun j hj => ?_⟩, ?_⟩
  · refine ((h.segs.alloc _).set I _).congr fun j hj => ?_
    by_cases e : j = I
    · subst e; simp
    · rw [if_neg e, if_pos hj, if_neg (fun e' => e e'.2)]
  · rw [Below.heap_setCell _ _ _ _ (by show T ≠ w.heap.size + 1; omega), Below.heap_alloc _ _ _ (lt_of_block ht)]
    exact ht
  · refine rowIs_setOther' ⟨_, heap_alloc_new W _, size_madeCells _ _, fun c hc => made_zeros _ _ hc⟩ _ _ (by omega) _
  · have := (h.marked hj).lt; omega
  · exact (h.below.alloc h.below.size _).setCell (p := ⟨w.heap.size + 1, I, none⟩) (by show w.heap.size ≤ w.heap.size + 1; omega) _

/-- A whole bucket read, at the operation. -/
theorem wpList_load30 (w : World) {ops : Array Oper} {rest : List Oper} {o : Oper} {a : Act} {Q : Exit → Act → World → Prop}
    (hg : o.guard = none) (x : Operand) (hop : o.op = Op.load 30 x) (g c : Nat) (hx : a.eval x = .pointer (some ⟨g, c, none⟩)) (vs : Array Value)
    (hrun : (Instr.loadAt 30 (.pointer (some ⟨g, c, none⟩))).run Yba.prog w = .ok (.agg vs) w) (hK : wpList Yba.prog ops Q rest (a.put o.dst (.agg vs)) w) :
    wpList Yba.prog ops Q (o :: rest) a w := by
  refine wpList_plain hg fun K hK' => ?_
  unfold Oper.wp
  simp [execOp, hop, hx, hrun, Result.andThen]
  exact hK' _ _ hK

end Go.Proofs.Ybulkdlha
