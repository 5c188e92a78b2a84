/-
  DERIVED. A REGION THAT DRAWS ITS ORDER AND ONLY READS, IN A ROUND OF A RANGE OVER A FUNCTION: as everywhere, if it holds no 'defer'.
-/
import Derived.Test.YbulkdlicRange
import Derived.Sort.QuietIn
namespace Go.Proofs.Ybulkdlic
open Go.RowKit Go.Shelf

theorem uponIn_round {F : Fence} {n : Nat} {P : Program} {o : Oper} {a : Act} {K : Act → World → Prop} {Q : Exit → Act → World → Prop} (l : Nat) : ∀ {r : Result Next}, o.uponIn F n P a K Q r → o.uponIn (F.inRound l) n P a K Q r := fun {_} h => h

theorem opIn_round {F : Fence} {n : Nat} {P : Program} {o : Oper} {a : Act} {w : World} {K : Act → World → Prop} {Q : Exit → Act → World → Prop} (l : Nat) (hro : F.round = none) (hd : ∀ c, o.op ≠ .defer c) (h : o.wpIn F n P a w K Q) : o.wpIn (F.inRound l) n P a w K Q := by
  unfold Oper.wpIn at *
  refine ⟨h.1, ?_⟩
  have h2 := h.2
  rw [hro, Oper.semAt_none] at h2
  rw [Fence.inRound_round, Oper.semAt_some l _ o hd]
  exact uponIn_round l h2

theorem wpOpIn_round {F : Fence} {n : Nat} {P : Program} {ops : Array Oper} {Q : Exit → Act → World → Prop} (l : Nat) (hro : F.round = none) (hd : ∀ (i : Nat) (o : Oper) c, ops[i]? = some o → o.op ≠ .defer c) {i : Nat} {K : Act → World → Prop} {a : Act} {w : World} (h : wpOpIn F n P ops Q i K a w) : wpOpIn (F.inRound l) n P ops Q i K a w := by
  unfold wpOpIn at *
  split
  · rename_i ho; simp only [ho] at h; exact h
  · rename_i o ho
    simp only [ho] at h
    split
    · rename_i hw; simp only [hw, if_true] at h; exact opIn_round l hro (fun c => hd i o c ho) h
    · rename_i hw; simp only [hw] at h; exact h

theorem wpAnyIn_round {F : Fence} {n : Nat} {P : Program} {md : Region.Mode} {ops : Array Oper} {Q : Exit → Act → World → Prop} (l : Nat) (hro : F.round = none) (hd : ∀ (i : Nat) (o : Oper) c, ops[i]? = some o → o.op ≠ .defer c) :
    ∀ (fuel : Nat) (listed : Array Bool) (a : Act) (w : World), wpAnyIn F n P md ops Q fuel listed a w → wpAnyIn (F.inRound l) n P md ops Q fuel listed a w
  | 0, _, _, _, h => h
  | fuel + 1, _, _, _, h => ⟨h.1, fun i hi => wpOpIn_round l hro hd (wpOpIn_mono (fun a w => wpAnyIn_round l hro hd fuel _ a w) (h.2 i hi))⟩

def isDefer : Op → Bool
  | .defer _ => true
  | _ => false
def noDefer (l : List Oper) : Bool := l.all fun o => !isDefer o.op
theorem noDefer_spec {l : List Oper} (h : noDefer l = true) : ∀ (i : Nat) (o : Oper) c, l.toArray[i]? = some o → o.op ≠ .defer c := fun i o c ho e => by
  have hm : o ∈ l := List.mem_of_getElem? (by simpa using ho)
  have := List.all_eq_true.1 h o hm
  rw [e] at this
  simp [isDefer] at this

/-- In a round: one walk of the lexical order serves every order. -/
theorem quiet_round {F : Fence} {n : Nat} {P : Program} {id : Nat} {Q : Exit → Act → World → Prop} {a : Act} {w : World} {ops : List Oper} (l : Nat) (hro : F.round = none) (hm : P.follows .mixedOrders = true) (hB : Region.lexB .any ops.toArray = true) (hd : noDefer ops = true)
    (h : wpQuietIn F n P ops.toArray (fun w' => ∃ n, w' = w.drewN n) (fun a' => ∀ w', (∃ n, w' = w.drewN n) → Q .normal a' w') ops a) : (Code.region id ops.toArray true).wpIn (F.inRound l) n P Q a w := by
  simp only [Region.lexB, Bool.and_eq_true] at hB
  refine wpIn_region_any hm (wpAnyIn_round l hro (noDefer_spec hd) _ _ _ _ (wpAnyIn_of_quiet (C := fun w' => ∃ n, w' = w.drewN n) (Q := fun a' => ∀ w', (∃ n, w' = w.drewN n) → Q .normal a' w') hro (fun _ w' hw' h => h w' hw') _ _ _ _ ⟨1, rfl⟩ ?_))
  have := wpAnyQIn_lex (F := F) (n := n) (P := P) (C := fun w' => ∃ n, w' = w.drewN n) (md := .any) hB.1 ops 0 (Array.replicate ops.toArray.size false) a (by simp) (by simpa using hB.2) h
  simpa using this

end Go.Proofs.Ybulkdlic
