/-
  DERIVED. alloc.LawS5618BWhole: THE PLAIN LAW OF zzs5618bwith's TWO LOOPS.
-/
import Derived.Test.YbulkdlicBPlain
namespace Go.Proofs.Ybulkdlic

/-- Has x found its place among the first k runs? -/
def plc (x : Nat) (L : List (Nat × Nat)) (k : Nat) : Bool := (L.take k).any fun r => decide (x < r.1)
/-- The points when k runs have been looked at. -/
def ptsK (x : Nat) (L : List (Nat × Nat)) (k : Nat) : List (Nat × Nat) := if plc x L k then insP x (L.take k) else L.take k

theorem take_snoc {L : List (Nat × Nat)} {k : Nat} {r : Nat × Nat} (h : L[k]? = some r) : L.take (k + 1) = L.take k ++ [r] := by
  rw [List.take_add_one, h]; rfl
theorem plc_succ {x : Nat} {L : List (Nat × Nat)} {k : Nat} {r : Nat × Nat} (h : L[k]? = some r) : plc x L (k + 1) = (plc x L k || decide (x < r.1)) := by
  unfold plc
  rw [take_snoc h, List.any_append]
  simp
theorem insP_app (x : Nat) (r : Nat × Nat) : ∀ (A : List (Nat × Nat)), (A.any fun r => decide (x < r.1)) = true → insP x (A ++ [r]) = insP x A ++ [r]
  | [], h => by simp at h
  | a :: A, h => by
    by_cases e : x < a.1
    · rw [List.cons_append, insP, if_pos e, insP, if_pos e]; rfl
    · have h2 : (A.any fun r => decide (x < r.1)) = true := by simpa [e] using h
      rw [List.cons_append, insP, if_neg e, insP, if_neg e, insP_app x r A h2]; rfl
theorem insP_new (x : Nat) : ∀ (A B : List (Nat × Nat)), (A.any fun r => decide (x < r.1)) = false → insP x (A ++ B) = A ++ insP x B
  | [], B, _ => rfl
  | a :: A, B, h => by
    simp only [List.any_cons, Bool.or_eq_false_iff, decide_eq_false_iff_not] at h
    rw [List.cons_append, insP, if_neg h.1, insP_new x A B h.2]; rfl

theorem pts_zero (x : Nat) (L : List (Nat × Nat)) : ptsK x L 0 = [] := by simp [ptsK, plc]
/-- Its place has been found: the run follows. -/
theorem pts_after {x : Nat} {L : List (Nat × Nat)} {k : Nat} {r : Nat × Nat} (h : L[k]? = some r) (hp : plc x L k = true) : ptsK x L (k + 1) = ptsK x L k ++ [r] := by
  unfold ptsK
  rw [plc_succ h, hp, Bool.true_or, if_pos rfl, if_pos rfl, take_snoc h, insP_app x r _ hp]
/-- Here is its place. -/
theorem pts_here {x : Nat} {L : List (Nat × Nat)} {k : Nat} {r : Nat × Nat} (h : L[k]? = some r) (hp : plc x L k = false) (hx : x < r.1) : ptsK x L (k + 1) = ptsK x L k ++ [(x, x)] ++ [r] := by
  unfold ptsK
  rw [plc_succ h, hp, Bool.false_or, decide_eq_true hx, if_pos rfl, if_neg (by simp), take_snoc h, insP_new x _ _ hp, insP, if_pos hx]
  simp
/-- Its place is yet to come. -/
theorem pts_before {x : Nat} {L : List (Nat × Nat)} {k : Nat} {r : Nat × Nat} (h : L[k]? = some r) (hp : plc x L k = false) (hx : ¬ x < r.1) : ptsK x L (k + 1) = ptsK x L k ++ [r] := by
  unfold ptsK
  rw [plc_succ h, hp, Bool.false_or, decide_eq_false hx, if_neg (by simp), if_neg (by simp), take_snoc h]
theorem pts_end {x : Nat} {L : List (Nat × Nat)} : insP x L = if plc x L L.length then ptsK x L L.length else ptsK x L L.length ++ [(x, x)] := by
  by_cases e : plc x L L.length = true
  · rw [if_pos e]
    unfold ptsK
    rw [if_pos e, List.take_length]
  · have e' : plc x L L.length = false := by simpa using e
    rw [if_neg e]
    unfold ptsK
    rw [if_neg e, List.take_length]
    unfold plc at e'
    rw [List.take_length] at e'
    have := insP_new x L [] e'
    rw [List.append_nil] at this
    rw [this]
    rfl

/-- The third loop: out so far, the points to come. -/
def mfold : List (Nat × Nat) → List (Nat × Nat) → List (Nat × Nat)
  | out, [] => out
  | out, p :: t => match out.getLast? with
    | none => mfold (out ++ [p]) t
    | some a => if a.2 + 1 = p.1 then mfold (out.dropLast ++ [(a.1, p.2)]) t else mfold (out ++ [p]) t

theorem mfold_mrg : ∀ (t : List (Nat × Nat)) (A : List (Nat × Nat)) (a : Nat × Nat), mfold (A ++ [a]) t = A ++ mrg (a :: t)
  | [], A, a => by rw [mfold, mrg]
  | p :: t, A, a => by
    rw [mfold, List.getLast?_concat]
    simp only
    by_cases e : a.2 + 1 = p.1
    · rw [if_pos e, List.dropLast_concat, mfold_mrg t A (a.1, p.2), mrg, if_pos e]
    · rw [if_neg e, mfold_mrg t (A ++ [a]) p, mrg, if_neg e, List.append_assoc]; rfl
theorem mfold_nil (L : List (Nat × Nat)) : mfold [] L = mrg L := by
  cases L with
  | nil => rw [mfold, mrg]
  | cons p t =>
    rw [mfold]
    exact mfold_mrg t [] p

end Go.Proofs.Ybulkdlic
