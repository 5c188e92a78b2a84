/-
  DERIVED. alloc.LawS5618AWhole: A RANGE OVER A FUNCTION OF TWO VALUES, THE SECOND BOXED: the law, with the frame told by the goal.
-/
import Derived.Test.YbulkdlicState6
namespace Go.Proofs.Ybulkdlic
open Go.RowKit Go.Shelf

/-- The frame of a round: the two values handed over (p1, p2), the first variable (s1), the pointer to the boxed second (s2). -/
def bframe (a : Act) (p1 p2 s1 s2 : Nat) (v u : Value) (Bx : Nat) : Act :=
  { tmps := (((a.tmps.setIfInBounds p1 v).setIfInBounds p2 u).setIfInBounds s1 v).setIfInBounds s2 (.pointer (some ⟨Bx, 0, none⟩)), defers := [] }

theorem box_own {β : Type} (B Bx : Nat) (o : Obj) (ho : o.isCells = true) : OwnFrom B (fun (_ : β) W => W.heap[Bx]? = some o) := fun s W W' row hs hg hr => by
  refine (hg.block Bx (lt_of_block hs) (fun e => ?_)).trans hs
  obtain ⟨_, o', ho', hc⟩ := hr Bx e.symm
  rw [hs] at ho'
  cases ho'
  rw [ho] at hc
  cases hc

theorem range2 {α : Type} {F : Fence} {n : Nat} {P : Program} {g : Operand} {ps : Array Tmp} {assign body : Code} {Q : Exit → Act → World → Prop} {a : Act} {w : World}
    (hro : F.round = none) (h1 : 1 ≤ n) {gf : Nat} {lb : Array Value} (hg : a.eval g = .func (.func gf) #[] lb) (hFg : F.fn gf) (eg : ∀ args w, (callFunc gf args).run P w = .ok (.enter gf args) w)
    (p1 p2 s1 s2 : Nat) (tv : α → Value) (pv : α → Value) (pcs : α → Array Value) {Kp : World → World → Prop} {S Sp : List α → Prop} {N : Nat} {w0 : World} (hseq : SeqStopsK F (n - 1) P gf lb (fun x => #[tv x, pv x]) Kp S Sp N w0)
    (hKt : ∀ {A B C : World}, Kp A B → Kp B C → Kp A C) (hKb : ∀ (W : World) (l : Nat) (o o' : Obj), w.heap.size ≤ l → W.heap[l]? = some o → o.isCells = false → o.isWalk = false → Kp W (W.putObj l o')) (hb0 : Below w0.heap.size w0 w) (hps : ps.size = 2)
    (I : List α → World → Prop) (Ix : Code → List α → World → Prop) (hI : OwnFrom w.heap.size I) (hIx : ∀ c, OwnFrom w.heap.size (Ix c)) (h0 : I [] w)
    (hassign : ∀ (l : Nat) (pre : List α) (x : α) (W : World) (K : Act → World → Prop), I pre W →
      (∀ W' Bx, KeepsFrom w.heap.size W W' → Kp W W' → I pre W' → w.heap.size ≤ Bx → W'.heap[Bx]? = some (.cells (pcs x) 31 (0, 0)) → K (bframe a p1 p2 s1 s2 (tv x) (pv x) Bx) W') →
      assign.wpIn (F.inRound l) (n - 1 - 1) P (Exit.then K (fun _ _ _ => False)) { tmps := (ps.zip #[tv x, pv x]).foldl (fun t (p, v) => t.setIfInBounds p v) a.tmps, defers := [] } W)
    (hbody : ∀ (l : Nat) (pre : List α) (x : α) (Bx : Nat) (W : World), I pre W → w.heap.size ≤ Bx → W.heap[Bx]? = some (.cells (pcs x) 31 (0, 0)) → pre.length < N → body.wpIn (F.inRound l) (n - 1 - 1) P (ownPostG w.heap.size Kp I Ix (pre ++ [x]) W) (bframe a p1 p2 s1 s2 (tv x) (pv x) Bx) W)
    (hdone : ∀ (D : Nat) (xs : List α) (W : World), w.heap.size ≤ D → S xs → I xs W → W.heap[D]? = some (.deferred (some [])) → Q .normal { a with defers := { target := .collected D, args := #[] } :: a.defers } W)
    (hstop : ∀ (D : Nat) (c : Code) (pre : List α) (W : World), w.heap.size ≤ D → Sp pre → Ix c pre W → W.heap[D]? = some (.deferred (some [])) → c.wpIn F n P Q { a with defers := { target := .collected D, args := #[] } :: a.defers } W) :
    (Code.rangeFunc g ps assign body).wpIn F n P Q a w := by
  refine wpIn_rangeFunc_ownH hro h1 hg hFg eg hseq hKt hKb hb0 (fun x => by rw [hps]; rfl) I Ix hI hIx h0
    (fun x a' W => ∃ Bx, w.heap.size ≤ Bx ∧ W.heap[Bx]? = some (.cells (pcs x) 31 (0, 0)) ∧ a' = bframe a p1 p2 s1 s2 (tv x) (pv x) Bx) ?_ ?_ ?_ hdone hstop
  · intro x a' s W W' row hs hg' hr
    obtain ⟨Bx, h1, h2, h3⟩ := hs
    exact ⟨Bx, h1, box_own (β := Unit) _ Bx _ rfl s W W' row h2 hg' hr, h3⟩
  · intro l pre x W K hi hK
    exact hassign l pre x W K hi (fun W' Bx k1 k2 k3 k4 k5 => hK _ W' k1 k2 k3 ⟨Bx, k4, k5, rfl⟩)
  · rintro l pre x a' W _ _ hi ⟨Bx, k4, k5, rfl⟩ hlt
    exact hbody l pre x Bx W hi k4 k5 hlt

end Go.Proofs.Ybulkdlic
