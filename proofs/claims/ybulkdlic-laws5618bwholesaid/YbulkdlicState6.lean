/-
  DERIVED. alloc.LawS5618AWhole: THE TWO ROWS OF WHAT IS WANTED, AS CELLS.
-/
import Derived.Test.YbulkdlicState5
import Derived.Laws.OwnMore
namespace Go.Proofs.Ybulkdlic
open Go.RowKit Go.Shelf

/-- The wanted rows as the ranges' bodies read them. -/
structure WF (p : PL) (th tl uh ul : Int) (i0 c gI gQ capI capQ : Nat) (M : Nat) (W : World) : Prop where
  bi : W.cell? ⟨M + 1 + 1, 0, none⟩ = some (.slice (some ⟨gI, 0, none⟩) c capI)
  bq : W.cell? ⟨M + 1 + 1 + 1, 0, none⟩ = some (.slice (some ⟨gQ, 0, none⟩) c capQ)
  ix : ∀ x, x < c → W.cell? ⟨gI, x, none⟩ = some (.int .i64 ((i0 + x : Nat) : Int))
  q0 : ∀ x, x < c → W.cell? ⟨gQ, x * 4, none⟩ = some (.int .u64 (p.aH th tl (i0 + x)))
  q1 : ∀ x, x < c → W.cell? ⟨gQ, x * 4 + 1, none⟩ = some (.int .u64 (p.aL th tl (i0 + x)))
  q2 : ∀ x, x < c → W.cell? ⟨gQ, x * 4 + 2, none⟩ = some (.int .u64 (p.zH uh ul (i0 + x)))
  q3 : ∀ x, x < c → W.cell? ⟨gQ, x * 4 + 3, none⟩ = some (.int .u64 (p.zL uh ul (i0 + x)))

theorem flat_at {p : PL} {th tl uh ul : Int} {i0 : Nat} : ∀ (c x d : Nat), x < c → d < 4 → ((List.range c).flatMap fun y => pcells p th tl uh ul (i0 + y))[x * 4 + d]? = (pcells p th tl uh ul (i0 + x))[d]?
  | c + 1, x, d, hx, hd => by
    have hl : ∀ c, ((List.range c).flatMap fun y => pcells p th tl uh ul (i0 + y)).length = c * 4 := fun c => by
      induction c with
      | zero => rfl
      | succ c ih => rw [List.range_succ, List.flatMap_append, List.length_append, ih]; simp [pcells]; omega
    rw [List.range_succ, List.flatMap_append]
    by_cases e : x = c
    · subst e
      rw [List.getElem?_append_right (by rw [hl]; omega), hl]
      simp only [List.flatMap_cons, List.flatMap_nil, List.append_nil]
      rw [show x * 4 + d - x * 4 = d by omega]
    · rw [List.getElem?_append_left (by rw [hl]; omega)]
      exact flat_at c x d (by omega) hd

theorem DInv.wf {w : World} {n : Nat} {rev : Bool} {h : Int} {gap ln : Nat → Nat} {pb : Option Addr} {cap BB M : Nat} {th tl uh ul : Int} {i0 c : Nat} {vi vp : Value} {wr : World} (D : DInv w n rev h gap ln pb cap BB M th tl uh ul i0 c c vi vp wr) (hc : 0 < c) :
    ∃ gI gQ capI capQ, WF (plOf w n rev h gap ln pb cap BB) th tl uh ul i0 c gI gQ capI capQ M wr ∧ gI < wr.heap.size ∧ gQ < wr.heap.size := by
  obtain ⟨gI, capI, hvi, _, l1⟩ := D.oi.form hc
  obtain ⟨gQ, capQ, hvq, _, l2⟩ := D.oq.form hc
  subst hvi hvq
  have key : ∀ x d v, x < c → d < 4 → (pcells (plOf w n rev h gap ln pb cap BB) th tl uh ul (i0 + x))[d]? = some v → wr.cell? ⟨gQ, x * 4 + d, none⟩ = some v := fun x d v hx hd hv => by
    rw [D.oq.cellAt (x * 4 + d) (by omega), flat_at c x d hx hd]
    exact hv
  refine ⟨gI, gQ, capI, capQ, ⟨by show wr.cell? ⟨M + 2, 0, none⟩ = _; have := D.bi; simp [World.cell?, this], by show wr.cell? ⟨M + 3, 0, none⟩ = _; have := D.bq; simp [World.cell?, this], fun x hx => ?_, fun x hx => key x 0 _ hx (by omega) rfl, fun x hx => key x 1 _ hx (by omega) rfl, fun x hx => key x 2 _ hx (by omega) rfl, fun x hx => key x 3 _ hx (by omega) rfl⟩, l1, l2⟩
  rw [D.oi.cellAt x (by omega)]
  simp [hx]

end Go.Proofs.Ybulkdlic
