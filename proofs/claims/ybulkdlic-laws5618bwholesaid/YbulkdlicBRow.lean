/-
  DERIVED. alloc.LawS5618BWhole: A ROW OF RUNS IN MEMORY: its cells; 'copy' over it.
-/
import Derived.Test.YbulkdlicBLeaf
import Derived.Laws.IdiomCopy
import Derived.Deep.AppendLies
import Derived.Deep.AppendSrc
import Derived.Deep.Upon
import Derived.Lib.AppendZerosOnto
import Derived.Lib.Overlaps
import Derived.Shelf.Spec.SlicesInsert
namespace Go.Proofs.Ybulkdlic
open Go.RowKit

/-- The four cells of a run. -/
def rc (r : Nat × Nat) : List Value := [.int .u64 0, .int .u64 (r.1 : Int), .int .u64 0, .int .u64 (r.2 : Int)]
def flat (L : List (Nat × Nat)) : List Value := L.flatMap rc
theorem flat_nil : flat [] = [] := rfl
theorem flat_cons (r : Nat × Nat) (L : List (Nat × Nat)) : flat (r :: L) = rc r ++ flat L := rfl
theorem flat_append (L M : List (Nat × Nat)) : flat (L ++ M) = flat L ++ flat M := by simp [flat]
theorem flat_one (r : Nat × Nat) : flat [r] = rc r := by simp [flat]
theorem flat_length (L : List (Nat × Nat)) : (flat L).length = L.length * 4 := by
  induction L with
  | nil => rfl
  | cons r L ih => rw [flat_cons, List.length_append, ih]; simp [rc]; omega
theorem flat_take : ∀ (L : List (Nat × Nat)) (i : Nat), (flat L).take (i * 4) = flat (L.take i)
  | [], i => by simp [flat]
  | r :: L, 0 => by simp [flat]
  | r :: L, i + 1 => by
    rw [flat_cons, List.take_succ_cons, flat_cons, show (i + 1) * 4 = (rc r).length + i * 4 by simp [rc]; omega, List.take_length_add_append, flat_take L i]
theorem flat_drop : ∀ (L : List (Nat × Nat)) (i : Nat), (flat L).drop (i * 4) = flat (L.drop i)
  | [], i => by simp [flat]
  | r :: L, 0 => by simp
  | r :: L, i + 1 => by
    rw [flat_cons, List.drop_succ_cons, show (i + 1) * 4 = (rc r).length + i * 4 by simp [rc]; omega, List.drop_length_add_append, flat_drop L i]
theorem flat_cells (L : List (Nat × Nat)) : ∀ v ∈ flat L, v.oneCell' = true := by
  intro v hv
  obtain ⟨r, _, hr⟩ := List.mem_flatMap.1 hv
  simp [rc] at hr
  rcases hr with rfl | rfl | rfl | rfl <;> rfl
theorem flat4_at {L : List (Nat × Nat)} {j : Nat} {r : Nat × Nat} (h : L[j]? = some r) {d : Nat} (hd : d < 4) : (flat L)[j * 4 + d]? = (rc r)[d]? := by
  have e := flat_drop L j
  have h2 : L.drop j = r :: L.drop (j + 1) := by
    obtain ⟨h3, h4⟩ := List.getElem?_eq_some_iff.1 h
    rw [List.drop_eq_getElem_cons h3, h4]
  rw [h2, flat_cons] at e
  have e2 := congrArg (fun l => l[d]?) e
  simp only [List.getElem?_drop] at e2
  rw [e2, List.getElem?_append_left (by simp [rc]; omega)]

theorem info31b : (Yba.prog.info? 31).map (fun i => (i.zero, i.size, i.bytes)) = some (some (.agg #[.int .u64 0, .int .u64 0, .int .u64 0, .int .u64 0]), 4, 32) := by kernel_rfl

/-- 'copy' at rows of runs. -/
theorem run_copy4 (w : World) (ty : TypeId) (b o dLen dCap : Nat) (a : Addr) (sLen sCap : Nat) (cs : List Value) (hn : cs.length = Nat.min sLen dLen * 4)
    (hsrc : ∀ j v, cs[j]? = some v → w.cell? (a.add j) = some v) (hc : ∀ j, j < cs.length → (w.cell? ⟨b, o + j, none⟩).isSome = true) (hf : ∀ j, j < cs.length → w.frozen? ⟨b, o + j, none⟩ = false) (h1 : ∀ v ∈ cs, v.oneCell' = true) :
    (Builtin.copy_ #[25, 25] ty #[.slice (some ⟨b, o, none⟩) dLen dCap, .slice (some a) sLen sCap]).run Yba.prog w = .ok (goInt (Nat.min sLen dLen)) (w.setCells b o cs) := by
  have hl := run_loadCells_list (P := Yba.prog) w a cs hsrc
  have hst := run_storeCells_cells (P := Yba.prog) b o cs 0 w (by simpa using hc) (by simpa using hf) h1
  obtain ⟨i, hi, hz0, hz1, hz2⟩ := info_parts info31b
  simp only [Nat.add_zero] at hst
  simp [Builtin.copy_, run_underlying Yba.underlying25, Builtin.lenOf, Builtin.firstCells, sizeOf, typeInfo, hi, hz1, ← hn, hl, hst]

theorem size_setCells' (b : Nat) : ∀ (vs : List Value) (o : Nat) (w : World), (w.setCells b o vs).heap.size = w.heap.size
  | [], _, _ => rfl
  | v :: r, o, w => by rw [World.setCells, size_setCells' b r]; simp
theorem tape_setCells (b : Nat) : ∀ (vs : List Value) (o : Nat) (w : World), (w.setCells b o vs).tape = w.tape ∧ (w.setCells b o vs).output = w.output ∧ (w.setCells b o vs).os = w.os
  | [], _, _ => ⟨rfl, rfl, rfl⟩
  | v :: r, o, w => by rw [World.setCells]; exact tape_setCells b r (o + 1) _
theorem heap_setCells_shape {g : Nat} {t : TypeId} : ∀ (vs : List Value) (o : Nat) (w : World) (cur : Array Value), w.heap[g]? = some (.cells cur t (0, 0)) → ∃ cur', (w.setCells g o vs).heap[g]? = some (.cells cur' t (0, 0)) ∧ cur'.size = cur.size
  | [], _, _, cur, h => ⟨cur, h, rfl⟩
  | v :: r, o, w, cur, h => by
    obtain ⟨c2, h2, h3⟩ := heap_setCells_shape r (o + 1) (w.setCell ⟨g, o, none⟩ v) (cur.setIfInBounds o v) (heap_setCell_same w g o cur t v h)
    exact ⟨c2, h2, by rw [h3]; simp⟩
theorem grown_setCells (w : World) (g o : Nat) (vs : List Value) : w.grownBy (w.setCells g o vs) (some g) :=
  ⟨(tape_setCells g vs o w).2.2, (tape_setCells g vs o w).1, (tape_setCells g vs o w).2.1, Nat.le_of_eq (size_setCells' g vs o w).symm, fun k hk hne => World.heap_setCells_other w g o vs hk (fun e => hne (by rw [e]))⟩

/-- A row that is owned, from its cells. -/
theorem owns_of_cells {w : World} {base g cap n : Nat} {cur : Array Value} {G : List Value} (hb : base ≤ g) (hg : w.heap[g]? = some (.cells cur 31 (0, 0))) (hn : n ≤ cap) (hc : cap ≤ maxLen) (hs : cur.size = cap * 4) (hG : G.length = n * 4)
    (h : ∀ j v, G[j]? = some v → w.cell? ⟨g, j, none⟩ = some v) : w.ownsRow base 31 4 (.slice (some ⟨g, 0, none⟩) n cap) n G := by
  refine ⟨hG, .inr ⟨g, cap, cur, rfl, hb, hg, hn, hc, hs, ?_⟩⟩
  apply List.ext_getElem?
  intro j
  by_cases hj : j < n * 4
  · rw [List.getElem?_take_of_lt hj]
    have hv : G[j]? = some (G[j]'(by omega)) := List.getElem?_eq_getElem _
    have := h j _ hv
    rw [hv]
    simpa [World.cell?, hg] using this
  · rw [List.getElem?_eq_none (by simp; omega), List.getElem?_eq_none (by omega)]

end Go.Proofs.Ybulkdlic
