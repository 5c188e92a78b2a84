/-
  DERIVED. alloc.LawS5618BWhole: ARRAYS THAT THE LAW FILLS.
-/
import Derived.Test.YbulkdlicBLaw0
namespace Go.Proofs.Ybulkdlic
open Go.RowKit

theorem info29m : (Yba.prog.info? 29).map (fun i => (i.zero, i.size, i.bytes)) = some (some (.agg #[.int .u64 0, .int .u64 0]), 2, 16) := by kernel_rfl
theorem info25m : (Yba.prog.info? 25).map (fun i => (i.zero, i.size, i.bytes)) = some (some (.slice none 0 0), 1, 24) := by kernel_rfl
theorem info4m : (Yba.prog.info? 4).map (fun i => (i.zero, i.size, i.bytes)) = some (some (.bool false), 1, 1) := by kernel_rfl
theorem und55 : Yba.prog.underlying 55 = some (.slice 29) := by kernel_rfl
theorem und63 : Yba.prog.underlying 63 = some (.slice 4) := by kernel_rfl
theorem und64 : Yba.prog.underlying 64 = some (.slice 25) := by kernel_rfl
theorem make29 (n : Nat) (hl : n ≤ 100000) (w : World) :
    (Instr.makeSlice 55 (.int .i64 (n : Int)) (.int .i64 (n : Int))).run Yba.prog w = .ok (.slice (some ⟨w.heap.size, 0, none⟩) n n) (w.alloc (.cells (madeCells #[.int .u64 0, .int .u64 0] (n * 2)) 29)) := by
  obtain ⟨i, hi, hz, hs, hb⟩ := info_parts info29m
  have h := run_make (P := Yba.prog) w 55 29 i _ und55 hi hz .i64 .i64 n n (by omega) (Int.le_refl _) (by rw [hb]; omega) (by omega)
  rw [hs] at h
  simpa [Value.cells] using h
theorem make4 (n : Nat) (hl : n ≤ 100000) (w : World) :
    (Instr.makeSlice 63 (.int .i64 (n : Int)) (.int .i64 (n : Int))).run Yba.prog w = .ok (.slice (some ⟨w.heap.size, 0, none⟩) n n) (w.alloc (.cells (madeCells #[.bool false] n) 4)) :=
  run_make_row' (P := Yba.prog) 63 4 (.bool false) 1 und63 info4m rfl .i64 .i64 n (by omega) (by omega) w
theorem make25 (n : Nat) (hl : n ≤ 100000) (w : World) :
    (Instr.makeSlice 64 (.int .i64 (n : Int)) (.int .i64 (n : Int))).run Yba.prog w = .ok (.slice (some ⟨w.heap.size, 0, none⟩) n n) (w.alloc (.cells (madeCells #[.slice none 0 0] n) 25)) :=
  run_make_row' (P := Yba.prog) 64 25 (.slice none 0 0) 24 und64 info25m rfl .i64 .i64 n (by omega) (by omega) w

/-- An array of cnt cells at block b. -/
structure RW (b cnt : Nat) (f : Nat → Value) (w : World) : Prop where
  cell : ∀ c, c < cnt → w.cell? ⟨b, c, none⟩ = some (f c)
  fro : ∀ c, w.frozen? ⟨b, c, none⟩ = false
  lt : b < w.heap.size

theorem RW.made (w : World) (z : Array Value) (cnt : Nat) (ty : TypeId) : RW w.heap.size cnt (fun c => z[c % z.size]!) (w.alloc (.cells (madeCells z cnt) ty)) := by
  have hb := heap_alloc_new w (.cells (madeCells z cnt) ty)
  refine ⟨fun c hc => ?_, fun c => ?_, by simp⟩
  · unfold World.cell?
    simp only [hb]
    simp [madeCells, hc]
  · unfold World.frozen?
    simp only [hb]
    simp
theorem RW.block {b cnt : Nat} {f : Nat → Value} {w w' : World} (r : RW b cnt f w) (hb : w'.heap[b]? = w.heap[b]?) : RW b cnt f w' := by
  refine ⟨fun c hc => (World.cell?_of_block (w := w) hb).trans (r.cell c hc), fun c => (World.frozen?_of_block (w := w) hb).trans (r.fro c), ?_⟩
  have h1 : w.heap[b]? ≠ none := by simp [r.lt]
  rw [← hb] at h1
  exact Nat.lt_of_not_le fun e => h1 (Array.getElem?_eq_none e)
theorem RW.below {b cnt : Nat} {f : Nat → Value} {w w' : World} (r : RW b cnt f w) (hb : Below w.heap.size w w') : RW b cnt f w' := r.block (hb.block b r.lt)
theorem RW.set {b cnt : Nat} {f : Nat → Value} {w : World} (r : RW b cnt f w) {c : Nat} (hc : c < cnt) (u : Value) : RW b cnt (fun d => if d = c then u else f d) (w.setCell ⟨b, c, none⟩ u) := by
  refine ⟨fun d hd => ?_, fun d => by rw [World.frozen?_setCell]; exact r.fro d, by simpa using r.lt⟩
  by_cases e : d = c
  · subst e
    rw [if_pos rfl]
    exact World.cell?_setCell_same' _ _ _ (by rw [r.cell d hd]; rfl)
  · rw [if_neg e, World.cell?_setCell_other _ _ _ _ (fun h => e (by cases h; rfl))]
    exact r.cell d hd
theorem RW.other {b cnt : Nat} {f : Nat → Value} {w : World} (r : RW b cnt f w) {b' c : Nat} (hne : b ≠ b') (u : Value) : RW b cnt f (w.setCell ⟨b', c, none⟩ u) := r.block (Below.heap_setCell _ _ _ _ hne)

end Go.Proofs.Ybulkdlic
