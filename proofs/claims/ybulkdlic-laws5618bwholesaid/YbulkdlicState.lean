/-
  DERIVED. alloc.LawS5618AWhole: WHAT THE LAW's OWN LOOPS LAY.
-/
import Derived.Test.YbulkdlicNew
import Derived.Test.YbulkdlicIter
import Derived.Test.YbulkdlicPlain
namespace Go.Proofs.Ybulkdlic
open Go.RowKit Go.Shelf

attribute [local go_sem ↓] Go.wp_at_zero Go.wp_at_succ

def rzero : Array Value := #[.int .u64 0, .int .u64 0, .int .u64 0, .int .u64 0]
theorem info31 : (Yba.prog.info? 31).map (fun i => (i.zero, i.size, i.bytes)) = some (some (.agg rzero), 4, 32) := by kernel_rfl
theorem make31 (n : Nat) (hl : n ≤ 65536) (w : World) :
    (Instr.makeSlice 25 (.int .i64 (n : Int)) (.int .i64 (n : Int))).run Yba.prog w = .ok (.slice (some ⟨w.heap.size, 0, none⟩) n n) (w.alloc (.cells (madeCells rzero (n * 4)) 31)) := by
  obtain ⟨i, hi, hz, hs, hb⟩ := info_parts info31
  have h := run_make (P := Yba.prog) w 25 31 i _ Yba.underlying25 hi hz .i64 .i64 n n (by omega) (Int.le_refl _) (by rw [hb]; omega) (by omega)
  rw [hs] at h
  simpa [Value.cells] using h

/-- Where tier k begins to be looked for; its first and last number. -/
def curN (gap ln : Nat → Nat) : Nat → Nat
  | 0 => 0
  | k + 1 => curN gap ln k + gap k + ln k + 1
def firN (gap ln : Nat → Nat) (k : Nat) : Nat := curN gap ln k + gap k
def lasN (gap ln : Nat → Nat) (k : Nat) : Nat := curN gap ln k + gap k + ln k
theorem curN_le (gap ln : Nat → Nat) (hg : ∀ k, gap k ≤ 255) (hl : ∀ k, ln k ≤ 255) : ∀ k, curN gap ln k ≤ k * 511
  | 0 => Nat.le_refl _
  | k + 1 => by have := curN_le gap ln hg hl k; have := hg k; have := hl k; simp only [curN]; omega

/-- Cell c of tier i's range, by value. -/
def sval (h : Int) (gap ln : Nat → Nat) (i c : Nat) : Int := if c = 1 then (firN gap ln i : Int) else if c = 3 then (lasN gap ln i : Int) else h
/-- The row of ranges with those of which 'have' holds laid. -/
def scell (f : Nat → Nat → Int) (p : Nat → Bool) (c : Nat) : Value := if p (c / 4) then .int .u64 (f (c / 4) (c % 4)) else .int .u64 0

/-- Behind the first loop's k rounds: the boxes of rev and n, and the row 'sorted'. -/
structure AInv (w : World) (n : Nat) (rev : Bool) (f : Nat → Nat → Int) (k : Nat) (wr : World) : Prop where
  brev : wr.heap[w.heap.size]? = some (.cells #[.bool rev] 4 (0, 0))
  bn : wr.heap[w.heap.size + 1]? = some (.cells #[.int .i64 (n : Int)] 3 (0, 0))
  sorted : wr.rowIs (w.heap.size + 2) 31 (n * 4) (scell f fun j => decide (j < k))
  size : wr.heap.size = w.heap.size + 3
  below : Below w.heap.size w wr

theorem rz_at (c : Nat) : rzero[c % 4]! = .int .u64 0 := by
  have h : c % 4 = 0 ∨ c % 4 = 1 ∨ c % 4 = 2 ∨ c % 4 = 3 := by omega
  rcases h with h | h | h | h <;> rw [h] <;> rfl
theorem made_rzero (n c : Nat) (hc : c < n) : (madeCells rzero n)[c]? = some (.int .u64 0) := by
  rw [← rz_at c]
  have : rzero.size = 4 := rfl
  simp [madeCells, hc, this]

theorem a_start (w : World) (n : Nat) (rev : Bool) (f : Nat → Nat → Int) : AInv w n rev f 0 (((w.alloc (.cells #[.bool rev] 4)).alloc (.cells #[.int .i64 (n : Int)] 3)).alloc (.cells (madeCells rzero (n * 4)) 31)) := by
  refine ⟨?_, ?_, ?_, ?_, ?_⟩
  · rw [Below.heap_alloc _ _ _ (by simp; omega), Below.heap_alloc _ _ _ (by simp)]
    exact heap_alloc_new w _
  · rw [Below.heap_alloc _ _ _ (by simp)]
    have h := heap_alloc_new (w.alloc (.cells #[.bool rev] 4)) (.cells #[.int .i64 (n : Int)] 3)
    simpa using h
  · have h := heap_alloc_new ((w.alloc (.cells #[.bool rev] 4)).alloc (.cells #[.int .i64 (n : Int)] 3)) (.cells (madeCells rzero (n * 4)) 31)
    refine ⟨_, by simpa using h, size_madeCells _ _, fun c hc => ?_⟩
    rw [made_rzero _ _ hc]
    simp [scell]
  · simp
  · exact (((Below.refl _ _).alloc (Nat.le_refl _) _).alloc (by simp) _).alloc (by simp; omega) _

/-- Four cells of a row of ranges written. -/
theorem scell_set (f : Nat → Nat → Int) (p : Nat → Bool) (j c : Nat) (v0 v1 v2 v3 : Int) (h0 : v0 = f j 0) (h1 : v1 = f j 1) (h2 : v2 = f j 2) (h3 : v3 = f j 3) :
    (if c = j * 4 + 3 then Value.int .u64 v3 else if c = j * 4 + 2 then .int .u64 v2 else if c = j * 4 + 1 then .int .u64 v1 else if c = j * 4 then .int .u64 v0 else scell f p c) = scell f (fun i => p i || decide (i = j)) c := by
  subst h0 h1 h2 h3
  by_cases e3 : c = j * 4 + 3
  · subst e3; rw [if_pos rfl]; unfold scell; rw [show (j * 4 + 3) / 4 = j by omega, show (j * 4 + 3) % 4 = 3 by omega]; simp
  rw [if_neg e3]
  by_cases e2 : c = j * 4 + 2
  · subst e2; rw [if_pos rfl]; unfold scell; rw [show (j * 4 + 2) / 4 = j by omega, show (j * 4 + 2) % 4 = 2 by omega]; simp
  rw [if_neg e2]
  by_cases e1 : c = j * 4 + 1
  · subst e1; rw [if_pos rfl]; unfold scell; rw [show (j * 4 + 1) / 4 = j by omega, show (j * 4 + 1) % 4 = 1 by omega]; simp
  rw [if_neg e1]
  by_cases e0 : c = j * 4
  · subst e0; rw [if_pos rfl]; unfold scell; rw [show (j * 4) / 4 = j by omega, show (j * 4) % 4 = 0 by omega]; simp
  rw [if_neg e0]
  unfold scell
  have : ¬ c / 4 = j := by omega
  simp [this]

/-- One tier laid. -/
theorem a_step {w : World} {n : Nat} {rev : Bool} {f : Nat → Nat → Int} {k : Nat} {wr : World} (hi : AInv w n rev f k wr) (v0 v1 v2 v3 : Int) (h0 : v0 = f k 0) (h1 : v1 = f k 1) (h2 : v2 = f k 2) (h3 : v3 = f k 3) :
    AInv w n rev f (k + 1) ((((wr.setCell ⟨w.heap.size + 1 + 1, k * 4, none⟩ (.int .u64 v0)).setCell ⟨w.heap.size + 1 + 1, k * 4 + 1, none⟩ (.int .u64 v1)).setCell ⟨w.heap.size + 1 + 1, k * 4 + 2, none⟩ (.int .u64 v2)).setCell ⟨w.heap.size + 1 + 1, k * 4 + 3, none⟩ (.int .u64 v3)) := by
  have hb : ∀ b, b ≠ w.heap.size + 2 → ((((wr.setCell ⟨w.heap.size + 1 + 1, k * 4, none⟩ (.int .u64 v0)).setCell ⟨w.heap.size + 1 + 1, k * 4 + 1, none⟩ (.int .u64 v1)).setCell ⟨w.heap.size + 1 + 1, k * 4 + 2, none⟩ (.int .u64 v2)).setCell ⟨w.heap.size + 1 + 1, k * 4 + 3, none⟩ (.int .u64 v3)).heap[b]? = wr.heap[b]? := fun b hne => by
    rw [Below.heap_setCell _ _ _ _ hne, Below.heap_setCell _ _ _ _ hne, Below.heap_setCell _ _ _ _ hne, Below.heap_setCell _ _ _ _ hne]
  refine ⟨(hb _ (by omega)).trans hi.brev, (hb _ (by omega)).trans hi.bn, ?_, by simp [hi.size], ?_⟩
  · refine World.rowIs.congr (f := _) ((((hi.sorted.set (k * 4) (.int .u64 v0)).set (k * 4 + 1) (.int .u64 v1)).set (k * 4 + 2) (.int .u64 v2)).set (k * 4 + 3) (.int .u64 v3)) fun c hc => ?_
    rw [scell_set f _ k c v0 v1 v2 v3 h0 h1 h2 h3]
    unfold scell
    show (if (decide (c / 4 < k) || decide (c / 4 = k)) = true then Value.int .u64 (f (c / 4) (c % 4)) else .int .u64 0) = (if decide (c / 4 < k + 1) = true then Value.int .u64 (f (c / 4) (c % 4)) else .int .u64 0)
    have e : (decide (c / 4 < k) || decide (c / 4 = k)) = decide (c / 4 < k + 1) := by
      by_cases e1 : c / 4 < k
      · simp [e1]; omega
      · by_cases e2 : c / 4 = k
        · simp [e2]
        · simp [e1, e2]; omega
    rw [e]
  · exact (((hi.below.setCell (p := ⟨w.heap.size + 1 + 1, k * 4, none⟩) (by show w.heap.size ≤ w.heap.size + 1 + 1; omega) _).setCell (p := ⟨w.heap.size + 1 + 1, k * 4 + 1, none⟩) (by show w.heap.size ≤ w.heap.size + 1 + 1; omega) _).setCell (p := ⟨w.heap.size + 1 + 1, k * 4 + 2, none⟩) (by show w.heap.size ≤ w.heap.size + 1 + 1; omega) _).setCell (p := ⟨w.heap.size + 1 + 1, k * 4 + 3, none⟩) (by show w.heap.size ≤ w.heap.size + 1 + 1; omega) _

/-- Behind the second loop's k rounds: the row 'in' too. -/
structure BInv (w : World) (n : Nat) (rev : Bool) (f : Nat → Nat → Int) (k : Nat) (wr : World) : Prop where
  brev : wr.heap[w.heap.size]? = some (.cells #[.bool rev] 4 (0, 0))
  bn : wr.heap[w.heap.size + 1]? = some (.cells #[.int .i64 (n : Int)] 3 (0, 0))
  sorted : wr.rowIs (w.heap.size + 2) 31 (n * 4) (scell f fun _ => true)
  inr : wr.rowIs (w.heap.size + 3) 31 (n * 4) (scell (fun j => f (pr rev n j)) fun j => decide (pr rev n j < k))
  size : wr.heap.size = w.heap.size + 4
  below : Below w.heap.size w wr

theorem b_start {w : World} {n : Nat} {rev : Bool} {f : Nat → Nat → Int} {wr : World} (h : AInv w n rev f n wr) : BInv w n rev f 0 (wr.alloc (.cells (madeCells rzero (n * 4)) 31)) := by
  have hs := h.size
  refine ⟨(Below.heap_alloc _ _ _ (by omega)).trans h.brev, (Below.heap_alloc _ _ _ (by omega)).trans h.bn, (h.sorted.alloc _).congr fun c hc => ?_, ?_, by simp [hs], h.below.alloc h.below.size _⟩
  · unfold scell
    have : c / 4 < n := by omega
    simp [this]
  · have e := heap_alloc_new wr (.cells (madeCells rzero (n * 4)) 31)
    rw [hs] at e
    refine ⟨_, e, size_madeCells _ _, fun c hc => ?_⟩
    rw [made_rzero _ _ hc]
    simp [scell]

theorem b_step {w : World} {n : Nat} {rev : Bool} {f : Nat → Nat → Int} {m j : Nat} {wr : World} (hi : BInv w n rev f m wr) (_ : j < n) (hj : pr rev n m = j) (hjj : pr rev n j = m) :
    BInv w n rev f (m + 1) ((((wr.setCell ⟨w.heap.size + 3, j * 4, none⟩ (.int .u64 (f m 0))).setCell ⟨w.heap.size + 3, j * 4 + 1, none⟩ (.int .u64 (f m 1))).setCell ⟨w.heap.size + 3, j * 4 + 2, none⟩ (.int .u64 (f m 2))).setCell ⟨w.heap.size + 3, j * 4 + 3, none⟩ (.int .u64 (f m 3))).drew := by
  have hb : ∀ b, b ≠ w.heap.size + 3 → ((((wr.setCell ⟨w.heap.size + 3, j * 4, none⟩ (.int .u64 (f m 0))).setCell ⟨w.heap.size + 3, j * 4 + 1, none⟩ (.int .u64 (f m 1))).setCell ⟨w.heap.size + 3, j * 4 + 2, none⟩ (.int .u64 (f m 2))).setCell ⟨w.heap.size + 3, j * 4 + 3, none⟩ (.int .u64 (f m 3))).drew.heap[b]? = wr.heap[b]? := fun b hne => by
    show ((((wr.setCell _ _).setCell _ _).setCell _ _).setCell _ _).heap[b]? = _
    rw [Below.heap_setCell _ _ _ _ hne, Below.heap_setCell _ _ _ _ hne, Below.heap_setCell _ _ _ _ hne, Below.heap_setCell _ _ _ _ hne]
  refine ⟨(hb _ (by omega)).trans hi.brev, (hb _ (by omega)).trans hi.bn, hi.sorted.of_block (hb _ (by omega)), ?_, ?_, ?_⟩
  · refine World.rowIs.congr (f := _) ((((hi.inr.set (j * 4) (.int .u64 (f m 0))).set (j * 4 + 1) (.int .u64 (f m 1))).set (j * 4 + 2) (.int .u64 (f m 2))).set (j * 4 + 3) (.int .u64 (f m 3))) fun c hc => ?_
    rw [scell_set (fun j => f (pr rev n j)) _ j c _ _ _ _ (by rw [hjj]) (by rw [hjj]) (by rw [hjj]) (by rw [hjj])]
    unfold scell
    show (if (decide (pr rev n (c / 4) < m) || decide (c / 4 = j)) = true then Value.int .u64 (f (pr rev n (c / 4)) (c % 4)) else .int .u64 0) = (if decide (pr rev n (c / 4) < m + 1) = true then Value.int .u64 (f (pr rev n (c / 4)) (c % 4)) else .int .u64 0)
    have e : (decide (pr rev n (c / 4) < m) || decide (c / 4 = j)) = decide (pr rev n (c / 4) < m + 1) := by
      have hcn : c / 4 < n := by omega
      by_cases e2 : c / 4 = j
      · rw [e2, hjj]; simp
      · have : ¬ pr rev n (c / 4) = m := fun e => e2 (by rw [← hj, ← e]; unfold pr; split <;> omega)
        by_cases e1 : pr rev n (c / 4) < m
        · simp [e1]; omega
        · simp [e1, e2]; omega
    rw [e]
  · show ((((wr.setCell _ _).setCell _ _).setCell _ _).setCell _ _).heap.size = _
    simp [hi.size]
  · exact ((((hi.below.setCell (p := ⟨w.heap.size + 3, j * 4, none⟩) (by show w.heap.size ≤ w.heap.size + 3; omega) _).setCell (p := ⟨w.heap.size + 3, j * 4 + 1, none⟩) (by show w.heap.size ≤ w.heap.size + 3; omega) _).setCell (p := ⟨w.heap.size + 3, j * 4 + 2, none⟩) (by show w.heap.size ≤ w.heap.size + 3; omega) _).setCell (p := ⟨w.heap.size + 3, j * 4 + 3, none⟩) (by show w.heap.size ≤ w.heap.size + 3; omega) _).drew

theorem firN_lt (gap ln : Nat → Nat) : ∀ {i j : Nat}, i < j → lasN gap ln i < curN gap ln j
  | i, j + 1, h => by
    by_cases e : i = j
    · subst e; simp only [lasN, curN]; omega
    · have := firN_lt gap ln (i := i) (j := j) (by omega)
      simp only [curN]; omega

theorem cmp_first (h : Int) (gap ln : Nat → Nat) (i j : Nat) : cmp3 (sval h gap ln i 0) (sval h gap ln i 1) (sval h gap ln j 0) (sval h gap ln j 1) < 0 ↔ i < j := by
  have e : ∀ i, sval h gap ln i 0 = h ∧ sval h gap ln i 1 = (firN gap ln i : Int) := fun i => ⟨rfl, rfl⟩
  rw [(e i).1, (e i).2, (e j).1, (e j).2]
  unfold cmp3
  rcases Nat.lt_trichotomy i j with hij | hij | hij
  · have := firN_lt gap ln hij
    have h1 : (firN gap ln i : Int) < (firN gap ln j : Int) := by unfold firN lasN at *; omega
    rw [if_pos (Or.inr ⟨rfl, h1⟩)]
    exact ⟨fun _ => hij, fun _ => by decide⟩
  · subst hij
    rw [if_neg (by omega), if_pos ⟨rfl, rfl⟩]
    exact ⟨fun h => by omega, fun h => by omega⟩
  · have := firN_lt gap ln hij
    have h1 : (firN gap ln j : Int) < (firN gap ln i : Int) := by unfold firN lasN at *; omega
    rw [if_neg (by omega), if_neg (by omega)]
    exact ⟨fun h => by omega, fun h => by omega⟩

theorem b_new {w : World} {n : Nat} {rev : Bool} {h : Int} {gap ln : Nat → Nat} {wr : World} (hi : BInv w n rev (sval h gap ln) n wr) (hn : n ≤ 65536) :
    Calls Yba.prog 6 #[.slice (some ⟨w.heap.size + 3, 0, none⟩) n n, .slice none 0 0] wr fun e w' => e = .returned (.pointer (some ⟨wr.heap.size + 3, 0, none⟩)) ∧ ∃ pb cap BB, NPost wr n (fun j => sval h gap ln (pr rev n j)) rev pb cap BB w' := by
  have key : ∀ j c, j < n → c < 4 → wr.cell? ⟨w.heap.size + 3, j * 4 + c, none⟩ = some (.int .u64 (sval h gap ln (pr rev n j) c)) := fun j c hj hc => by
    rw [hi.inr.cell (by omega)]
    unfold scell
    rw [show (j * 4 + c) / 4 = j by omega, show (j * 4 + c) % 4 = c by omega, if_pos (by simp; unfold pr; split <;> omega)]
  exact new_any n (w.heap.size + 3) (fun j => sval h gap ln (pr rev n j)) rev wr hn (fun x y _ _ => cmp_first h gap ln _ _)
    (fun j hj => ⟨key j 0 hj (by omega), key j 1 hj (by omega), key j 2 hj (by omega), key j 3 hj (by omega)⟩)

theorem keepS {w : World} {a b : Addr} {v : Value} (u : Value) (hne : b.block ≠ a.block) (h : w.cell? a = some v) : (w.setCell b u).cell? a = some v := (World.cell?_setCell_other _ _ _ _ (fun e => hne (by rw [e]))).trans h
theorem apref_nat (rev : Bool) (n m : Nat) (hn : n ≤ 65536) (hm : m < n) (w : World) :
    Calls Yba.prog 5 #[.bool rev, .int .i64 (n : Int), .int .i64 (m : Int)] w fun e w' => e = .returned (.int .i64 ((pr rev n m : Nat) : Int)) ∧ w' = w := by
  refine (apref_any rev n m (by omega) (by omega) (by omega) (by omega) w).mono ?_
  rintro e w' ⟨rfl, rfl⟩
  refine ⟨?_, rfl⟩
  congr 2
  unfold pr
  cases rev
  · rfl
  · simp only [if_true]; omega

end Go.Proofs.Ybulkdlic
