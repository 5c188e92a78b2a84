/-
  DERIVED. octocell.LawS5616CWhole: THE TABLE AS A PLAIN THING: what the law's building loops have laid after so many rounds, and what each round does to it.
-/
import Derived.Test.YbulkdlhaRows
import Derived.WalkKit
import Derived.WalkSpells
import Derived.WalkLawsBesides
import Derived.Deep.OwnRows
import Derived.BigQuiet
import Derived.BigRegion
import Derived.LaidEqlPtr
namespace Go.Proofs.Ybulkdlha
open Go.RowKit

theorem info3 : (Yba.prog.info? 3).map (fun i => (i.zero, i.size, i.bytes)) = some (some (.int .i64 0), 1, 8) := by kernel_rfl
theorem info27 : (Yba.prog.info? 27).map (fun i => (i.zero, i.size, i.bytes)) = some (some (.slice none 0 0), 1, 24) := by kernel_rfl
theorem info32 : (Yba.prog.info? 32).map (fun i => (i.zero, i.size, i.bytes)) = some (some (.pointer none), 1, 8) := by kernel_rfl
def zeros : Array Value := #[.int .u64 0, .int .i64 0, .int .i64 0, .int .i64 0, .int .i64 0, .int .i64 0, .int .i64 0, .int .i64 0, .int .i64 0, .int .i64 0, .int .i64 0, .int .i64 0, .int .i64 0, .int .i64 0, .int .i64 0, .int .i64 0, .int .i64 0, .int .i64 0]
theorem info30 : (Yba.prog.info? 30).map (fun i => (i.zero, i.size, i.bytes)) = some (some (.agg zeros), 18, 144) := by kernel_rfl

theorem make30 (n : Nat) (hl : n ≤ 8) (w : World) :
    (Instr.makeSlice 27 (.int .i64 (n : Int)) (.int .i64 (n : Int))).run Yba.prog w = .ok (.slice (some ⟨w.heap.size, 0, none⟩) n n) (w.alloc (.cells (madeCells zeros (n * 18)) 30)) := by
  obtain ⟨i, hi, hz, hs, hb⟩ := info_parts info30
  have h := run_make (P := Yba.prog) w 27 30 i _ Yba.underlying27 hi hz .i64 .i64 n n (by omega) (Int.le_refl _) (by rw [hb]; omega) (by omega)
  rw [hs] at h
  simpa [Value.cells] using h

/-- Cell c of a segment of sl buckets that belongs to index j: bucket c / 18, its cell c % 18. -/
def bcell (j sl c : Nat) : Value :=
  if c % 18 = 0 then .int .u64 ((j * sl + c / 18 + 1 : Nat) : Int) else if c % 18 = 1 then .int .i64 (j : Int) else if c % 18 = 2 then .int .i64 ((c / 18 : Nat) : Int) else .int .i64 0
def zcell (c : Nat) : Value := if c % 18 = 0 then .int .u64 0 else .int .i64 0

/-- The owner of a segment: itself, or its twin in the lower half. -/
def Owner (half : Nat) (j o : Nat) : Prop := o = j ∨ (0 < half ∧ half ≤ j ∧ j < half + half ∧ o = j - half)

/-- What the first loop has built after k rounds. B: block of 'owner'; B + 1: block of 'segs'. -/
structure TInv (w : World) (cnt sl half k : Nat) (own G : Nat → Nat) (wr : World) : Prop where
  owner : wr.rowIs w.heap.size 3 cnt (fun j => .int .i64 ((if j < k then own j else 0 : Nat) : Int))
  segs : wr.rowIs (w.heap.size + 1) 27 cnt (fun j => if j < k then .slice (some ⟨G (own j), 0, none⟩) sl sl else .slice none 0 0)
  own_ok : ∀ j, j < k → Owner half j (own j)
  blocks : ∀ j, j < k → own j = j → wr.rowIs (G j) 30 (sl * 18) (bcell j sl)
  apart : ∀ i j, i < k → j < k → own i = i → own j = j → G i = G j → i = j
  high : ∀ j, j < k → w.heap.size + 1 < G (own j)
  below : Below w.heap.size w wr

/-- A segment half filled: index k has its own memory, block G k, of which m buckets are marked. -/
structure FInv (w : World) (cnt sl half k : Nat) (own G : Nat → Nat) (m : Nat) (wr : World) : Prop where
  owner : wr.rowIs w.heap.size 3 cnt (fun j => .int .i64 ((if j < k + 1 then own j else 0 : Nat) : Int))
  segs : wr.rowIs (w.heap.size + 1) 27 cnt (fun j => if j < k then .slice (some ⟨G (own j), 0, none⟩) sl sl else .slice none 0 0)
  own_ok : ∀ j, j < k + 1 → Owner half j (own j)
  self : own k = k
  blocks : ∀ j, j < k → own j = j → wr.rowIs (G j) 30 (sl * 18) (bcell j sl)
  seg : wr.rowIs (G k) 30 (sl * 18) (fun c => if c / 18 < m then bcell k sl c else zcell c)
  apart : ∀ i j, i < k + 1 → j < k + 1 → own i = i → own j = j → G i = G j → i = j
  high : ∀ j, j < k + 1 → w.heap.size + 1 < G (own j)
  below : Below w.heap.size w wr

theorem Owner.le {half j o : Nat} (h : Owner half j o) : o ≤ j := by rcases h with h | h <;> omega
theorem Owner.low {half j o : Nat} (h : Owner half j o) (hj : j < half) : o = j := by rcases h with h | h <;> omega

theorem rowIs_setOther' {w : World} {b t n : Nat} {f : Nat → Value} (h : w.rowIs b t n f) (a c : Nat) (ha : b ≠ a) (v : Value) : (w.setCell ⟨a, c, none⟩ v).rowIs b t n f := h.setOther (a := ⟨a, c, none⟩) ha v

theorem t_start (w : World) (cnt sl half : Nat) : TInv w cnt sl half 0 (fun j => j) (fun _ => 0) ((w.alloc (.cells (madeCells #[.int .i64 0] cnt) 3)).alloc (.cells (madeCells #[.slice none 0 0] cnt) 27)) := by
  refine ⟨?_, ?_, fun j hj => by omega, fun j hj => by omega, fun i j hi => by omega, fun j hj => by omega, ?_⟩
  · exact ((World.rowIs_made w (.int .i64 0) cnt 3).alloc _).congr fun j hj => by simp
  · have h := World.rowIs_made (w.alloc (.cells (madeCells #[.int .i64 0] cnt) 3)) (.slice none 0 0) cnt 27
    rw [World.size_alloc] at h
    exact h.congr fun j hj => by simp
  · exact ((Below.refl _ _).alloc (Nat.le_refl _) _).alloc (by simp) _

/-- A round in which the segment is shared. -/
theorem t_shared {w : World} {cnt sl half k : Nat} {own G : Nat → Nat} {wr : World} (h : TInv w cnt sl half k own G wr) (h0 : 0 < half) (h1 : half ≤ k) (h2 : k < half + half) :
    TInv w cnt sl half (k + 1) (fun j => if j = k then k - half else own j) G ((wr.setCell ⟨w.heap.size, k, none⟩ (.int .i64 ((k : Int) - half))).setCell ⟨w.heap.size + 1, k, none⟩ (.slice (some ⟨G (own (k - half)), 0, none⟩) sl sl)) := by
  have hlow : own (k - half) = k - half := (h.own_ok (k - half) (by omega)).low (by omega)
  have hown : ∀ j, j < k → own j < k := fun j hj => by have := (h.own_ok j hj).le; omega
  refine ⟨?_, ?_, ?_, ?_, ?_, ?_, ?_⟩
  · refine (rowIs_setOther' (h.owner.set k _) _ _ (by omega) _).congr fun j hj => ?_
    by_cases e : j = k
    · subst e; simp only [if_pos, Nat.lt_succ_self]
      congr 1; omega
    · simp only [if_neg e]
      by_cases e2 : j < k
      · rw [if_pos e2, if_pos (by omega)]
      · rw [if_neg e2, if_neg (by omega)]
  · refine ((rowIs_setOther' h.segs _ _ (by omega) _).set k _).congr fun j hj => ?_
    by_cases e : j = k
    · subst e; simp only [if_pos, Nat.lt_succ_self, hlow]
    · simp only [if_neg e]
      by_cases e2 : j < k
      · rw [if_pos e2, if_pos (by omega)]
      · rw [if_neg e2, if_neg (by omega)]
  · intro j hj
    by_cases e : j = k
    · subst e; simp only [if_pos]; exact Or.inr ⟨h0, h1, h2, rfl⟩
    · simp only [if_neg e]; exact h.own_ok j (by omega)
  · intro j hj ho
    by_cases e : j = k
    · subst e; simp only [if_pos] at ho; omega
    · simp only [if_neg e] at ho
      have hh := h.high j (by omega)
      rw [ho] at hh
      exact rowIs_setOther' (rowIs_setOther' (h.blocks j (by omega) ho) _ _ (by omega) _) _ _ (by omega) _
  · intro i j hi hj hoi hoj
    by_cases e : i = k
    · subst e; simp only [if_pos] at hoi; omega
    · by_cases e' : j = k
      · subst e'; simp only [if_pos] at hoj; omega
      · simp only [if_neg e] at hoi
        simp only [if_neg e'] at hoj
        exact h.apart i j (by omega) (by omega) hoi hoj
  · intro j hj
    by_cases e : j = k
    · subst e; simp only [if_pos]
      have := h.high (j - half) (by omega)
      rwa [hlow] at this
    · simp only [if_neg e]; exact h.high j (by omega)
  · exact (h.below.setCell (p := ⟨w.heap.size, k, none⟩) (Nat.le_refl _) _).setCell (p := ⟨w.heap.size + 1, k, none⟩) (by show w.heap.size ≤ w.heap.size + 1; omega) _

theorem zeros_at (c : Nat) : zeros[c % 18]! = zcell c := by
  have hr : c % 18 < 18 := by omega
  unfold zcell
  generalize c % 18 = r at hr ⊢
  match r, hr with
  | 0, _ => rfl
  | 1, _ => rfl
  | 2, _ => rfl
  | 3, _ => rfl
  | 4, _ => rfl
  | 5, _ => rfl
  | 6, _ => rfl
  | 7, _ => rfl
  | 8, _ => rfl
  | 9, _ => rfl
  | 10, _ => rfl
  | 11, _ => rfl
  | 12, _ => rfl
  | 13, _ => rfl
  | 14, _ => rfl
  | 15, _ => rfl
  | 16, _ => rfl
  | 17, _ => rfl
  | n + 18, h => exact absurd h (by omega)

theorem zeros_size : zeros.size = 18 := rfl
theorem made_zeros (n c : Nat) (hc : c < n) : (madeCells zeros n)[c]? = some (zcell c) := by
  rw [← zeros_at]
  simp [madeCells, hc, zeros_size]

/-- The segment's memory is laid. -/
theorem f_start {w : World} {cnt sl half k : Nat} {own G : Nat → Nat} {wr : World} (h : TInv w cnt sl half k own G wr) (hk : k < cnt) :
    FInv w cnt sl half k (fun j => if j = k then k else own j) (fun j => if j = k then wr.heap.size else G j) 0 ((wr.setCell ⟨w.heap.size, k, none⟩ (.int .i64 (k : Int))).alloc (.cells (madeCells zeros (sl * 18)) 30)) := by
  have hown : ∀ j, j < k → own j < k := fun j hj => by have := (h.own_ok j hj).le; omega
  have hsz : w.heap.size + 1 < wr.heap.size := h.segs.lt
  have esz : (wr.setCell ⟨w.heap.size, k, none⟩ (.int .i64 (k : Int))).heap.size = wr.heap.size := World.size_setCell _ _ _
  refine ⟨?_, ?_, ?_, by simp, ?_, ?_, ?_, ?_, ?_⟩
  · refine ((h.owner.set k _).alloc _).congr fun j hj => ?_
    by_cases e : j = k
    · subst e; simp only [if_pos, Nat.lt_succ_self]
    · simp only [if_neg e]
      by_cases e2 : j < k
      · rw [if_pos e2, if_pos (by omega)]
      · rw [if_neg e2, if_neg (by omega)]
  · refine ((rowIs_setOther' h.segs _ _ (by omega) _).alloc _).congr fun j hj => ?_
    by_cases e2 : j < k
    · have := hown j e2
      simp only [if_neg (show ¬ j = k by omega), if_neg (show ¬ own j = k by omega), if_pos e2]
    · rw [if_neg e2, if_neg e2]
  · intro j hj
    by_cases e : j = k
    · subst e; simp only [if_pos]; exact Or.inl rfl
    · simp only [if_neg e]; exact h.own_ok j (by omega)
  · intro j hj ho
    simp only [if_neg (show ¬ j = k by omega)] at ho ⊢
    have hh := h.high j hj
    rw [ho] at hh
    exact (rowIs_setOther' (h.blocks j hj ho) _ _ (by omega) _).alloc _
  · simp only [if_pos]
    rw [← esz]
    refine ⟨_, heap_alloc_new _ _, size_madeCells _ _, fun c hc => ?_⟩
    rw [made_zeros _ _ hc]
    simp
  · intro i j hi hj hoi hoj hg
    by_cases e : i = k
    · by_cases e' : j = k
      · omega
      · simp only [if_pos e, if_neg e'] at hg hoj
        have := (h.blocks j (by omega) hoj).lt
        omega
    · by_cases e' : j = k
      · simp only [if_neg e, if_pos e'] at hg hoi
        have := (h.blocks i (by omega) hoi).lt
        omega
      · simp only [if_neg e, if_neg e'] at hg hoi hoj
        exact h.apart i j (by omega) (by omega) hoi hoj hg
  · intro j hj
    by_cases e : j = k
    · subst e; simp only [if_pos]; exact hsz
    · simp only [if_neg e]
      have := hown j (by omega)
      rw [if_neg (by omega)]
      exact h.high j (by omega)
  · exact (h.below.setCell (p := ⟨w.heap.size, k, none⟩) (Nat.le_refl _) _).alloc (by rw [esz]; omega) _

/-- One bucket is marked. -/
theorem f_step {w : World} {cnt sl half k : Nat} {own G : Nat → Nat} {m : Nat} {wr : World} (h : FInv w cnt sl half k own G m wr) :
    FInv w cnt sl half k own G (m + 1) (((wr.setCell ⟨G k, m * 18, none⟩ (.int .u64 ((k : Int) * sl + m + 1))).setCell ⟨G k, m * 18 + 1, none⟩ (.int .i64 (k : Int))).setCell ⟨G k, m * 18 + 2, none⟩ (.int .i64 (m : Int))) := by
  have hg := h.high k (by omega)
  rw [h.self] at hg
  have ot : ∀ {b t n : Nat} {f : Nat → Value}, wr.rowIs b t n f → b ≠ G k → (((wr.setCell ⟨G k, m * 18, none⟩ (.int .u64 ((k : Int) * sl + m + 1))).setCell ⟨G k, m * 18 + 1, none⟩ (.int .i64 (k : Int))).setCell ⟨G k, m * 18 + 2, none⟩ (.int .i64 (m : Int))).rowIs b t n f :=
    fun hr hb => rowIs_setOther' (rowIs_setOther' (rowIs_setOther' hr _ _ hb _) _ _ hb _) _ _ hb _
  refine ⟨ot h.owner (by omega), ot h.segs (by omega), h.own_ok, h.self, ?_, ?_, h.apart, h.high, ?_⟩
  · intro j hj ho
    exact ot (h.blocks j hj ho) (fun e => by have := h.apart j k (by omega) (by omega) ho h.self e; omega)
  · refine (((h.seg.set (m * 18) _).set (m * 18 + 1) _).set (m * 18 + 2) _).congr fun c hc => ?_
    by_cases e2 : c = m * 18 + 2
    · subst e2
      rw [if_pos rfl, if_pos (by omega)]
      simp [bcell]; omega
    · rw [if_neg e2]
      by_cases e1 : c = m * 18 + 1
      · subst e1
        rw [if_pos rfl, if_pos (by omega)]
        simp [bcell]
      · rw [if_neg e1]
        by_cases e0 : c = m * 18
        · subst e0
          rw [if_pos rfl, if_pos (by omega)]
          simp [bcell]
        · rw [if_neg e0]
          by_cases e : c / 18 < m
          · rw [if_pos e, if_pos (by omega)]
          · rw [if_neg e]
            by_cases e' : c / 18 < m + 1
            · rw [if_pos e']
              have h0 : c % 18 ≠ 0 := by omega
              have h1 : c % 18 ≠ 1 := by omega
              have h2 : c % 18 ≠ 2 := by omega
              simp [bcell, zcell, h0, h1, h2]
            · rw [if_neg e']
  · exact ((h.below.setCell (p := ⟨G k, m * 18, none⟩) (by show w.heap.size ≤ G k; omega) _).setCell (p := ⟨G k, m * 18 + 1, none⟩) (by show w.heap.size ≤ G k; omega) _).setCell (p := ⟨G k, m * 18 + 2, none⟩) (by show w.heap.size ≤ G k; omega) _

/-- The segment is stored. -/
theorem f_end {w : World} {cnt sl half k : Nat} {own G : Nat → Nat} {wr : World} (h : FInv w cnt sl half k own G sl wr) :
    TInv w cnt sl half (k + 1) own G (wr.setCell ⟨w.heap.size + 1, k, none⟩ (.slice (some ⟨G k, 0, none⟩) sl sl)) := by
  have hg := h.high k (by omega)
  rw [h.self] at hg
  refine ⟨rowIs_setOther' h.owner _ _ (by omega) _, ?_, h.own_ok, ?_, h.apart, h.high, h.below.setCell (p := ⟨w.heap.size + 1, k, none⟩) (by show w.heap.size ≤ w.heap.size + 1; omega) _⟩
  · refine (h.segs.set k _).congr fun j hj => ?_
    by_cases e : j = k
    · subst e; rw [if_pos rfl, if_pos (by omega), h.self]
    · rw [if_neg e]
      by_cases e2 : j < k
      · rw [if_pos e2, if_pos (by omega)]
      · rw [if_neg e2, if_neg (by omega)]
  · intro j hj ho
    have hh := h.high j hj
    rw [ho] at hh
    by_cases e : j = k
    · subst e
      refine (rowIs_setOther' h.seg _ _ (by omega) _).congr fun c hc => ?_
      rw [if_pos (by omega)]
    · exact rowIs_setOther' (h.blocks j (by omega) ho) _ _ (by omega) _


end Go.Proofs.Ybulkdlha
