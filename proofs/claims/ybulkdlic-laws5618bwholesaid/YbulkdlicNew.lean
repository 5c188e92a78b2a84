/-
  DERIVED. alloc.LawS5618AWhole: 'New(in)', no free ranges: the pool that it lays.
-/
import Derived.Test.YbulkdlicLeaf
import Derived.Test.YbulkdlicSort
import Derived.Laws.OwnMore
import Derived.WalkKit
import Derived.WalkSpells
import Derived.WalkLawsBesides
import Derived.Deep.RegionHeld3
import Derived.Deep.DrawnRows
import Derived.Deep.OwnRows
import Derived.BigQuiet
import Derived.BigRegion
import Derived.Maps.AppendAt
import Derived.Lib.SmallJoins
import Derived.Deep.AppendLies
import Derived.Deep.RegionLaw
namespace Go.Proofs.Ybulkdlic
open Go.RowKit

attribute [local go_sem ↓] Go.wp_at_zero Go.wp_at_succ

theorem info40 : (Yba.prog.info? 40).map (fun i => (i.zero, i.size, i.bytes)) = some (some (.pointer none), 1, 8) := by kernel_rfl
def tzero : Array Value := #[.int .u64 0, .int .u64 0, .int .u64 0, .int .u64 0, .slice none 0 0, .int .u64 0, .int .u64 0]
theorem info44 : (Yba.prog.info? 44).map (fun i => (i.zero, i.size, i.bytes)) = some (some (.agg tzero), 7, 72) := by kernel_rfl

theorem make44 (n : Nat) (hl : n ≤ 65536) (w : World) :
    (Instr.makeSlice 47 (.int .i64 (n : Int)) (.int .i64 (n : Int))).run Yba.prog w = .ok (.slice (some ⟨w.heap.size, 0, none⟩) n n) (w.alloc (.cells (madeCells tzero (n * 7)) 44)) := by
  obtain ⟨i, hi, hz, hs, hb⟩ := info_parts info44
  have h := run_make (P := Yba.prog) w 47 44 i _ Yba.underlying47 hi hz .i64 .i64 n n (by omega) (Int.le_refl _) (by rw [hb]; omega) (by omega)
  rw [hs] at h
  simpa [Value.cells] using h

/-- What stands in a tier beside its range. -/
def tz (r : Nat) : Value := if r = 4 then .slice none 0 0 else .int .u64 0
/-- The tiers' cells when k have been filled. -/
def tcell (g : Nat → Nat → Int) (k c : Nat) : Value := if c / 7 < k ∧ c % 7 < 4 then .int .u64 (g (c / 7) (c % 7)) else tz (c % 7)

structure NInv (w : World) (n : Nat) (g : Nat → Nat → Int) (k : Nat) (v : Value) (wr : World) : Prop where
  own : wr.ownsRow (w.heap.size + 4) 40 1 v k ((List.range k).map fun j => .pointer (some ⟨w.heap.size + 2, j * 7, none⟩))
  pool : wr.heap[w.heap.size + 3]? = some (.cells #[.map (some w.heap.size), .map (some (w.heap.size + 1)), .slice (some ⟨w.heap.size + 2, 0, none⟩) n n, v, .int .u64 0, .int .u64 0] 50 (0, 0))
  tiers : wr.rowIs (w.heap.size + 2) 44 (n * 7) (tcell g k)
  m0 : wr.heap[w.heap.size]? = some (.map #[] 0)
  m1 : wr.heap[w.heap.size + 1]? = some (.map #[] 0)
  below : Below w.heap.size w wr

theorem lt_of_block {w : World} {b : Nat} {o : Obj} (h : w.heap[b]? = some o) : b < w.heap.size := (Array.getElem?_eq_some_iff.1 h).1

theorem tz_at (c : Nat) : tzero[c % 7]! = tz (c % 7) := by
  have h : c % 7 = 0 ∨ c % 7 = 1 ∨ c % 7 = 2 ∨ c % 7 = 3 ∨ c % 7 = 4 ∨ c % 7 = 5 ∨ c % 7 = 6 := by omega
  rcases h with h | h | h | h | h | h | h <;> rw [h] <;> rfl
theorem tzero_size : tzero.size = 7 := rfl
theorem made_tzero (n c : Nat) (hc : c < n) : (madeCells tzero n)[c]? = some (tz (c % 7)) := by
  rw [← tz_at]
  simp [madeCells, hc, tzero_size]

theorem n_start (w : World) (n : Nat) (g : Nat → Nat → Int) : NInv w n g 0 (.slice none 0 0) ((((w.alloc (.map #[] 0)).alloc (.map #[] 0)).alloc (.cells (madeCells tzero (n * 7)) 44)).alloc (.cells #[.map (some w.heap.size), .map (some (w.heap.size + 1)), .slice (some ⟨w.heap.size + 1 + 1, 0, none⟩) n n, .slice none 0 0, .int .u64 0, .int .u64 0] 50)) := by
  refine ⟨World.ownsRow_nil _ _ _ _, ?_, ?_, ?_, ?_, ?_⟩
  · have h := heap_alloc_new (((w.alloc (.map #[] 0)).alloc (.map #[] 0)).alloc (.cells (madeCells tzero (n * 7)) 44)) (.cells #[.map (some w.heap.size), .map (some (w.heap.size + 1)), .slice (some ⟨w.heap.size + 1 + 1, 0, none⟩) n n, .slice none 0 0, .int .u64 0, .int .u64 0] 50)
    simpa using h
  · refine World.rowIs.alloc ?_ _
    have h := heap_alloc_new ((w.alloc (.map #[] 0)).alloc (.map #[] 0)) (.cells (madeCells tzero (n * 7)) 44)
    refine ⟨_, by simpa using h, size_madeCells _ _, fun c hc => ?_⟩
    rw [made_tzero _ _ hc]
    simp [tcell]
  · rw [Below.heap_alloc _ _ _ (by simp; omega), Below.heap_alloc _ _ _ (by simp; omega), Below.heap_alloc _ _ _ (by simp)]
    exact heap_alloc_new w _
  · rw [Below.heap_alloc _ _ _ (by simp), Below.heap_alloc _ _ _ (by simp)]
    have h := heap_alloc_new (w.alloc (.map #[] 0)) (.map #[] 0)
    simpa using h
  · exact ((((Below.refl _ _).alloc (Nat.le_refl _) _).alloc (by simp) _).alloc (by simp; omega) _).alloc (by simp; omega) _

/-- Tier k is filled; its pointer is not yet in the row. -/
structure NMid (w : World) (n : Nat) (g : Nat → Nat → Int) (k : Nat) (v : Value) (wr : World) : Prop where
  own : wr.ownsRow (w.heap.size + 4) 40 1 v k ((List.range k).map fun j => .pointer (some ⟨w.heap.size + 2, j * 7, none⟩))
  pool : wr.heap[w.heap.size + 3]? = some (.cells #[.map (some w.heap.size), .map (some (w.heap.size + 1)), .slice (some ⟨w.heap.size + 2, 0, none⟩) n n, v, .int .u64 0, .int .u64 0] 50 (0, 0))
  tiers : wr.rowIs (w.heap.size + 2) 44 (n * 7) (tcell g (k + 1))
  m0 : wr.heap[w.heap.size]? = some (.map #[] 0)
  m1 : wr.heap[w.heap.size + 1]? = some (.map #[] 0)
  below : Below w.heap.size w wr

theorem tcell_step (g : Nat → Nat → Int) (k c : Nat) : (if c = k * 7 + 3 then Value.int .u64 (g k 3) else if c = k * 7 + 2 then .int .u64 (g k 2) else if c = k * 7 + 1 then .int .u64 (g k 1) else if c = k * 7 then .int .u64 (g k 0) else tcell g k c) = tcell g (k + 1) c := by
  by_cases h3 : c = k * 7 + 3
  · subst h3
    rw [if_pos rfl]
    unfold tcell
    rw [if_pos (by omega), show (k * 7 + 3) / 7 = k by omega, show (k * 7 + 3) % 7 = 3 by omega]
  rw [if_neg h3]
  by_cases h2 : c = k * 7 + 2
  · subst h2
    rw [if_pos rfl]
    unfold tcell
    rw [if_pos (by omega), show (k * 7 + 2) / 7 = k by omega, show (k * 7 + 2) % 7 = 2 by omega]
  rw [if_neg h2]
  by_cases h1 : c = k * 7 + 1
  · subst h1
    rw [if_pos rfl]
    unfold tcell
    rw [if_pos (by omega), show (k * 7 + 1) / 7 = k by omega, show (k * 7 + 1) % 7 = 1 by omega]
  rw [if_neg h1]
  by_cases h0 : c = k * 7
  · subst h0
    rw [if_pos rfl]
    unfold tcell
    rw [if_pos (by omega), show (k * 7) / 7 = k by omega, show (k * 7) % 7 = 0 by omega]
  rw [if_neg h0]
  unfold tcell
  by_cases hc : c / 7 < k ∧ c % 7 < 4
  · rw [if_pos hc, if_pos (by omega)]
  · rw [if_neg hc, if_neg (by omega)]

theorem n_mid {w : World} {n : Nat} {g : Nat → Nat → Int} {k : Nat} {v : Value} {wr : World} (h : NInv w n g k v wr) (_ : k < n) :
    NMid w n g k v (((((wr.setCell ⟨w.heap.size + 1 + 1, k * 7, none⟩ (.int .u64 (g k 0))).setCell ⟨w.heap.size + 1 + 1, k * 7 + 1, none⟩ (.int .u64 (g k 1))).setCell ⟨w.heap.size + 1 + 1, k * 7 + 2, none⟩ (.int .u64 (g k 2))).setCell ⟨w.heap.size + 1 + 1, k * 7 + 3, none⟩ (.int .u64 (g k 3))).alloc (.cells #[.int .u64 (g k 0), .int .u64 (g k 1), .int .u64 (g k 2), .int .u64 (g k 3)] 31)).drew := by
  have hls := lt_of_block h.pool
  have hb : ∀ b, b < wr.heap.size → b ≠ w.heap.size + 2 → (((((wr.setCell ⟨w.heap.size + 1 + 1, k * 7, none⟩ (.int .u64 (g k 0))).setCell ⟨w.heap.size + 1 + 1, k * 7 + 1, none⟩ (.int .u64 (g k 1))).setCell ⟨w.heap.size + 1 + 1, k * 7 + 2, none⟩ (.int .u64 (g k 2))).setCell ⟨w.heap.size + 1 + 1, k * 7 + 3, none⟩ (.int .u64 (g k 3))).alloc (.cells #[.int .u64 (g k 0), .int .u64 (g k 1), .int .u64 (g k 2), .int .u64 (g k 3)] 31)).drew.heap[b]? = wr.heap[b]? := fun b hb hne => by
    show (World.alloc _ _).heap[b]? = _
    rw [Below.heap_alloc _ _ _ (by simpa using hb), Below.heap_setCell _ _ _ _ hne, Below.heap_setCell _ _ _ _ hne, Below.heap_setCell _ _ _ _ hne, Below.heap_setCell _ _ _ _ hne]
  refine ⟨?_, (hb _ hls (by omega)).trans h.pool, ?_, (hb _ (by omega) (by omega)).trans h.m0, (hb _ (by omega) (by omega)).trans h.m1, ?_⟩
  · have e : ∀ {W : World} (c : Nat) (u : Value), W.ownsRow (w.heap.size + 4) 40 1 v k ((List.range k).map fun j => .pointer (some ⟨w.heap.size + 2, j * 7, none⟩)) → (W.setCell ⟨w.heap.size + 1 + 1, c, none⟩ u).ownsRow (w.heap.size + 4) 40 1 v k ((List.range k).map fun j => .pointer (some ⟨w.heap.size + 2, j * 7, none⟩)) :=
      fun c u hW => ownsRow_setCell_below hW (by show w.heap.size + 1 + 1 < w.heap.size + 4; omega) u
    exact ((e _ _ (e _ _ (e _ _ (e _ _ h.own)))).alloc _).drew
  · have r := (((((h.tiers.set (k * 7) (.int .u64 (g k 0))).set (k * 7 + 1) (.int .u64 (g k 1))).set (k * 7 + 2) (.int .u64 (g k 2))).set (k * 7 + 3) (.int .u64 (g k 3))).alloc (.cells #[.int .u64 (g k 0), .int .u64 (g k 1), .int .u64 (g k 2), .int .u64 (g k 3)] 31))
    refine World.rowIs.congr (f := _) r fun c hc => ?_
    exact tcell_step g k c
  · exact (((((h.below.setCell (p := ⟨w.heap.size + 1 + 1, k * 7, none⟩) (by show w.heap.size ≤ w.heap.size + 1 + 1; omega) _).setCell (p := ⟨w.heap.size + 1 + 1, k * 7 + 1, none⟩) (by show w.heap.size ≤ w.heap.size + 1 + 1; omega) _).setCell (p := ⟨w.heap.size + 1 + 1, k * 7 + 2, none⟩) (by show w.heap.size ≤ w.heap.size + 1 + 1; omega) _).setCell (p := ⟨w.heap.size + 1 + 1, k * 7 + 3, none⟩) (by show w.heap.size ≤ w.heap.size + 1 + 1; omega) _).alloc (by have := h.below.size; simpa using this) _).drew

theorem n_own {w : World} {n : Nat} {g : Nat → Nat → Int} {k : Nat} {v : Value} {X : World} (h : NMid w n g k v X) {o : Obj} : (X.alloc o).drew.ownsRow (w.heap.size + 4) 40 1 v k ((List.range k).map fun j => .pointer (some ⟨w.heap.size + 2, j * 7, none⟩)) :=
  (h.own.alloc o).drew
theorem n_news (X : World) (u : Value) : ∀ (j : Nat) (x : Value), [u][j]? = some x → (X.alloc (.cells #[u] 40)).drew.cell? ((⟨X.heap.size, 0, none⟩ : Addr).add j) = some x := cell_one_new X u 40
theorem n_append {w : World} {n : Nat} {g : Nat → Nat → Int} {k : Nat} {v : Value} {X w1 : World} {g1 cap : Nat} (h : NMid w n g k v X)
    (hown : w1.ownsRow (w.heap.size + 4) 40 1 (.slice (some ⟨g1, 0, none⟩) (k + 1) cap) (k + 1) (((List.range k).map fun j => .pointer (some ⟨w.heap.size + 2, j * 7, none⟩)) ++ [.pointer (some ⟨w.heap.size + 1 + 1, k * 7, none⟩)]))
    (hg : (X.alloc (.cells #[.pointer (some ⟨w.heap.size + 1 + 1, k * 7, none⟩)] 40)).drew.grownBy w1 v.ownBlock) :
      w1.cell? ⟨w.heap.size + 1 + 1 + 1, 3, none⟩ = some v ∧ w1.frozen? ⟨w.heap.size + 1 + 1 + 1, 3, none⟩ = false ∧ NInv w n g (k + 1) (.slice (some ⟨g1, 0, none⟩) (k + 1) cap) (w1.setCell ⟨w.heap.size + 3, 3, none⟩ (.slice (some ⟨g1, 0, none⟩) (k + 1) cap)) := by
  have hls := lt_of_block h.pool
  have far : ∀ b, b < w.heap.size + 4 → some b ≠ v.ownBlock := fun b hb e => by
    have := h.own.lt _ e.symm
    omega
  have old : ∀ b, b < X.heap.size → b < w.heap.size + 4 → w1.heap[b]? = X.heap[b]? := fun b hb h4 => by
    rw [hg.block b (by show b < (X.alloc _).heap.size; simp; omega) (far b h4)]
    exact Below.heap_alloc _ _ _ hb
  have hp1 := (old _ hls (by omega)).trans h.pool
  have set1 : ∀ b, b ≠ w.heap.size + 3 → (w1.setCell ⟨w.heap.size + 3, 3, none⟩ (.slice (some ⟨g1, 0, none⟩) (k + 1) cap)).heap[b]? = w1.heap[b]? := fun b hb => Below.heap_setCell _ _ _ _ hb
  refine ⟨by show w1.cell? ⟨w.heap.size + 3, 3, none⟩ = some v; simp [World.cell?, hp1], by show w1.frozen? ⟨w.heap.size + 3, 3, none⟩ = false; simp [World.frozen?, hp1], ?_, ?_, ?_, ?_, ?_, ?_⟩
  · rw [List.range_succ, List.map_append]
    exact ownsRow_setCell_below hown (by show w.heap.size + 3 < w.heap.size + 4; omega) _
  · exact heap_setCell_same w1 (w.heap.size + 3) 3 _ 50 _ hp1
  · refine (h.tiers.of_block ?_)
    rw [set1 _ (by omega), old _ h.tiers.lt (by omega)]
  · rw [set1 _ (by omega), old _ (by omega) (by omega)]; exact h.m0
  · rw [set1 _ (by omega), old _ (by omega) (by omega)]; exact h.m1
  · refine (((h.below.alloc h.below.size _).drew).grown hg (by have := h.below.size; show _ ≤ (X.alloc _).heap.size; simp; omega) (fun j hj => ?_)).setCell (p := ⟨w.heap.size + 3, 3, none⟩) (by show w.heap.size ≤ w.heap.size + 3; omega) _
    have := h.own.lt j hj; omega

/-- Where tier number i by value stands in the order of preference. -/
def pr (rev : Bool) (n i : Nat) : Nat := if rev then n - 1 - i else i

/-- WHAT New LEAVES. -/
structure NPost (w : World) (n : Nat) (g : Nat → Nat → Int) (rev : Bool) (pb : Option Addr) (cap BB : Nat) (w' : World) : Prop where
  pool : w'.heap[w.heap.size + 3]? = some (.cells #[.map (some w.heap.size), .map (some (w.heap.size + 1)), .slice (some ⟨w.heap.size + 2, 0, none⟩) n n, .slice pb n cap, .int .u64 0, .int .u64 0] 50 (0, 0))
  row : ∀ i, i < n → w'.cell? ⟨BB, i, none⟩ = some (.pointer (some ⟨w.heap.size + 2, pr rev n i * 7, none⟩))
  pbs : 0 < n → pb = some ⟨BB, 0, none⟩
  tiers : w'.rowIs (w.heap.size + 2) 44 (n * 7) (tcell g n)
  m0 : w'.heap[w.heap.size]? = some (.map #[] 0)
  m1 : w'.heap[w.heap.size + 1]? = some (.map #[] 0)
  below : Below w.heap.size w w'

theorem n_sort {w : World} {n : Nat} {g : Nat → Nat → Int} {v : Value} {W : World} (rev : Bool) (h : NInv w n g n v W) (hn : n ≤ 65536)
    (hrk : ∀ x y, x < n → y < n → (cmp3 (g x 0) (g x 1) (g y 0) (g y 1) < 0 ↔ pr rev n x < pr rev n y)) :
    Calls Yba.prog 22 #[v, .func (.func 23) #[] #[]] W fun e w' => e = .returned (.tuple #[]) ∧ ∃ pb cap BB, v = .slice pb n cap ∧ NPost w n g rev pb cap BB w' := by
  match n, h, hn, hrk with
  | 0, h, hn, hrk =>
    obtain ⟨p, cap, rfl⟩ : ∃ p cap, v = .slice p 0 cap := by
      rcases h.own.2 with ⟨e, _⟩ | ⟨b, cap, _, e, _⟩
      · exact ⟨_, _, e⟩
      · exact ⟨_, _, e⟩
    refine (sort_none p cap W).mono ?_
    rintro e w' ⟨rfl, rfl⟩
    exact ⟨rfl, p, cap, 0, rfl, h.pool, fun i hi => by omega, fun hi => by omega, h.tiers, h.m0, h.m1, h.below⟩
  | m + 1, h, hn, hrk =>
    obtain ⟨b, cap, hv, hbase, hlt⟩ := h.own.form (by omega)
    have hp := h.pool
    subst hv
    have hcell : ∀ j : Fin (m + 1), W.cell? ⟨b, j.1, none⟩ = some (tenc (w.heap.size + 2) j) := fun j => by
      rw [h.own.cellAt j.1 (by have := j.2; omega)]
      simp [tenc]
    have htc : ∀ j c, j < m + 1 → c < 4 → W.cell? ⟨w.heap.size + 2, j * 7 + c, none⟩ = some (.int .u64 (g j c)) := fun j c hj hc => by
      rw [h.tiers.cell (by omega)]
      unfold tcell
      rw [if_pos (by omega), show (j * 7 + c) / 7 = j by omega, show (j * 7 + c) % 7 = c by omega]
    have hL0 : ∀ i, (hi : i < m + 1) → (if rev then (List.finRange (m + 1)).reverse else List.finRange (m + 1))[i]? = some ⟨pr rev (m + 1) i, by unfold pr; split <;> omega⟩ := fun i hi => by
      cases rev
      · simp [pr, hi]
      · simp [pr, hi]
    refine (sort_any m (w.heap.size + 2) b cap (fun j => g j 0) (fun j => g j 1) (fun x => pr rev (m + 1) x.1) (if rev then (List.finRange (m + 1)).reverse else List.finRange (m + 1)) W hn
      (fun x y => hrk x.1 y.1 x.2 y.2) (fun x y e => by unfold pr at e; have := x.2; have := y.2; apply Fin.ext; split at e <;> omega) ?_ ?_ (fun j => ⟨hcell j, h.own.frozenAt j.1⟩) (by omega) (fun j hj => ⟨htc j 0 hj (by omega), htc j 1 hj (by omega)⟩)).mono ?_
    · cases rev
      · exact List.Perm.refl _
      · exact List.reverse_perm _
    · rw [List.pairwise_iff_getElem]
      intro i j hi hj hij
      have hlen : (if rev then (List.finRange (m + 1)).reverse else List.finRange (m + 1)).length = m + 1 := by cases rev <;> simp
      have e1 := hL0 i (by omega)
      have e2 := hL0 j (by omega)
      rw [List.getElem?_eq_getElem hi] at e1
      rw [List.getElem?_eq_getElem hj] at e2
      rw [Option.some.inj e1, Option.some.inj e2]
      show pr rev (m + 1) (pr rev (m + 1) i) ≤ pr rev (m + 1) (pr rev (m + 1) j)
      unfold pr
      cases rev
      · simp; omega
      · simp; omega
    · rintro e w' ⟨rfl, h1, h2, h3⟩
      refine ⟨rfl, some ⟨b, 0, none⟩, cap, b, rfl, (h2 _ (lt_of_block hp) (by omega)).trans hp, fun i hi => ?_, fun _ => rfl, h.tiers.of_block (h2 _ h.tiers.lt (by omega)), (h2 _ (lt_of_block h.m0) (by omega)).trans h.m0, (h2 _ (lt_of_block h.m1) (by omega)).trans h.m1, h.below.trans (h3 _ (by omega) h.below.size)⟩
      obtain ⟨x, e1, e2⟩ := h1 i hi
      rw [hL0 i hi] at e1
      cases e1
      exact e2

set_option maxRecDepth 100000 in
set_option maxHeartbeats 1000000 in
theorem new_any (n IB : Nat) (g : Nat → Nat → Int) (rev : Bool) (w : World) (hn : n ≤ 65536)
    (hrk : ∀ x y, x < n → y < n → (cmp3 (g x 0) (g x 1) (g y 0) (g y 1) < 0 ↔ pr rev n x < pr rev n y))
    (hin : ∀ j, j < n → w.cell? ⟨IB, j * 4, none⟩ = some (.int .u64 (g j 0)) ∧ w.cell? ⟨IB, j * 4 + 1, none⟩ = some (.int .u64 (g j 1)) ∧ w.cell? ⟨IB, j * 4 + 2, none⟩ = some (.int .u64 (g j 2)) ∧ w.cell? ⟨IB, j * 4 + 3, none⟩ = some (.int .u64 (g j 3))) :
    Calls Yba.prog 6 #[.slice (some ⟨IB, 0, none⟩) n n, .slice none 0 0] w fun e w' => e = .returned (.pointer (some ⟨w.heap.size + 3, 0, none⟩)) ∧ ∃ pb cap BB, NPost w n g rev pb cap BB w' := by
  have HRK : Hid (∀ x y, x < n → y < n → (cmp3 (g x 0) (g x 1) (g y 0) (g y 1) < 0 ↔ pr rev n x < pr rev n y)) := hrk
  clear hrk
  have hmm := make44
  have hm2 := @run_makeMap Yba.prog
  have hm3 := make44 n hn
  have HIN : Hid (∀ j, j < n → w.cell? ⟨IB, j * 4, none⟩ = some (.int .u64 (g j 0)) ∧ w.cell? ⟨IB, j * 4 + 1, none⟩ = some (.int .u64 (g j 1)) ∧ w.cell? ⟨IB, j * 4 + 2, none⟩ = some (.int .u64 (g j 2)) ∧ w.cell? ⟨IB, j * 4 + 3, none⟩ = some (.int .u64 (g j 3))) := hin
  clear hin hmm
  obtain ⟨i0, hi, hz0, hz1, hz2⟩ := info_parts info40
  go_enter Yba.func6, Yba.ntmps6
  go_wp2
  clear hm2 hm3
  go_loopw [6, 7, 19] (fun _ _ i wr => ∃ (k : Nat) (v : Value), k ≤ n ∧ i = .int .i64 k ∧ NInv w n g k v wr) (fun _ _ i _ => n - (intOf i).toNat)
  case atStart => exact ⟨0, _, Nat.zero_le _, rfl, n_start w n g⟩
  case round =>
    obtain ⟨k, v, hk, rfl, hinv⟩ := hrel
    by_cases hlt : k < n
    · obtain ⟨a0, a1, a2, a3⟩ := HIN.out k hlt
      have hIB := World.block_lt_of_cell? _ _ a0
      have b0 : wr.cell? ⟨IB, k * 4, none⟩ = some (.int .u64 (g k 0)) := (hinv.below.cell (p := ⟨IB, k * 4, none⟩) hIB).trans a0
      have b1 : wr.cell? ⟨IB, k * 4 + 1, none⟩ = some (.int .u64 (g k 1)) := (hinv.below.cell (p := ⟨IB, k * 4 + 1, none⟩) hIB).trans a1
      have b2 : wr.cell? ⟨IB, k * 4 + 2, none⟩ = some (.int .u64 (g k 2)) := (hinv.below.cell (p := ⟨IB, k * 4 + 2, none⟩) hIB).trans a2
      have b3 : wr.cell? ⟨IB, k * 4 + 3, none⟩ = some (.int .u64 (g k 3)) := (hinv.below.cell (p := ⟨IB, k * 4 + 3, none⟩) hIB).trans a3
      have hls := lt_of_block hinv.pool
      have p2 : wr.cell? ⟨w.heap.size + 1 + 1 + 1, 2, none⟩ = some (.slice (some ⟨w.heap.size + 1 + 1, 0, none⟩) n n) := by have := hinv.pool; simp [World.cell?, this]
      have p3 : wr.cell? ⟨w.heap.size + 1 + 1 + 1, 3, none⟩ = some v := by have := hinv.pool; simp [World.cell?, this]
      have hq0 : w.heap.size + 1 + 1 + 1 < wr.heap.size := hls
      have hq1 : w.heap.size + 1 + 1 + 1 < wr.heap.size + 1 := by omega
      have hq2 : w.heap.size + 1 + 1 < wr.heap.size := by omega
      have hq3 : w.heap.size + 1 + 1 < wr.heap.size + 1 := by omega
      have t0 : wr.cell? ⟨w.heap.size + 1 + 1, k * 7, none⟩ = some (.int .u64 0) := by rw [hinv.tiers.cell (by omega)]; simp [tcell, tz]
      have t1 : wr.cell? ⟨w.heap.size + 1 + 1, k * 7 + 1, none⟩ = some (.int .u64 0) := by rw [hinv.tiers.cell (by omega)]; simp [tcell, tz]; omega
      have t2 : wr.cell? ⟨w.heap.size + 1 + 1, k * 7 + 2, none⟩ = some (.int .u64 0) := by rw [hinv.tiers.cell (by omega)]; simp [tcell, tz]; omega
      have t3 : wr.cell? ⟨w.heap.size + 1 + 1, k * 7 + 3, none⟩ = some (.int .u64 0) := by rw [hinv.tiers.cell (by omega)]; simp [tcell, tz]; omega
      have tf : ∀ c, wr.frozen? ⟨w.heap.size + 1 + 1, c, none⟩ = false := fun c => hinv.tiers.frozen c
      have HI : Hid (NInv w n g k v wr) := hinv
      clear hinv a0 a1 a2 a3
      go_wp2
      go_region
      go_wp2
      refine wp_at_world (fun X => NMid w n g k v X) (n_mid HI.out hlt) ?_
      clear p2 p3 t0 t1 t2 t3 tf b0 b1 b2 b3 hq0 hq1 hq2 hq3 hls HI
      intro X hm
      have p2 : X.cell? ⟨w.heap.size + 1 + 1 + 1, 2, none⟩ = some (.slice (some ⟨w.heap.size + 1 + 1, 0, none⟩) n n) := by have := hm.pool; simp [World.cell?, this]
      have p3 : X.cell? ⟨w.heap.size + 1 + 1 + 1, 3, none⟩ = some v := by have := hm.pool; simp [World.cell?, this]
      have hls := lt_of_block hm.pool
      have hq0 : w.heap.size + 1 + 1 + 1 < X.heap.size := hls
      have hq1 : w.heap.size + 1 + 1 + 1 < X.heap.size + 1 := by omega
      have HM : Hid (NMid w n g k v X) := hm
      clear hm
      go_region_law ((refine step_append_lies _ (by rfl) (.tmp 36) (.tmp 43) 48 (by rfl) (w.heap.size + 4) 40 i0 (.pointer none) 1 8 Yba.underlying48 hi hz0 hz1 hz2 rfl (by decide) v k ((List.range k).map fun j => .pointer (some ⟨w.heap.size + 2, j * 7, none⟩)) (by rfl) (n_own HM.out) ⟨X.heap.size, 0, none⟩ 1 1 [.pointer (some ⟨w.heap.size + 1 + 1, k * 7, none⟩)] (by rfl) rfl (n_news X _) (by simp [Value.oneCell']) (by omega) (by unfold maxLen; omega) (by omega) (by simp; omega) (X.heap.size + 1) (by simp) ?_; intro g1 cap1 w1 hown1 hgrow hat hlt1; obtain ⟨e1, e2, hnx⟩ := n_append HM.out hown1 hgrow))
      all_goals have HX : Hid (NInv w n g (k + 1) (.slice (some ⟨g1, 0, none⟩) (k + 1) cap1) (w1.setCell ⟨w.heap.size + 3, 3, none⟩ (.slice (some ⟨g1, 0, none⟩) (k + 1) cap1))) := hnx
      all_goals go_wp2
      all_goals go_roundw
      all_goals first | exact ⟨k + 1, _, by omega, by go_num, HX.out⟩ | (simp [intOf]; omega)
    · obtain rfl : k = n := by omega
      have p3 : wr.cell? ⟨w.heap.size + 1 + 1 + 1, 3, none⟩ = some v := by have := hinv.pool; simp [World.cell?, this]
      have HS : Hid (Calls Yba.prog 22 #[v, .func (.func 23) #[] #[]] wr fun e w' => e = .returned (.tuple #[]) ∧ ∃ pb cap BB, v = .slice pb k cap ∧ NPost w k g rev pb cap BB w') := n_sort rev hinv hn HRK.out
      clear hinv
      go_wp2_with (go_at_call 22; refine HS.out.mono ?_; rintro e w' ⟨rfl, pb, cap, BB, hv, hpo⟩; have HP : Hid (NPost w k g rev pb cap BB w') := hpo; clear hpo hv p3)
      refine wp_loop_rounds 1 ?_
      rw [rounds_succ]
      go_wp2
      go_ret
      exact ⟨rfl, pb, cap, BB, HP.out⟩

end Go.Proofs.Ybulkdlic
