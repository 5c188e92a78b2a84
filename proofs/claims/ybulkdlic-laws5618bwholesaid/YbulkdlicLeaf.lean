/-
  DERIVED. alloc.LawS5618AWhole: THE LEAVES: the two closures that compare, and Range.Intersect.
-/
import Derived.Test.YbulkdlicCmp
import Derived.Deep.RegionHeld3
import Derived.Deep.DrawnRows
import Derived.Sort.Grow
import Derived.Below
namespace Go.Proofs.Ybulkdlic
open Go.RowKit

attribute [local go_sem ↓] Go.wp_at_zero Go.wp_at_succ

theorem keepD {w : World} {a : Addr} {v : Value} (h : w.cell? a = some v) : w.drew.cell? a = some v := h
theorem keepA {w : World} {a : Addr} {v : Value} (o : Obj) (h : w.cell? a = some v) : (w.alloc o).cell? a = some v := (World.cell?_alloc_lt _ _ _ (World.block_lt_of_cell? w a h)).trans h
theorem newAt {w : World} {n i : Nat} {v : Value} {c : Array Value} {t : TypeId} (hn : w.heap.size = n) (hv : c[i]? = some v) : (w.alloc (.cells c t)).cell? ⟨n, i, none⟩ = some v := by
  subst hn; rw [World.cell?_alloc_new]; exact hv
theorem newFr {w : World} {n i : Nat} {c : Array Value} {t : TypeId} (hn : w.heap.size = n) : (w.alloc (.cells c t)).frozen? ⟨n, i, none⟩ = false := World.frozen?_alloc_at _ _ _ _ hn.symm
theorem keepFr {w : World} {n i : Nat} (o : Obj) (hn : n < w.heap.size) (h : w.frozen? ⟨n, i, none⟩ = false) : (w.alloc o).frozen? ⟨n, i, none⟩ = false := (World.frozen?_alloc_past _ _ _ hn).trans h
theorem wp_at_world {P : Program} {c : Code} {Q : Exit → Act → World → Prop} {a : Act} {w : World} (C : World → Prop) (hC : C w) (h : ∀ W, C W → c.wp P Q a W) : c.wp P Q a w := h w hC

set_option maxRecDepth 100000 in
/-- 'func(a, b *tier) int { return a.within.First.Cmp(b.within.First) }' -/
theorem new1_any (B i j : Nat) (ah al bh bl : Int) (w : World)
    (h1 : w.cell? ⟨B, i, none⟩ = some (.int .u64 ah)) (h2 : w.cell? ⟨B, i + 1, none⟩ = some (.int .u64 al))
    (h3 : w.cell? ⟨B, j, none⟩ = some (.int .u64 bh)) (h4 : w.cell? ⟨B, j + 1, none⟩ = some (.int .u64 bl)) :
    Calls Yba.prog 23 #[.pointer (some ⟨B, i, none⟩), .pointer (some ⟨B, j, none⟩)] w fun e w' => e = .returned (.int .i64 (cmp3 ah al bh bl)) ∧
      ∃ q os, w' = Sort.grow (w.drewN q) os := by
  go_enter Yba.func23, Yba.ntmps23
  go_wp2
  go_region_held3 (fun w' => w'.cell? ⟨B, i, none⟩ = some (.int .u64 ah) ∧ w'.cell? ⟨B, i + 1, none⟩ = some (.int .u64 al) ∧ w'.cell? ⟨B, j, none⟩ = some (.int .u64 bh) ∧ w'.cell? ⟨B, j + 1, none⟩ = some (.int .u64 bl)) (go_keep)
    (first | (go_at_call 24; refine (cmp_any ah al bh bl _).mono ?_; rintro e w' ⟨rfl, rfl⟩))
  all_goals go_wp2
  all_goals go_ret
  exact ⟨rfl, 1, #[_, _], by rw [Sort.alloc_eq_grow, Sort.alloc_eq_grow, Sort.grow_grow]; rfl⟩

set_option maxRecDepth 100000 in
/-- 'func(t *tier, v space.Uint128) int { return t.within.Last.Cmp(v) }' -/
theorem last_any (B i : Nat) (ah al bh bl : Int) (w : World)
    (h1 : w.cell? ⟨B, i + 2, none⟩ = some (.int .u64 ah)) (h2 : w.cell? ⟨B, i + 2 + 1, none⟩ = some (.int .u64 al)) :
    Calls Yba.prog 27 #[.pointer (some ⟨B, i, none⟩), .agg #[.int .u64 bh, .int .u64 bl]] w fun e w' => e = .returned (.int .i64 (cmp3 ah al bh bl)) ∧
      Below w.heap.size w w' := by
  have hB := World.block_lt_of_cell? _ _ h1
  have n0 : ¬ w.heap.size = B := by simp at hB; omega
  have n1 : ¬ w.heap.size + 1 = B := by simp at hB; omega
  have n2 : ¬ w.heap.size + 1 + 1 = B := by simp at hB; omega
  go_enter Yba.func27, Yba.ntmps27
  go_wp2
  go_region_held3 (fun w' => w'.cell? ⟨B, i + 2, none⟩ = some (.int .u64 ah) ∧ w'.cell? ⟨B, i + 2 + 1, none⟩ = some (.int .u64 al) ∧ w'.cell? ⟨w.heap.size, 0, none⟩ = some (.int .u64 bh) ∧ w'.cell? ⟨w.heap.size, 1, none⟩ = some (.int .u64 bl)) (first | (go_keep; done) | (refine ⟨?_, ?_, ?_, ?_⟩ <;> (repeat (first | exact h1 | exact h2 | (refine newAt ?_ rfl; simp; done) | refine keepD ?_ | refine keepA _ ?_))))
    (first | (go_at_call 24; refine (cmp_any ah al bh bl _).mono ?_; rintro e w' ⟨rfl, rfl⟩))
  all_goals go_wp2
  all_goals go_ret
  refine ⟨rfl, ?_⟩
  exact ((((Below.refl _ w).alloc (Nat.le_refl _) _).alloc (by simp) _).alloc (by simp; omega) _).drew

set_option maxRecDepth 100000 in
set_option maxHeartbeats 2000000 in
/-- 'Range.Intersect' -/
theorem intersect_any (a b c d e f g h : Int) (w : World) :
    Calls Yba.prog 29 #[.agg #[.int .u64 a, .int .u64 b, .int .u64 c, .int .u64 d], .agg #[.int .u64 e, .int .u64 f, .int .u64 g, .int .u64 h]] w fun e' w' =>
      e' = .returned (.tuple #[.agg #[.int .u64 (if cmp3 a b e f < 0 then e else a), .int .u64 (if cmp3 a b e f < 0 then f else b), .int .u64 (if cmp3 c d g h > 0 then g else c), .int .u64 (if cmp3 c d g h > 0 then h else d)],
        .bool (decide (cmp3 (if cmp3 a b e f < 0 then e else a) (if cmp3 a b e f < 0 then f else b) (if cmp3 c d g h > 0 then g else c) (if cmp3 c d g h > 0 then h else d) ≤ 0))]) ∧
      Below w.heap.size w w' := by
  by_cases h1 : cmp3 a b e f < 0
  · by_cases h2 : cmp3 c d g h > 0
    · simp only [if_pos h1, if_pos h2]
      go_enter Yba.func29, Yba.ntmps29
      go_wp2_with (first | (go_at_call_of 24 (Value.agg #[.int .u64 a, .int .u64 b]); refine (cmp_any a b e f _).mono ?_; rintro e w' ⟨rfl, rfl⟩) | (go_at_call_of 24 (Value.agg #[.int .u64 c, .int .u64 d]); refine (cmp_any c d g h _).mono ?_; rintro e w' ⟨rfl, rfl⟩))
      refine wp_at_world (fun W => (W.cell? ⟨w.heap.size, 0, none⟩ = some (.int .u64 e) ∧ W.cell? ⟨w.heap.size, 1, none⟩ = some (.int .u64 f) ∧ W.cell? ⟨w.heap.size, 2, none⟩ = some (.int .u64 g) ∧ W.cell? ⟨w.heap.size, 2 + 1, none⟩ = some (.int .u64 h)) ∧
        (W.cell? ⟨w.heap.size + 1 + 1, 0, none⟩ = some (.int .u64 0) ∧ W.cell? ⟨w.heap.size + 1 + 1, 1, none⟩ = some (.int .u64 0) ∧ W.cell? ⟨w.heap.size + 1 + 1, 2, none⟩ = some (.int .u64 0) ∧ W.cell? ⟨w.heap.size + 1 + 1, 3, none⟩ = some (.int .u64 0)) ∧ (∀ i, W.frozen? ⟨w.heap.size + 1 + 1, i, none⟩ = false) ∧ Below w.heap.size w W ∧ w.heap.size + 1 + 1 < W.heap.size)
        ⟨⟨?_, ?_, ?_, ?_⟩, ⟨?_, ?_, ?_, ?_⟩, fun i => keepFr _ (by simp) (keepFr _ (by simp) (keepFr _ (by simp) (keepFr _ (by simp) (newFr (by simp))))), ?_, by simp⟩ ?_
      rotate_left 9
      · rintro W ⟨⟨c0, c1, c2, c3⟩, ⟨d0, d1, d2, d3⟩, f0, hb, hlt⟩
        have hz0 : w.heap.size < W.heap.size := by omega
        have hz1 : w.heap.size < W.heap.size + 1 := by omega
        have hz2 : w.heap.size + 1 + 1 < W.heap.size + 1 := by omega
        go_region_with (go_at_call 24; refine (cmp_any e f g h _).mono ?_; rintro e w' ⟨rfl, rfl⟩)
        all_goals (try go_bits)
        all_goals go_wp2
        all_goals refine bodyPost_ret (v := .tuple #[.agg #[.int .u64 e, .int .u64 f, .int .u64 g, .int .u64 h], .bool (decide (cmp3 e f g h ≤ 0))]) ?_ rfl ⟨rfl, ?_⟩
        all_goals first
          | exact (((((((hb.setCell (p := ⟨w.heap.size + 1 + 1, 0, none⟩) (by simp; omega) _).setCell (p := ⟨w.heap.size + 1 + 1, 1, none⟩) (by simp; omega) _).setCell (p := ⟨w.heap.size + 1 + 1, 2, none⟩) (by simp; omega) _).setCell (p := ⟨w.heap.size + 1 + 1, 3, none⟩) (by simp; omega) _).alloc (by simp; omega) _).alloc (by simp; omega) _)).drew
          | (simp [results, Yba.results29, go_sem, *]; done)
      all_goals (repeat (first | (refine newAt ?_ rfl; simp; done) | refine keepA _ ?_ | refine Below.alloc ?_ (by (try simp only [World.size_alloc]); omega) _ | exact Below.refl _ _))
    · simp only [if_pos h1, if_neg h2]
      go_enter Yba.func29, Yba.ntmps29
      go_wp2_with (first | (go_at_call_of 24 (Value.agg #[.int .u64 a, .int .u64 b]); refine (cmp_any a b e f _).mono ?_; rintro e w' ⟨rfl, rfl⟩) | (go_at_call_of 24 (Value.agg #[.int .u64 c, .int .u64 d]); refine (cmp_any c d g h _).mono ?_; rintro e w' ⟨rfl, rfl⟩))
      refine wp_at_world (fun W => (W.cell? ⟨w.heap.size, 0, none⟩ = some (.int .u64 e) ∧ W.cell? ⟨w.heap.size, 1, none⟩ = some (.int .u64 f) ∧ W.cell? ⟨w.heap.size, 2, none⟩ = some (.int .u64 c) ∧ W.cell? ⟨w.heap.size, 2 + 1, none⟩ = some (.int .u64 d)) ∧
        (W.cell? ⟨w.heap.size + 1 + 1, 0, none⟩ = some (.int .u64 0) ∧ W.cell? ⟨w.heap.size + 1 + 1, 1, none⟩ = some (.int .u64 0) ∧ W.cell? ⟨w.heap.size + 1 + 1, 2, none⟩ = some (.int .u64 0) ∧ W.cell? ⟨w.heap.size + 1 + 1, 3, none⟩ = some (.int .u64 0)) ∧ (∀ i, W.frozen? ⟨w.heap.size + 1 + 1, i, none⟩ = false) ∧ Below w.heap.size w W ∧ w.heap.size + 1 + 1 < W.heap.size)
        ⟨⟨?_, ?_, ?_, ?_⟩, ⟨?_, ?_, ?_, ?_⟩, fun i => keepFr _ (by simp) (keepFr _ (by simp) (keepFr _ (by simp) (keepFr _ (by simp) (newFr (by simp))))), ?_, by simp⟩ ?_
      rotate_left 9
      · rintro W ⟨⟨c0, c1, c2, c3⟩, ⟨d0, d1, d2, d3⟩, f0, hb, hlt⟩
        have hz0 : w.heap.size < W.heap.size := by omega
        have hz1 : w.heap.size < W.heap.size + 1 := by omega
        have hz2 : w.heap.size + 1 + 1 < W.heap.size + 1 := by omega
        go_region_with (go_at_call 24; refine (cmp_any e f c d _).mono ?_; rintro e w' ⟨rfl, rfl⟩)
        all_goals (try go_bits)
        all_goals go_wp2
        all_goals refine bodyPost_ret (v := .tuple #[.agg #[.int .u64 e, .int .u64 f, .int .u64 c, .int .u64 d], .bool (decide (cmp3 e f c d ≤ 0))]) ?_ rfl ⟨rfl, ?_⟩
        all_goals first
          | exact (((((((hb.setCell (p := ⟨w.heap.size + 1 + 1, 0, none⟩) (by simp; omega) _).setCell (p := ⟨w.heap.size + 1 + 1, 1, none⟩) (by simp; omega) _).setCell (p := ⟨w.heap.size + 1 + 1, 2, none⟩) (by simp; omega) _).setCell (p := ⟨w.heap.size + 1 + 1, 3, none⟩) (by simp; omega) _).alloc (by simp; omega) _).alloc (by simp; omega) _)).drew
          | (simp [results, Yba.results29, go_sem, *]; done)
      all_goals (repeat (first | (refine newAt ?_ rfl; simp; done) | refine keepA _ ?_ | refine Below.alloc ?_ (by (try simp only [World.size_alloc]); omega) _ | exact Below.refl _ _))
  · by_cases h2 : cmp3 c d g h > 0
    · simp only [if_neg h1, if_pos h2]
      go_enter Yba.func29, Yba.ntmps29
      go_wp2_with (first | (go_at_call_of 24 (Value.agg #[.int .u64 a, .int .u64 b]); refine (cmp_any a b e f _).mono ?_; rintro e w' ⟨rfl, rfl⟩) | (go_at_call_of 24 (Value.agg #[.int .u64 c, .int .u64 d]); refine (cmp_any c d g h _).mono ?_; rintro e w' ⟨rfl, rfl⟩))
      refine wp_at_world (fun W => (W.cell? ⟨w.heap.size, 0, none⟩ = some (.int .u64 a) ∧ W.cell? ⟨w.heap.size, 1, none⟩ = some (.int .u64 b) ∧ W.cell? ⟨w.heap.size, 2, none⟩ = some (.int .u64 g) ∧ W.cell? ⟨w.heap.size, 2 + 1, none⟩ = some (.int .u64 h)) ∧
        (W.cell? ⟨w.heap.size + 1 + 1, 0, none⟩ = some (.int .u64 0) ∧ W.cell? ⟨w.heap.size + 1 + 1, 1, none⟩ = some (.int .u64 0) ∧ W.cell? ⟨w.heap.size + 1 + 1, 2, none⟩ = some (.int .u64 0) ∧ W.cell? ⟨w.heap.size + 1 + 1, 3, none⟩ = some (.int .u64 0)) ∧ (∀ i, W.frozen? ⟨w.heap.size + 1 + 1, i, none⟩ = false) ∧ Below w.heap.size w W ∧ w.heap.size + 1 + 1 < W.heap.size)
        ⟨⟨?_, ?_, ?_, ?_⟩, ⟨?_, ?_, ?_, ?_⟩, fun i => keepFr _ (by simp) (keepFr _ (by simp) (keepFr _ (by simp) (keepFr _ (by simp) (newFr (by simp))))), ?_, by simp⟩ ?_
      rotate_left 9
      · rintro W ⟨⟨c0, c1, c2, c3⟩, ⟨d0, d1, d2, d3⟩, f0, hb, hlt⟩
        have hz0 : w.heap.size < W.heap.size := by omega
        have hz1 : w.heap.size < W.heap.size + 1 := by omega
        have hz2 : w.heap.size + 1 + 1 < W.heap.size + 1 := by omega
        go_region_with (go_at_call 24; refine (cmp_any a b g h _).mono ?_; rintro e w' ⟨rfl, rfl⟩)
        all_goals (try go_bits)
        all_goals go_wp2
        all_goals refine bodyPost_ret (v := .tuple #[.agg #[.int .u64 a, .int .u64 b, .int .u64 g, .int .u64 h], .bool (decide (cmp3 a b g h ≤ 0))]) ?_ rfl ⟨rfl, ?_⟩
        all_goals first
          | exact (((((((hb.setCell (p := ⟨w.heap.size + 1 + 1, 0, none⟩) (by simp; omega) _).setCell (p := ⟨w.heap.size + 1 + 1, 1, none⟩) (by simp; omega) _).setCell (p := ⟨w.heap.size + 1 + 1, 2, none⟩) (by simp; omega) _).setCell (p := ⟨w.heap.size + 1 + 1, 3, none⟩) (by simp; omega) _).alloc (by simp; omega) _).alloc (by simp; omega) _)).drew
          | (simp [results, Yba.results29, go_sem, *]; done)
      all_goals (repeat (first | (refine newAt ?_ rfl; simp; done) | refine keepA _ ?_ | refine Below.alloc ?_ (by (try simp only [World.size_alloc]); omega) _ | exact Below.refl _ _))
    · simp only [if_neg h1, if_neg h2]
      go_enter Yba.func29, Yba.ntmps29
      go_wp2_with (first | (go_at_call_of 24 (Value.agg #[.int .u64 a, .int .u64 b]); refine (cmp_any a b e f _).mono ?_; rintro e w' ⟨rfl, rfl⟩) | (go_at_call_of 24 (Value.agg #[.int .u64 c, .int .u64 d]); refine (cmp_any c d g h _).mono ?_; rintro e w' ⟨rfl, rfl⟩))
      refine wp_at_world (fun W => (W.cell? ⟨w.heap.size, 0, none⟩ = some (.int .u64 a) ∧ W.cell? ⟨w.heap.size, 1, none⟩ = some (.int .u64 b) ∧ W.cell? ⟨w.heap.size, 2, none⟩ = some (.int .u64 c) ∧ W.cell? ⟨w.heap.size, 2 + 1, none⟩ = some (.int .u64 d)) ∧
        (W.cell? ⟨w.heap.size + 1 + 1, 0, none⟩ = some (.int .u64 0) ∧ W.cell? ⟨w.heap.size + 1 + 1, 1, none⟩ = some (.int .u64 0) ∧ W.cell? ⟨w.heap.size + 1 + 1, 2, none⟩ = some (.int .u64 0) ∧ W.cell? ⟨w.heap.size + 1 + 1, 3, none⟩ = some (.int .u64 0)) ∧ (∀ i, W.frozen? ⟨w.heap.size + 1 + 1, i, none⟩ = false) ∧ Below w.heap.size w W ∧ w.heap.size + 1 + 1 < W.heap.size)
        ⟨⟨?_, ?_, ?_, ?_⟩, ⟨?_, ?_, ?_, ?_⟩, fun i => keepFr _ (by simp) (keepFr _ (by simp) (keepFr _ (by simp) (keepFr _ (by simp) (newFr (by simp))))), ?_, by simp⟩ ?_
      rotate_left 9
      · rintro W ⟨⟨c0, c1, c2, c3⟩, ⟨d0, d1, d2, d3⟩, f0, hb, hlt⟩
        have hz0 : w.heap.size < W.heap.size := by omega
        have hz1 : w.heap.size < W.heap.size + 1 := by omega
        have hz2 : w.heap.size + 1 + 1 < W.heap.size + 1 := by omega
        go_region_with (go_at_call 24; refine (cmp_any a b c d _).mono ?_; rintro e w' ⟨rfl, rfl⟩)
        all_goals (try go_bits)
        all_goals go_wp2
        all_goals refine bodyPost_ret (v := .tuple #[.agg #[.int .u64 a, .int .u64 b, .int .u64 c, .int .u64 d], .bool (decide (cmp3 a b c d ≤ 0))]) ?_ rfl ⟨rfl, ?_⟩
        all_goals first
          | exact (((((((hb.setCell (p := ⟨w.heap.size + 1 + 1, 0, none⟩) (by simp; omega) _).setCell (p := ⟨w.heap.size + 1 + 1, 1, none⟩) (by simp; omega) _).setCell (p := ⟨w.heap.size + 1 + 1, 2, none⟩) (by simp; omega) _).setCell (p := ⟨w.heap.size + 1 + 1, 3, none⟩) (by simp; omega) _).alloc (by simp; omega) _).alloc (by simp; omega) _)).drew
          | (simp [results, Yba.results29, go_sem, *]; done)
      all_goals (repeat (first | (refine newAt ?_ rfl; simp; done) | refine keepA _ ?_ | refine Below.alloc ?_ (by (try simp only [World.size_alloc]); omega) _ | exact Below.refl _ _))

end Go.Proofs.Ybulkdlic
