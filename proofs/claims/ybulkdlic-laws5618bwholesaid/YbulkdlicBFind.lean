/-
  DERIVED. alloc.LawS5618BWhole: slices.BinarySearchFunc OVER A ROW OF RUNS, by their first and by their last numbers.
-/
import Derived.Test.YbulkdlicBLeaf
import Derived.Test.YbulkdlicFind
import Derived.Test.YbulkdlicPlain
namespace Go.Proofs.Ybulkdlic
open Go.RowKit

theorem bs6_below {w W w' : World} {a1 a2 a3 a4 a5 a6 : Addr} {v1 v2 v3 v4 v5 v6 : Value} (h : W.cell? a1 = some v1 ∧ W.cell? a2 = some v2 ∧ W.cell? a3 = some v3 ∧ W.cell? a4 = some v4 ∧ W.cell? a5 = some v5 ∧ W.cell? a6 = some v6 ∧ Below w.heap.size w W) (hb : Below W.heap.size W w') :
    w'.cell? a1 = some v1 ∧ w'.cell? a2 = some v2 ∧ w'.cell? a3 = some v3 ∧ w'.cell? a4 = some v4 ∧ w'.cell? a5 = some v5 ∧ w'.cell? a6 = some v6 ∧ Below w.heap.size w w' :=
  ⟨cell_below h.1 hb, cell_below h.2.1 hb, cell_below h.2.2.1 hb, cell_below h.2.2.2.1 hb, cell_below h.2.2.2.2.1 hb, cell_below h.2.2.2.2.2.1 hb, h.2.2.2.2.2.2.trans (hb.mono h.2.2.2.2.2.2.size)⟩
theorem cmp3_eq {a b c d : Int} : cmp3 a b c d = 0 ↔ a = c ∧ b = d := by
  unfold cmp3
  by_cases h : a < c ∨ (a = c ∧ b < d)
  · rw [if_pos h]; exact ⟨fun h' => by omega, fun h' => by omega⟩
  · rw [if_neg h]
    by_cases e : a = c ∧ b = d
    · rw [if_pos e]; exact ⟨fun _ => e, fun _ => rfl⟩
    · rw [if_neg e]; exact ⟨fun h' => by omega, fun h' => absurd h' e⟩

set_option maxRecDepth 100000 in
set_option maxHeartbeats 2000000 in
/-- 'slices.BinarySearchFunc' over runs, by their last numbers. -/
theorem bslast (n cap g i0 : Nat) (pb : Option Addr) (F L : Nat → Nat) (v : Nat) (w : World) (hn : n ≤ 65536)
    (hix : ∀ (k : Nat), k < n → ∀ W, (Instr.indexAt 25 (.slice pb n cap) (.int .i64 k)).run Yba.prog W = .ok (.pointer (some ⟨g, k * 4, none⟩)) W)
    (hc : ∀ k, k < n → w.cell? ⟨g, k * 4, none⟩ = some (.int .u64 0) ∧ w.cell? ⟨g, k * 4 + 1, none⟩ = some (.int .u64 (F k : Int)) ∧ w.cell? ⟨g, k * 4 + 2, none⟩ = some (.int .u64 0) ∧ w.cell? ⟨g, k * 4 + 3, none⟩ = some (.int .u64 (L k : Int)))
    (hi : i0 ≤ n) (hlo : ∀ k, k < i0 → L k < v) (hhi : ∀ k, i0 ≤ k → k < n → v ≤ L k) :
    Calls Yba.prog 40 #[.slice pb n cap, .agg #[.int .u64 0, .int .u64 (v : Int)], .func (.func 41) #[] #[]] w fun e w' =>
      (∃ fb, e = .returned (.tuple #[.int .i64 i0, .bool fb]) ∧ (fb = true → i0 < n ∧ L i0 = v)) ∧ Below w.heap.size w w' := by
  go_enter Yba.func40, Yba.ntmps40
  go_wp2
  go_loopw [9, 10, 11] (fun p q _ wr => ∃ (i j : Nat), i ≤ i0 ∧ i0 ≤ j ∧ j ≤ n ∧ p = .int .i64 i ∧ q = .int .i64 j ∧ wr.cell? ⟨w.heap.size, 0, none⟩ = some (.int .u64 0) ∧ wr.cell? ⟨w.heap.size, 1, none⟩ = some (.int .u64 (v : Int)) ∧ Below w.heap.size w wr) (fun p q _ _ => (intOf q).toNat - (intOf p).toNat)
  case atStart => exact ⟨0, n, Nat.zero_le _, hi, Nat.le_refl _, rfl, rfl, by simp, by simp, (Below.refl _ _).alloc (Nat.le_refl _) _⟩
  case round =>
    obtain ⟨i, j, h1, h2, h3, rfl, rfl, c0, c1, hb⟩ := hrel
    by_cases hlt : i < j
    · obtain ⟨m, hm⟩ : ∃ m, m = (i + j) / 2 := ⟨_, rfl⟩
      have hm1 : i ≤ m := by omega
      have hm2 : m < j := by omega
      have hx := hix m (by omega)
      obtain ⟨k0, k1, k2, k3⟩ := hc m (by omega)
      have lB := World.block_lt_of_cell? _ _ k0
      have k0' := (hb.cell (p := ⟨g, m * 4, none⟩) lB).trans k0
      have k1' := (hb.cell (p := ⟨g, m * 4 + 1, none⟩) lB).trans k1
      have k2' := (hb.cell (p := ⟨g, m * 4 + 2, none⟩) lB).trans k2
      have k3' := (hb.cell (p := ⟨g, m * 4 + 3, none⟩) lB).trans k3
      have H := lastcmp_any 0 (F m : Int) 0 (L m : Int) 0 (v : Int)
      clear hix hc k0 k1 k2 k3
      go_wp2
      have hmI : ((i : Int) + (j : Int)) / 2 = (m : Int) := by omega
      rw [hmI]
      clear hmI hm
      go_region_held3 (fun w' => w'.cell? ⟨g, m * 4, none⟩ = some (.int .u64 0) ∧ w'.cell? ⟨g, m * 4 + 1, none⟩ = some (.int .u64 (F m : Int)) ∧ w'.cell? ⟨g, m * 4 + 2, none⟩ = some (.int .u64 0) ∧ w'.cell? ⟨g, m * 4 + 3, none⟩ = some (.int .u64 (L m : Int)) ∧ w'.cell? ⟨w.heap.size, 0, none⟩ = some (.int .u64 0) ∧ w'.cell? ⟨w.heap.size, 1, none⟩ = some (.int .u64 (v : Int)) ∧ Below w.heap.size w w') (first | exact ⟨k0', k1', k2', k3', c0, c1, hb.drew⟩ | exact bs6_below ‹_ ∧ _› hB' | (go_keep; done))
        (first | (go_at_call 41; refine (H _).mono ?_; rintro e w' ⟨rfl, hB'⟩))
      obtain ⟨-, -, -, -, e0, e1, e2⟩ := ‹_ ∧ _›
      by_cases hd : m < i0
      · have hcm : cmp3 0 (L m : Int) 0 (v : Int) < 0 := cmp3_lt.2 (.inr ⟨rfl, by have := hlo m hd; omega⟩)
        go_wp2
        go_roundw
        case rel => exact ⟨m + 1, j, by omega, by omega, by omega, by go_num, rfl, e0, e1, e2⟩
        case measure => simp [intOf]; omega
      · have hcm : ¬ cmp3 0 (L m : Int) 0 (v : Int) < 0 := fun hh => by have := cmp3_lt.1 hh; have := hhi m (by omega) (by omega); omega
        go_wp2
        go_roundw
        case rel => exact ⟨i, m, by omega, by omega, by omega, rfl, rfl, e0, e1, e2⟩
        case measure => simp [intOf]; omega
    · obtain rfl : i = i0 := by omega
      by_cases hin : i < n
      · have hx := hix i (by omega)
        obtain ⟨k0, k1, k2, k3⟩ := hc i (by omega)
        have lB := World.block_lt_of_cell? _ _ k0
        have k0' := (hb.cell (p := ⟨g, i * 4, none⟩) lB).trans k0
        have k1' := (hb.cell (p := ⟨g, i * 4 + 1, none⟩) lB).trans k1
        have k2' := (hb.cell (p := ⟨g, i * 4 + 2, none⟩) lB).trans k2
        have k3' := (hb.cell (p := ⟨g, i * 4 + 3, none⟩) lB).trans k3
        have H := lastcmp_any 0 (F i : Int) 0 (L i : Int) 0 (v : Int)
        clear hix hc k0 k1 k2 k3
        have hinI : (i : Int) < (n : Int) := by omega
        go_wp2
        go_region_held3 (fun w' => w'.cell? ⟨g, i * 4, none⟩ = some (.int .u64 0) ∧ w'.cell? ⟨g, i * 4 + 1, none⟩ = some (.int .u64 (F i : Int)) ∧ w'.cell? ⟨g, i * 4 + 2, none⟩ = some (.int .u64 0) ∧ w'.cell? ⟨g, i * 4 + 3, none⟩ = some (.int .u64 (L i : Int)) ∧ w'.cell? ⟨w.heap.size, 0, none⟩ = some (.int .u64 0) ∧ w'.cell? ⟨w.heap.size, 1, none⟩ = some (.int .u64 (v : Int)) ∧ Below w.heap.size w w') (first | exact ⟨k0', k1', k2', k3', c0, c1, hb.drew⟩ | exact bs6_below ‹_ ∧ _› hB' | (go_keep; done))
          (first | (go_at_call 41; refine (H _).mono ?_; rintro e w' ⟨rfl, hB'⟩))
        all_goals (obtain ⟨-, -, -, -, -, -, e2⟩ := ‹_ ∧ _›)
        all_goals go_wp2
        all_goals refine bodyPost_ret (v := .tuple #[.int .i64 i, .bool (cmp3 0 (L i : Int) 0 (v : Int) == 0)]) ?_ rfl ⟨⟨_, rfl, fun hf => ⟨hin, by have := cmp3_eq.1 (by simpa using hf); omega⟩⟩, e2⟩
        all_goals simp [results, Yba.results40, go_sem]
      · clear hix hc
        have hni : decide (i < n) = false := by simp; omega
        go_wp2
        go_quiet (fail)
        go_wp2
        refine bodyPost_ret (v := .tuple #[.int .i64 i, .bool false]) ?_ rfl ⟨⟨_, rfl, fun h => by cases h⟩, ?_⟩
        · simp [results, Yba.results40, go_sem]
        · exact hb.trans ⟨rfl, rfl, rfl, Nat.le_refl _, fun _ _ => rfl⟩

set_option maxRecDepth 100000 in
set_option maxHeartbeats 2000000 in
/-- 'slices.BinarySearchFunc' over runs, by their first numbers. -/
theorem bsfirst (n cap g i0 : Nat) (pb : Option Addr) (F L : Nat → Nat) (v : Nat) (w : World) (hn : n ≤ 65536)
    (hix : ∀ (k : Nat), k < n → ∀ W, (Instr.indexAt 25 (.slice pb n cap) (.int .i64 k)).run Yba.prog W = .ok (.pointer (some ⟨g, k * 4, none⟩)) W)
    (hc : ∀ k, k < n → w.cell? ⟨g, k * 4, none⟩ = some (.int .u64 0) ∧ w.cell? ⟨g, k * 4 + 1, none⟩ = some (.int .u64 (F k : Int)) ∧ w.cell? ⟨g, k * 4 + 2, none⟩ = some (.int .u64 0) ∧ w.cell? ⟨g, k * 4 + 3, none⟩ = some (.int .u64 (L k : Int)))
    (hi : i0 ≤ n) (hlo : ∀ k, k < i0 → F k < v) (hhi : ∀ k, i0 ≤ k → k < n → v ≤ F k) :
    Calls Yba.prog 40 #[.slice pb n cap, .agg #[.int .u64 0, .int .u64 (v : Int)], .func (.func 56) #[] #[]] w fun e w' =>
      (∃ fb, e = .returned (.tuple #[.int .i64 i0, .bool fb]) ∧ (fb = true → i0 < n ∧ F i0 = v)) ∧ Below w.heap.size w w' := by
  go_enter Yba.func40, Yba.ntmps40
  go_wp2
  go_loopw [9, 10, 11] (fun p q _ wr => ∃ (i j : Nat), i ≤ i0 ∧ i0 ≤ j ∧ j ≤ n ∧ p = .int .i64 i ∧ q = .int .i64 j ∧ wr.cell? ⟨w.heap.size, 0, none⟩ = some (.int .u64 0) ∧ wr.cell? ⟨w.heap.size, 1, none⟩ = some (.int .u64 (v : Int)) ∧ Below w.heap.size w wr) (fun p q _ _ => (intOf q).toNat - (intOf p).toNat)
  case atStart => exact ⟨0, n, Nat.zero_le _, hi, Nat.le_refl _, rfl, rfl, by simp, by simp, (Below.refl _ _).alloc (Nat.le_refl _) _⟩
  case round =>
    obtain ⟨i, j, h1, h2, h3, rfl, rfl, c0, c1, hb⟩ := hrel
    by_cases hlt : i < j
    · obtain ⟨m, hm⟩ : ∃ m, m = (i + j) / 2 := ⟨_, rfl⟩
      have hm1 : i ≤ m := by omega
      have hm2 : m < j := by omega
      have hx := hix m (by omega)
      obtain ⟨k0, k1, k2, k3⟩ := hc m (by omega)
      have lB := World.block_lt_of_cell? _ _ k0
      have k0' := (hb.cell (p := ⟨g, m * 4, none⟩) lB).trans k0
      have k1' := (hb.cell (p := ⟨g, m * 4 + 1, none⟩) lB).trans k1
      have k2' := (hb.cell (p := ⟨g, m * 4 + 2, none⟩) lB).trans k2
      have k3' := (hb.cell (p := ⟨g, m * 4 + 3, none⟩) lB).trans k3
      have H := firstcmp_any 0 (F m : Int) 0 (L m : Int) 0 (v : Int)
      clear hix hc k0 k1 k2 k3
      go_wp2
      have hmI : ((i : Int) + (j : Int)) / 2 = (m : Int) := by omega
      rw [hmI]
      clear hmI hm
      go_region_held3 (fun w' => w'.cell? ⟨g, m * 4, none⟩ = some (.int .u64 0) ∧ w'.cell? ⟨g, m * 4 + 1, none⟩ = some (.int .u64 (F m : Int)) ∧ w'.cell? ⟨g, m * 4 + 2, none⟩ = some (.int .u64 0) ∧ w'.cell? ⟨g, m * 4 + 3, none⟩ = some (.int .u64 (L m : Int)) ∧ w'.cell? ⟨w.heap.size, 0, none⟩ = some (.int .u64 0) ∧ w'.cell? ⟨w.heap.size, 1, none⟩ = some (.int .u64 (v : Int)) ∧ Below w.heap.size w w') (first | exact ⟨k0', k1', k2', k3', c0, c1, hb.drew⟩ | exact bs6_below ‹_ ∧ _› hB' | (go_keep; done))
        (first | (go_at_call 56; refine (H _).mono ?_; rintro e w' ⟨rfl, hB'⟩))
      obtain ⟨-, -, -, -, e0, e1, e2⟩ := ‹_ ∧ _›
      by_cases hd : m < i0
      · have hcm : cmp3 0 (F m : Int) 0 (v : Int) < 0 := cmp3_lt.2 (.inr ⟨rfl, by have := hlo m hd; omega⟩)
        go_wp2
        go_roundw
        case rel => exact ⟨m + 1, j, by omega, by omega, by omega, by go_num, rfl, e0, e1, e2⟩
        case measure => simp [intOf]; omega
      · have hcm : ¬ cmp3 0 (F m : Int) 0 (v : Int) < 0 := fun hh => by have := cmp3_lt.1 hh; have := hhi m (by omega) (by omega); omega
        go_wp2
        go_roundw
        case rel => exact ⟨i, m, by omega, by omega, by omega, rfl, rfl, e0, e1, e2⟩
        case measure => simp [intOf]; omega
    · obtain rfl : i = i0 := by omega
      by_cases hin : i < n
      · have hx := hix i (by omega)
        obtain ⟨k0, k1, k2, k3⟩ := hc i (by omega)
        have lB := World.block_lt_of_cell? _ _ k0
        have k0' := (hb.cell (p := ⟨g, i * 4, none⟩) lB).trans k0
        have k1' := (hb.cell (p := ⟨g, i * 4 + 1, none⟩) lB).trans k1
        have k2' := (hb.cell (p := ⟨g, i * 4 + 2, none⟩) lB).trans k2
        have k3' := (hb.cell (p := ⟨g, i * 4 + 3, none⟩) lB).trans k3
        have H := firstcmp_any 0 (F i : Int) 0 (L i : Int) 0 (v : Int)
        clear hix hc k0 k1 k2 k3
        have hinI : (i : Int) < (n : Int) := by omega
        go_wp2
        go_region_held3 (fun w' => w'.cell? ⟨g, i * 4, none⟩ = some (.int .u64 0) ∧ w'.cell? ⟨g, i * 4 + 1, none⟩ = some (.int .u64 (F i : Int)) ∧ w'.cell? ⟨g, i * 4 + 2, none⟩ = some (.int .u64 0) ∧ w'.cell? ⟨g, i * 4 + 3, none⟩ = some (.int .u64 (L i : Int)) ∧ w'.cell? ⟨w.heap.size, 0, none⟩ = some (.int .u64 0) ∧ w'.cell? ⟨w.heap.size, 1, none⟩ = some (.int .u64 (v : Int)) ∧ Below w.heap.size w w') (first | exact ⟨k0', k1', k2', k3', c0, c1, hb.drew⟩ | exact bs6_below ‹_ ∧ _› hB' | (go_keep; done))
          (first | (go_at_call 56; refine (H _).mono ?_; rintro e w' ⟨rfl, hB'⟩))
        all_goals (obtain ⟨-, -, -, -, -, -, e2⟩ := ‹_ ∧ _›)
        all_goals go_wp2
        all_goals refine bodyPost_ret (v := .tuple #[.int .i64 i, .bool (cmp3 0 (F i : Int) 0 (v : Int) == 0)]) ?_ rfl ⟨⟨_, rfl, fun hf => ⟨hin, by have := cmp3_eq.1 (by simpa using hf); omega⟩⟩, e2⟩
        all_goals simp [results, Yba.results40, go_sem]
      · clear hix hc
        have hni : decide (i < n) = false := by simp; omega
        go_wp2
        go_quiet (fail)
        go_wp2
        refine bodyPost_ret (v := .tuple #[.int .i64 i, .bool false]) ?_ rfl ⟨⟨_, rfl, fun h => by cases h⟩, ?_⟩
        · simp [results, Yba.results40, go_sem]
        · exact hb.trans ⟨rfl, rfl, rfl, Nat.le_refl _, fun _ _ => rfl⟩

end Go.Proofs.Ybulkdlic
