/-
  DERIVED. alloc.LawS5618AWhole: slices.BinarySearchFunc OVER THE TIERS (a target of two cells: boxed; so the shelf's contract does not lie here), and 'parts'.
-/
import Derived.Test.YbulkdlicLeaf
import Derived.WalkKit
import Derived.WalkSpells
import Derived.WalkLawsBesides
import Derived.Deep.RegionHeld3
import Derived.Deep.DrawnRows
import Derived.BigQuiet
namespace Go.Proofs.Ybulkdlic
open Go.RowKit

attribute [local go_sem ↓] Go.wp_at_zero Go.wp_at_succ

theorem cell_below {W w' : World} {a : Addr} {v : Value} (h : W.cell? a = some v) (hb : Below W.heap.size W w') : w'.cell? a = some v := (hb.cell (World.block_lt_of_cell? _ _ h)).trans h
theorem bs_below {w W w' : World} {a1 a2 a3 a4 a5 : Addr} {v1 v2 v3 v4 v5 : Value} (h : W.cell? a1 = some v1 ∧ W.cell? a2 = some v2 ∧ W.cell? a3 = some v3 ∧ W.cell? a4 = some v4 ∧ W.cell? a5 = some v5 ∧ Below w.heap.size w W) (hb : Below W.heap.size W w') :
    w'.cell? a1 = some v1 ∧ w'.cell? a2 = some v2 ∧ w'.cell? a3 = some v3 ∧ w'.cell? a4 = some v4 ∧ w'.cell? a5 = some v5 ∧ Below w.heap.size w w' :=
  ⟨cell_below h.1 hb, cell_below h.2.1 hb, cell_below h.2.2.1 hb, cell_below h.2.2.2.1 hb, cell_below h.2.2.2.2.1 hb, h.2.2.2.2.2.trans (hb.mono h.2.2.2.2.2.size)⟩

set_option maxRecDepth 100000 in
set_option maxHeartbeats 2000000 in
/-- 'slices.BinarySearchFunc' over the tiers by value: the first of them whose last number is not below the target. -/
theorem bsearch_any (n cap BB TB i0 : Nat) (pb : Option Addr) (o : Nat → Nat) (Lh Ll : Nat → Int) (th tl : Int) (w : World) (hn : n ≤ 65536)
    (hix : ∀ (k : Nat), k < n → ∀ W, (Instr.indexAt 48 (.slice pb n cap) (.int .i64 k)).run Yba.prog W = .ok (.pointer (some ⟨BB, k, none⟩)) W)
    (hc : ∀ k, k < n → w.cell? ⟨BB, k, none⟩ = some (.pointer (some ⟨TB, o k, none⟩)))
    (hl : ∀ k, k < n → w.cell? ⟨TB, o k + 2, none⟩ = some (.int .u64 (Lh k)) ∧ w.cell? ⟨TB, o k + 2 + 1, none⟩ = some (.int .u64 (Ll k)))
    (hi : i0 ≤ n) (hlo : ∀ k, k < i0 → cmp3 (Lh k) (Ll k) th tl < 0) (hhi : ∀ k, i0 ≤ k → k < n → ¬ cmp3 (Lh k) (Ll k) th tl < 0) :
    Calls Yba.prog 28 #[.slice pb n cap, .agg #[.int .u64 th, .int .u64 tl], .func (.func 27) #[] #[]] w fun e w' =>
      (∃ fb, e = .returned (.tuple #[.int .i64 i0, .bool fb])) ∧ Below w.heap.size w w' := by
  go_enter Yba.func28, Yba.ntmps28
  go_wp2
  go_loopw [9, 10, 11] (fun p q _ wr => ∃ (i j : Nat), i ≤ i0 ∧ i0 ≤ j ∧ j ≤ n ∧ p = .int .i64 i ∧ q = .int .i64 j ∧ wr.cell? ⟨w.heap.size, 0, none⟩ = some (.int .u64 th) ∧ wr.cell? ⟨w.heap.size, 1, none⟩ = some (.int .u64 tl) ∧ Below w.heap.size w wr) (fun p q _ _ => (intOf q).toNat - (intOf p).toNat)
  case atStart => exact ⟨0, n, Nat.zero_le _, hi, Nat.le_refl _, rfl, rfl, by simp, by simp, (Below.refl _ _).alloc (Nat.le_refl _) _⟩
  case round =>
    obtain ⟨i, j, h1, h2, h3, rfl, rfl, c0, c1, hb⟩ := hrel
    by_cases hlt : i < j
    · obtain ⟨m, hm⟩ : ∃ m, m = (i + j) / 2 := ⟨_, rfl⟩
      have hm1 : i ≤ m := by omega
      have hm2 : m < j := by omega
      have hx := hix m (by omega)
      have k1 := hc m (by omega)
      obtain ⟨k2, k3⟩ := hl m (by omega)
      have lB := World.block_lt_of_cell? _ _ k1
      have lT := World.block_lt_of_cell? _ _ k2
      have k1' : wr.cell? ⟨BB, m, none⟩ = some (.pointer (some ⟨TB, o m, none⟩)) := (hb.cell (p := ⟨BB, m, none⟩) lB).trans k1
      have k2' : wr.cell? ⟨TB, o m + 2, none⟩ = some (.int .u64 (Lh m)) := (hb.cell (p := ⟨TB, o m + 2, none⟩) lT).trans k2
      have k3' : wr.cell? ⟨TB, o m + 2 + 1, none⟩ = some (.int .u64 (Ll m)) := (hb.cell (p := ⟨TB, o m + 2 + 1, none⟩) lT).trans k3
      clear hix hc hl k1 k2 k3
      go_wp2
      have hmI : ((i : Int) + (j : Int)) / 2 = (m : Int) := by omega
      rw [hmI]
      clear hmI hm
      go_region_held3 (fun w' => w'.cell? ⟨BB, m, none⟩ = some (.pointer (some ⟨TB, o m, none⟩)) ∧ w'.cell? ⟨w.heap.size, 0, none⟩ = some (.int .u64 th) ∧ w'.cell? ⟨w.heap.size, 1, none⟩ = some (.int .u64 tl) ∧ w'.cell? ⟨TB, o m + 2, none⟩ = some (.int .u64 (Lh m)) ∧ w'.cell? ⟨TB, o m + 2 + 1, none⟩ = some (.int .u64 (Ll m)) ∧ Below w.heap.size w w') (first | exact ⟨k1', c0, c1, k2', k3', hb.drew⟩ | exact bs_below ‹_ ∧ _› hB' | (go_keep; done))
        (first | (go_at_call 27; refine (last_any TB (o m) (Lh m) (Ll m) th tl wr.drew k2' k3').mono ?_; rintro e w' ⟨rfl, hB'⟩))
      obtain ⟨-, e0, e1, -, -, e2⟩ := ‹_ ∧ _›
      by_cases hd : m < i0
      · have hcm := hlo m hd
        go_wp2
        go_roundw
        case rel => exact ⟨m + 1, j, by omega, by omega, by omega, by go_num, rfl, e0, e1, e2⟩
        case measure => simp [intOf]; omega
      · have hcm := hhi m (by omega) (by omega)
        go_wp2
        go_roundw
        case rel => exact ⟨i, m, by omega, by omega, by omega, rfl, rfl, e0, e1, e2⟩
        case measure => simp [intOf]; omega
    · obtain rfl : i = i0 := by omega
      by_cases hin : i < n
      · have hx := hix i (by omega)
        have k1 := hc i (by omega)
        obtain ⟨k2, k3⟩ := hl i (by omega)
        have lB := World.block_lt_of_cell? _ _ k1
        have lT := World.block_lt_of_cell? _ _ k2
        have k1' : wr.cell? ⟨BB, i, none⟩ = some (.pointer (some ⟨TB, o i, none⟩)) := (hb.cell (p := ⟨BB, i, none⟩) lB).trans k1
        have k2' : wr.cell? ⟨TB, o i + 2, none⟩ = some (.int .u64 (Lh i)) := (hb.cell (p := ⟨TB, o i + 2, none⟩) lT).trans k2
        have k3' : wr.cell? ⟨TB, o i + 2 + 1, none⟩ = some (.int .u64 (Ll i)) := (hb.cell (p := ⟨TB, o i + 2 + 1, none⟩) lT).trans k3
        clear hix hc hl k1 k2 k3
        have hinI : (i : Int) < (n : Int) := by omega
        go_wp2
        go_region_held3 (fun w' => w'.cell? ⟨BB, i, none⟩ = some (.pointer (some ⟨TB, o i, none⟩)) ∧ w'.cell? ⟨w.heap.size, 0, none⟩ = some (.int .u64 th) ∧ w'.cell? ⟨w.heap.size, 1, none⟩ = some (.int .u64 tl) ∧ w'.cell? ⟨TB, o i + 2, none⟩ = some (.int .u64 (Lh i)) ∧ w'.cell? ⟨TB, o i + 2 + 1, none⟩ = some (.int .u64 (Ll i)) ∧ Below w.heap.size w w') (first | exact ⟨k1', c0, c1, k2', k3', hb.drew⟩ | exact bs_below ‹_ ∧ _› hB' | (go_keep; done))
          (first | (go_at_call 27; refine (last_any TB (o i) (Lh i) (Ll i) th tl wr.drew k2' k3').mono ?_; rintro e w' ⟨rfl, hB'⟩))
        all_goals (obtain ⟨-, -, -, -, -, e2⟩ := ‹_ ∧ _›)
        all_goals go_wp2
        all_goals refine bodyPost_ret (v := .tuple #[.int .i64 i, .bool (cmp3 (Lh i) (Ll i) th tl == 0)]) ?_ rfl ⟨⟨_, rfl⟩, e2⟩
        all_goals simp [results, Yba.results28, go_sem]
      · clear hix hc hl
        have hni : decide (i < n) = false := by simp; omega
        go_wp2
        go_quiet (fail)
        go_wp2
        refine bodyPost_ret (v := .tuple #[.int .i64 i, .bool false]) ?_ rfl ⟨⟨_, rfl⟩, ?_⟩
        · simp [results, Yba.results28, go_sem]
        · exact hb.trans ⟨rfl, rfl, rfl, Nat.le_refl _, fun _ _ => rfl⟩

set_option maxRecDepth 100000 in
/-- 'parts': the two captured variables are boxed; the closure is handed back. -/
theorem parts_any (pv : Value) (h1 : pv.oneCell' = true) (a b c d : Int) (w : World) :
    Calls Yba.prog 8 #[pv, .agg #[.int .u64 a, .int .u64 b, .int .u64 c, .int .u64 d]] w fun e w' =>
      e = .returned (.func (.func 26) #[] #[.pointer (some ⟨w.heap.size, 0, none⟩), .pointer (some ⟨w.heap.size + 1, 0, none⟩)]) ∧
      w' = (w.alloc (.cells #[pv] 33)).alloc (.cells #[.int .u64 a, .int .u64 b, .int .u64 c, .int .u64 d] 31) := by
  go_enter Yba.func8, Yba.ntmps8
  go_wp2
  go_ret
  exact ⟨rfl, rfl⟩

end Go.Proofs.Ybulkdlic
