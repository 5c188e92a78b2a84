/-
  DERIVED. octocell: THE CONTRACTS OF (*table).isUnclaimed (function 5) AND (*table).claim (function 4), and pointer comparisons.
-/
import Derived.Test.YbulkdlhaTable
import Derived.Deep.QuietTactic
namespace Go.Proofs.Ybulkdlha
open Go.RowKit

theorem info30' : ∃ j, Yba.prog.info? 30 = some j ∧ j.size ≠ 0 := by
  obtain ⟨i, hi, hz, hs, hb⟩ := info_parts info30
  exact ⟨i, hi, by omega⟩
theorem eql32_same (w : World) (a : Addr) : (binOp .eql 32 (.pointer (some a)) (.pointer (some a))).run Yba.prog w = .ok (.bool true) w := by
  obtain ⟨j, hj, _⟩ := info30'
  exact run_eql_ptr_same w a Yba.underlying32 hj
theorem eql32_other {w : World} {a b : Nat} {n m : Nat} {f g : Nat → Value} (ha : w.rowIs a 30 n f) (hb : w.rowIs b 30 m g) (hne : a ≠ b) : (binOp .eql 32 (.pointer (some ⟨a, 0, none⟩)) (.pointer (some ⟨b, 0, none⟩))).run Yba.prog w = .ok (.bool false) w := by
  obtain ⟨j, hj, hs⟩ := info30'
  obtain ⟨ca, h1, _⟩ := ha
  obtain ⟨cb, h2, _⟩ := hb
  exact run_eql_ptr_other w Yba.underlying32 hj hs (by intro e; cases e; exact hne rfl) h1 h2
theorem neq32_same (w : World) (a : Addr) : (binOp .neq 32 (.pointer (some a)) (.pointer (some a))).run Yba.prog w = .ok (.bool false) w := by
  obtain ⟨j, hj, _⟩ := info30'
  have h : ∀ d : Nat, (Op.equalIn (d + 1) 32 (.pointer (some a)) (.pointer (some a))).run Yba.prog w = .ok true w := fun d => by
    simp [Op.equalIn, run_underlying Yba.underlying32, sizeOf, typeInfo, hj, run_sameAddr_same]
  simp only [binOp]
  simp [Op.equal, Op.maxDepth, h 9999]

/-- isUnclaimed where it does not look into memory. -/
theorem un_low (T Sg cnt half : Nat) (I : Nat) (w : World) (hc : w.cell? ⟨T, 0, none⟩ = some (.slice (some ⟨Sg, 0, none⟩) cnt cnt)) (hcnt : cnt ≤ 16) (hhalf : (cnt : Int) / 2 = (half : Int)) (h : half = 0 ∨ I < half) :
    Calls Yba.prog 5 #[.pointer (some ⟨T, 0, none⟩), .int .i64 (I : Int)] w fun e w' => e = .returned (.bool false) ∧ ∃ n, w' = w.drewN n := by
  rcases h with rfl | h
  · go_enter Yba.func5, Yba.ntmps5
    go_wp2
    have hd : decide ((0 : Int) < ((0 : Nat) : Int)) = false := by simp
    go_quiet (fail)
    go_wp2
    go_ret
    exact ⟨rfl, _, rfl⟩
  · have hp : 0 < half := by omega
    have hd2 : decide (half ≤ I) = false := by simp; omega
    go_enter Yba.func5, Yba.ntmps5
    go_wp2
    go_quiet (fail)
    go_wp2
    go_ret
    exact ⟨rfl, _, rfl⟩

/-- isUnclaimed where it compares the two segments' first buckets. -/
theorem un_high (T Sg cnt half sl : Nat) (I ga gb : Nat) (r : Bool) (w : World) (hc : w.cell? ⟨T, 0, none⟩ = some (.slice (some ⟨Sg, 0, none⟩) cnt cnt)) (hcnt : cnt ≤ 16) (hhalf : (cnt : Int) / 2 = (half : Int)) (h0 : 0 < half) (h1 : half ≤ I) (h2 : I < cnt) (hs1 : 1 ≤ sl)
    (ha : w.cell? ⟨Sg, I, none⟩ = some (.slice (some ⟨ga, 0, none⟩) sl sl)) (hb : w.cell? ⟨Sg, I - half, none⟩ = some (.slice (some ⟨gb, 0, none⟩) sl sl))
    (heq : ∀ n, (binOp .eql 32 (.pointer (some ⟨ga, 0, none⟩)) (.pointer (some ⟨gb, 0, none⟩))).run Yba.prog (w.drewN n) = .ok (.bool r) (w.drewN n)) :
    Calls Yba.prog 5 #[.pointer (some ⟨T, 0, none⟩), .int .i64 (I : Int)] w fun e w' => e = .returned (.bool r) ∧ ∃ n, w' = w.drewN n := by
  have hp : (0 : Int) < (half : Int) := by omega
  have hle : (half : Int) ≤ (I : Int) := by omega
  have hlt : (I : Int) < (cnt : Int) := by omega
  have hsl : (0 : Int) < (sl : Int) := by omega
  have e1 : IntKind.i64.wrap ((I : Int) - (half : Int)) = ((I - half : Nat) : Int) := by rw [IntKind.wrap_i64]; omega
  have e2 : ((I - half : Nat) : Int) < (cnt : Int) := by omega
  go_enter Yba.func5, Yba.ntmps5
  go_wp2
  go_quiet (fail)
  go_wp2
  go_ret
  exact ⟨rfl, _, rfl⟩

set_option maxRecDepth 100000 in
/-- claim of a bucket whose segment has memory of its own. -/
theorem claim_own (T Sg cnt sl J I O ga : Nat) (sft : Int) (w : World) (hc : w.cell? ⟨T, 0, none⟩ = some (.slice (some ⟨Sg, 0, none⟩) cnt cnt)) (hc1 : w.cell? ⟨T, 1, none⟩ = some (.int .u64 sft)) (hs0 : 0 ≤ sft) (hs3 : sft ≤ 3)
    (e1 : (J : Int) / 2 ^ sft.toNat = (I : Int)) (e2 : wrap64 (2 ^ sft.toNat) = (sl : Int)) (e3 : bits .and .i64 (J : Int) ((sl : Int) - 1) = (O : Int)) (hsl : sl ≤ 8) (hO : O < sl) (hI : I < cnt)
    (ha : w.cell? ⟨Sg, I, none⟩ = some (.slice (some ⟨ga, 0, none⟩) sl sl))
    (hun : Calls Yba.prog 5 #[.pointer (some ⟨T, 0, none⟩), .int .i64 (I : Int)] w fun e w' => e = .returned (.bool false) ∧ ∃ m, w' = w.drewN m) :
    Calls Yba.prog 4 #[.pointer (some ⟨T, 0, none⟩), .int .i64 (J : Int)] w fun e w' => e = .returned (.pointer (some ⟨ga, O * 18, none⟩)) ∧ ∃ n, w' = w.drewN n := by
  have HU : Hid (Calls Yba.prog 5 #[.pointer (some ⟨T, 0, none⟩), .int .i64 (I : Int)] w fun e w' => e = .returned (.bool false) ∧ ∃ m, w' = w.drewN m) := hun
  clear hun
  have hIc : (I : Int) < (cnt : Int) := by omega
  have hOs : (O : Int) < (sl : Int) := by omega
  go_enter Yba.func4, Yba.ntmps4
  go_wp2_with fail
  refine HU.out.mono ?_
  clear HU
  rintro e w1 ⟨rfl, m, rfl⟩
  go_wp2
  go_region
  all_goals go_wp2
  all_goals go_ret
  all_goals exact ⟨rfl, m + 1, rfl⟩

set_option maxRecDepth 100000 in
/-- claim of a bucket whose segment is shared still: it gets fresh memory. -/
theorem claim_new (T Sg cnt sl J I O : Nat) (ga : Value) (sft : Int) (w : World) (hc : w.cell? ⟨T, 0, none⟩ = some (.slice (some ⟨Sg, 0, none⟩) cnt cnt)) (hc1 : w.cell? ⟨T, 1, none⟩ = some (.int .u64 sft)) (hs0 : 0 ≤ sft) (hs3 : sft ≤ 3)
    (e1 : (J : Int) / 2 ^ sft.toNat = (I : Int)) (e2 : wrap64 (2 ^ sft.toNat) = (sl : Int)) (e3 : bits .and .i64 (J : Int) ((sl : Int) - 1) = (O : Int)) (hsl : sl ≤ 8) (hO : O < sl) (hI : I < cnt)
    (ha : w.cell? ⟨Sg, I, none⟩ = some ga) (hf : w.frozen? ⟨Sg, I, none⟩ = false) (hTS : T ≠ Sg) (hTl : T < w.heap.size) (hSl : Sg < w.heap.size)
    (hun : Calls Yba.prog 5 #[.pointer (some ⟨T, 0, none⟩), .int .i64 (I : Int)] w fun e w' => e = .returned (.bool true) ∧ ∃ m, w' = w.drewN m) :
    Calls Yba.prog 4 #[.pointer (some ⟨T, 0, none⟩), .int .i64 (J : Int)] w fun e w' => e = .returned (.pointer (some ⟨w.heap.size, O * 18, none⟩)) ∧ ∃ n, w' = ((w.alloc (.cells (madeCells zeros (sl * 18)) 30)).setCell ⟨Sg, I, none⟩ (.slice (some ⟨w.heap.size, 0, none⟩) sl sl)).drewN n := by
  have HU : Hid (Calls Yba.prog 5 #[.pointer (some ⟨T, 0, none⟩), .int .i64 (I : Int)] w fun e w' => e = .returned (.bool true) ∧ ∃ m, w' = w.drewN m) := hun
  clear hun
  have hIc : (I : Int) < (cnt : Int) := by omega
  have hOs : (O : Int) < (sl : Int) := by omega
  have mk := make30 sl hsl
  go_enter Yba.func4, Yba.ntmps4
  go_wp2_with fail
  refine HU.out.mono ?_
  clear HU
  rintro e w1 ⟨rfl, m, rfl⟩
  have q0 : ((w.drewN (m + 1)).alloc (.cells (madeCells zeros (sl * 18)) 30)).cell? ⟨T, 0, none⟩ = some (.slice (some ⟨Sg, 0, none⟩) cnt cnt) := by rw [World.cell?_of_block (w := w) (Below.heap_alloc w _ T hTl)]; exact hc
  have q1 : ((w.drewN (m + 1)).alloc (.cells (madeCells zeros (sl * 18)) 30)).cell? ⟨T, 1, none⟩ = some (.int .u64 sft) := by rw [World.cell?_of_block (w := w) (Below.heap_alloc w _ T hTl)]; exact hc1
  have q2 : ((w.drewN (m + 1)).alloc (.cells (madeCells zeros (sl * 18)) 30)).cell? ⟨Sg, I, none⟩ = some ga := by rw [World.cell?_of_block (w := w) (Below.heap_alloc w _ Sg hSl)]; exact ha
  have q3 : ((w.drewN (m + 1)).alloc (.cells (madeCells zeros (sl * 18)) 30)).frozen? ⟨Sg, I, none⟩ = false := by rw [World.frozen?_of_block (w := w) (Below.heap_alloc w _ Sg hSl)]; exact hf
  have r0 : (((w.drewN (m + 1)).alloc (.cells (madeCells zeros (sl * 18)) 30)).setCell ⟨Sg, I, none⟩ (.slice (some ⟨w.heap.size, 0, none⟩) sl sl)).cell? ⟨T, 0, none⟩ = some (.slice (some ⟨Sg, 0, none⟩) cnt cnt) := by rw [World.cell?_of_block (Below.heap_setCell _ _ _ T hTS)]; exact q0
  have r1 : (((w.drewN (m + 1)).alloc (.cells (madeCells zeros (sl * 18)) 30)).setCell ⟨Sg, I, none⟩ (.slice (some ⟨w.heap.size, 0, none⟩) sl sl)).cell? ⟨T, 1, none⟩ = some (.int .u64 sft) := by rw [World.cell?_of_block (Below.heap_setCell _ _ _ T hTS)]; exact q1
  have r2 : (((w.drewN (m + 1)).alloc (.cells (madeCells zeros (sl * 18)) 30)).setCell ⟨Sg, I, none⟩ (.slice (some ⟨w.heap.size, 0, none⟩) sl sl)).cell? ⟨Sg, I, none⟩ = some (.slice (some ⟨w.heap.size, 0, none⟩) sl sl) := World.cell?_setCell_same' _ _ _ (by rw [q2]; rfl)
  go_wp2
  go_region
  all_goals go_wp2
  clear q0 q1 q2 q3
  have HW : ∃ W, ((w.drewN (m + 1)).alloc (.cells (madeCells zeros (sl * 18)) 30)).setCell ⟨Sg, I, none⟩ (.slice (some ⟨w.heap.size, 0, none⟩) sl sl) = W := ⟨_, rfl⟩
  obtain ⟨W, hW⟩ := HW
  rw [hW] at r0 r1 r2 ⊢
  have HW : Hid (((w.drewN (m + 1)).alloc (.cells (madeCells zeros (sl * 18)) 30)).setCell ⟨Sg, I, none⟩ (.slice (some ⟨w.heap.size, 0, none⟩) sl sl) = W) := hW
  clear hW hc hc1 ha hf
  go_region
  all_goals go_wp2
  all_goals go_ret
  all_goals exact ⟨rfl, m + 2, by rw [← HW.out]; rfl⟩

end Go.Proofs.Ybulkdlha
