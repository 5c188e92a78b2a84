/-
  DERIVED. alloc.LawS5618BWhole: slices.Equal OF TWO ROWS OF RUNS THAT ARE THE SAME.
-/
import Derived.Test.YbulkdlicBAdd
namespace Go.Proofs.Ybulkdlic
open Go.RowKit

attribute [local go_sem ↓] Go.wp_at_zero Go.wp_at_succ

set_option maxRecDepth 100000 in
set_option maxHeartbeats 2000000 in
theorem equal_same (base base' : Nat) (v v' : Value) (L : List (Nat × Nat)) (n : Nat) (w : World) (hn : L.length = n) (hL : n ≤ 65536) (hv : w.ownsRow base 31 4 v n (flat L)) (hv' : w.ownsRow base' 31 4 v' n (flat L)) :
    Calls Yba.prog 20 #[v, v'] w fun e w' => e = .returned (.bool true) ∧ Below w.heap.size w w' := by
  obtain ⟨g, p, cp, rfl, hix, hcs⟩ := row_view hv hn
  obtain ⟨g', p', cp', rfl, hix', hcs'⟩ := row_view hv' hn
  clear hv hv'
  go_enter Yba.func20, Yba.ntmps20
  go_wp2
  go_loopw [5, 13] (fun _ i wr => ∃ k : Nat, k ≤ n ∧ i = .int .i64 k ∧ ∃ d, wr = w.drewN d) (fun _ i _ => n - (intOf i).toNat)
  case atStart => exact ⟨0, Nat.zero_le _, rfl, 0, rfl⟩
  case round =>
    obtain ⟨k, hk, rfl, d, rfl⟩ := hrel
    by_cases hlt : k < n
    · have hx := hix k hlt
      have hx' := hix' k hlt
      obtain ⟨a0, a1, a2, a3⟩ := hcs k hlt
      obtain ⟨b0, b1, b2, b3⟩ := hcs' k hlt
      have hlI : (k : Int) < (n : Int) := by omega
      clear hix hix' hcs hcs'
      go_wp2
      go_quiet (fail)
      go_wp2
      exact ⟨⟨k + 1, by omega, by go_num, _, rfl⟩, by simp [intOf]; omega⟩
    · obtain rfl : k = n := by omega
      have hlI : ¬ (k : Int) < (k : Int) := by omega
      clear hix hix' hcs hcs'
      go_wp2
      go_ret
      exact ⟨rfl, below_drewN (Below.refl _ w) d⟩

end Go.Proofs.Ybulkdlic
