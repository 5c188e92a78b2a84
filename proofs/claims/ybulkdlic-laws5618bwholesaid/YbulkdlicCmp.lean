/-
  DERIVED. alloc.LawS5618AWhole: THE LEAVES: the two comparisons of numbers of 128 bits.
-/
import Derived.Test.YbulkdlicRows
import Derived.WalkKit
import Derived.WalkSpells
import Derived.WalkLawsBesides
namespace Go.Proofs.Ybulkdlic
open Go.RowKit

/-- Which way two numbers of 128 bits stand to each other, by their halves. -/
def cmp3 (ah al bh bl : Int) : Int := if ah < bh ∨ (ah = bh ∧ al < bl) then -1 else if ah = bh ∧ al = bl then 0 else 1

set_option maxRecDepth 100000 in
theorem cmp_any (ah al bh bl : Int) (w : World) :
    Calls Yba.prog 24 #[.agg #[.int .u64 ah, .int .u64 al], .agg #[.int .u64 bh, .int .u64 bl]] w fun e w' => e = .returned (.int .i64 (cmp3 ah al bh bl)) ∧
      w' = (w.alloc (.cells #[.int .u64 ah, .int .u64 al] 29)).alloc (.cells #[.int .u64 bh, .int .u64 bl] 29) := by
  unfold cmp3
  by_cases h1 : ah < bh
  · rw [if_pos (Or.inl h1)]
    go_enter Yba.func24, Yba.ntmps24
    go_wp2
    go_ret
    exact ⟨rfl, rfl⟩
  · by_cases h2 : ah = bh
    · subst h2
      by_cases h3 : al < bl
      · rw [if_pos (Or.inr ⟨rfl, h3⟩)]
        go_enter Yba.func24, Yba.ntmps24
        go_wp2
        go_ret
        exact ⟨rfl, rfl⟩
      · by_cases h4 : al = bl
        · subst h4
          rw [if_neg (by omega), if_pos ⟨rfl, rfl⟩]
          go_enter Yba.func24, Yba.ntmps24
          go_wp2
          go_ret
          exact ⟨rfl, rfl⟩
        · rw [if_neg (by omega), if_neg (by omega)]
          have hb : (al == bl) = false := by simpa using h4
          go_enter Yba.func24, Yba.ntmps24
          go_wp2
          go_ret
          exact ⟨rfl, rfl⟩
    · rw [if_neg (by omega), if_neg (by omega)]
      have hb : (ah == bh) = false := by simpa using h2
      go_enter Yba.func24, Yba.ntmps24
      go_wp2
      go_ret
      exact ⟨rfl, rfl⟩

set_option maxRecDepth 100000 in
theorem acmp_any (ah al bh bl : Int) (w : World) :
    Calls Yba.prog 7 #[.agg #[.int .u64 ah, .int .u64 al], .agg #[.int .u64 bh, .int .u64 bl]] w fun e w' => e = .returned (.int .i64 (cmp3 ah al bh bl)) ∧
      w' = (w.alloc (.cells #[.int .u64 ah, .int .u64 al] 29)).alloc (.cells #[.int .u64 bh, .int .u64 bl] 29) := by
  unfold cmp3
  by_cases h1 : ah = bh
  · subst h1
    rcases Int.lt_trichotomy al bl with h | h | h
    · rw [if_pos (Or.inr ⟨rfl, h⟩)]
      go_enter Yba.func7, Yba.ntmps7
      go_wp2
      go_ret
      exact ⟨rfl, rfl⟩
    · subst h
      rw [if_neg (by omega), if_pos ⟨rfl, rfl⟩]
      go_enter Yba.func7, Yba.ntmps7
      go_wp2
      go_ret
      exact ⟨rfl, rfl⟩
    · rw [if_neg (by omega), if_neg (by omega)]
      have h' : ¬ al < bl := by omega
      go_enter Yba.func7, Yba.ntmps7
      go_wp2
      go_ret
      exact ⟨rfl, rfl⟩
  · have hb : (ah == bh) = false := by simpa using h1
    have hb' : (ah != bh) = true := by simpa using h1
    by_cases h2 : ah < bh
    · rw [if_pos (Or.inl h2)]
      go_enter Yba.func7, Yba.ntmps7
      go_wp2
      go_ret
      exact ⟨rfl, rfl⟩
    · rw [if_neg (by omega), if_neg (by omega)]
      go_enter Yba.func7, Yba.ntmps7
      go_wp2
      go_ret
      exact ⟨rfl, rfl⟩


set_option maxRecDepth 100000 in
theorem apref_any (rev : Bool) (n i : Int) (hn : 0 ≤ n) (hn' : n ≤ 65536) (hi : 0 ≤ i) (hi' : i < n) (w : World) :
    Calls Yba.prog 5 #[.bool rev, .int .i64 n, .int .i64 i] w fun e w' => e = .returned (.int .i64 (if rev then n - 1 - i else i)) ∧ w' = w := by
  cases rev
  · go_enter Yba.func5, Yba.ntmps5
    go_wp2
    go_ret
    exact ⟨rfl, rfl⟩
  · have e1 : wrap64 (n - 1) = n - 1 := by unfold wrap64; omega
    have e2 : wrap64 (n - 1 - i) = n - 1 - i := by unfold wrap64; omega
    go_enter Yba.func5, Yba.ntmps5
    go_wp2
    go_ret
    exact ⟨by simp, rfl⟩

end Go.Proofs.Ybulkdlic
