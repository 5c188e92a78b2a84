/-
  DERIVED. alloc.LawS5618AWhole: THE PLAIN LAW, no Go in sight: which tiers meet r.
-/
import Derived.Test.YbulkdlicCmp
namespace Go.Proofs.Ybulkdlic

theorem cmp3_lt {a b c d : Int} : cmp3 a b c d < 0 ↔ (a < c ∨ (a = c ∧ b < d)) := by
  unfold cmp3
  by_cases h : a < c ∨ (a = c ∧ b < d)
  · rw [if_pos h]; exact ⟨fun _ => h, fun _ => by decide⟩
  · rw [if_neg h]
    by_cases e : a = c ∧ b = d
    · rw [if_pos e]; exact ⟨fun h' => by omega, fun h' => absurd h' h⟩
    · rw [if_neg e]; exact ⟨fun h' => by omega, fun h' => absurd h' h⟩
theorem cmp3_gt {a b c d : Int} : cmp3 a b c d > 0 ↔ (c < a ∨ (a = c ∧ d < b)) := by
  unfold cmp3
  by_cases h : a < c ∨ (a = c ∧ b < d)
  · rw [if_pos h]; exact ⟨fun h' => by omega, fun h' => by omega⟩
  · rw [if_neg h]
    by_cases e : a = c ∧ b = d
    · rw [if_pos e]; exact ⟨fun h' => by omega, fun h' => by omega⟩
    · rw [if_neg e]; exact ⟨fun h' => by omega, fun h' => by omega⟩
theorem cmp3_le {a b c d : Int} : cmp3 a b c d ≤ 0 ↔ (a < c ∨ (a = c ∧ b ≤ d)) := by
  have := @cmp3_gt a b c d
  constructor
  · intro h
    have : ¬ (c < a ∨ (a = c ∧ d < b)) := fun e => by have := this.2 e; omega
    omega
  · intro h
    have : ¬ cmp3 a b c d > 0 := fun e => by have := this.1 e; omega
    omega
theorem cmp3_swap (a b c d : Int) : cmp3 a b c d > 0 ↔ cmp3 c d a b < 0 := by
  rw [cmp3_gt, cmp3_lt]
  constructor <;> intro h <;> omega

/-- The law's own condition. -/
def Cond (h : Int) (F L : Nat → Nat) (th tl uh ul : Int) (i : Nat) : Prop := cmp3 th tl uh ul ≤ 0 ∧ cmp3 h (F i) uh ul ≤ 0 ∧ cmp3 th tl h (L i) ≤ 0

/-- A border in a row that falls from true to false. -/
theorem border (p : Nat → Prop) [DecidablePred p] : ∀ n, (∀ i j, i ≤ j → p j → p i) → ∃ k, k ≤ n ∧ (∀ i, i < k → p i) ∧ ∀ i, k ≤ i → i < n → ¬ p i
  | 0, _ => ⟨0, Nat.le_refl _, fun i hi => by omega, fun i _ hi => by omega⟩
  | n + 1, h => by
    obtain ⟨k, hk, h1, h2⟩ := border p n h
    by_cases e : p n
    · refine ⟨n + 1, Nat.le_refl _, fun i hi => h i n (by omega) e, fun i h1 h2 => by omega⟩
    · refine ⟨k, by omega, h1, fun i hi hin => ?_⟩
      by_cases e' : i = n
      · subst e'; exact e
      · exact h2 i hi (by omega)

/-- THE PLAIN LAW: the tiers that meet r are those from i0 on, m of them; i0 is what the binary search finds. -/
theorem plain (h : Int) (F L : Nat → Nat) (th tl uh ul : Int) (n : Nat) (hFL : ∀ i, F i ≤ L i) (hLF : ∀ i j, i < j → L i < F j) :
    ∃ i0 m, i0 + m ≤ n ∧ (∀ k, k < i0 → cmp3 h (L k) th tl < 0) ∧ (∀ k, i0 ≤ k → k < n → ¬ cmp3 h (L k) th tl < 0) ∧
      (∀ k, k < n → (Cond h F L th tl uh ul k ↔ i0 ≤ k ∧ k < i0 + m)) := by
  have mono : ∀ i j, i ≤ j → L i ≤ L j ∧ F i ≤ F j := fun i j hij => by
    by_cases e : i = j
    · subst e; exact ⟨Nat.le_refl _, Nat.le_refl _⟩
    · have h1 := hLF i j (by omega)
      have h2 := hFL i
      have h3 := hFL j
      omega
  obtain ⟨i0, hi0, a1, a2⟩ := border (fun i => cmp3 h (L i) th tl < 0) n (fun i j hij hj => by
    rw [cmp3_lt] at *
    have := (mono i j hij).1
    omega)
  obtain ⟨i1, hi1, b1, b2⟩ := border (fun i => cmp3 h (F i) uh ul ≤ 0) n (fun i j hij hj => by
    rw [cmp3_le] at *
    have := (mono i j hij).2
    omega)
  by_cases hr : cmp3 th tl uh ul ≤ 0
  · refine ⟨i0, i1 - i0, by omega, a1, a2, fun k hk => ⟨fun hc => ?_, fun hc => ⟨hr, b1 k (by omega), ?_⟩⟩⟩
    · refine ⟨?_, ?_⟩
      · apply Nat.le_of_not_lt
        intro e
        have h1 := a1 k e
        have h2 := hc.2.2
        rw [cmp3_lt] at h1
        rw [cmp3_le] at h2
        omega
      · have e : k < i1 := by
          apply Nat.lt_of_not_le
          intro e
          exact b2 k e hk hc.2.1
        omega
    · have h1 := a2 k hc.1 hk
      rw [cmp3_lt] at h1
      rw [cmp3_le]
      omega
  · exact ⟨i0, 0, by omega, a1, a2, fun k hk => ⟨fun hc => absurd hc.1 hr, fun hc => by omega⟩⟩

/-- Intersect's answer is the law's condition. -/
theorem ok_iff (h : Int) (F L : Nat → Nat) (th tl uh ul : Int) (k : Nat) (hFL : F k ≤ L k) :
    cmp3 (if cmp3 h (F k) th tl < 0 then th else h) (if cmp3 h (F k) th tl < 0 then tl else (F k : Int)) (if cmp3 h (L k) uh ul > 0 then uh else h) (if cmp3 h (L k) uh ul > 0 then ul else (L k : Int)) ≤ 0 ↔ Cond h F L th tl uh ul k := by
  unfold Cond
  by_cases h1 : cmp3 h (F k) th tl < 0
  · by_cases h2 : cmp3 h (L k) uh ul > 0
    · simp only [if_pos h1, if_pos h2]
      rw [cmp3_lt] at h1
      rw [cmp3_gt] at h2
      rw [cmp3_le, cmp3_le, cmp3_le]
      omega
    · simp only [if_pos h1, if_neg h2]
      rw [cmp3_lt] at h1
      rw [cmp3_gt] at h2
      rw [cmp3_le, cmp3_le, cmp3_le]
      omega
  · by_cases h2 : cmp3 h (L k) uh ul > 0
    · simp only [if_neg h1, if_pos h2]
      rw [cmp3_lt] at h1
      rw [cmp3_gt] at h2
      rw [cmp3_le, cmp3_le, cmp3_le]
      omega
    · simp only [if_neg h1, if_neg h2]
      rw [cmp3_lt] at h1
      rw [cmp3_gt] at h2
      rw [cmp3_le, cmp3_le, cmp3_le, cmp3_le]
      omega

end Go.Proofs.Ybulkdlic
