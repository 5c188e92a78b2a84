/-
  DERIVED. octocell.LawS5616CWhole: the numbers that the law makes of its four arguments.
-/
import Derived.Test.YbulkdlhaTable
namespace Go.Proofs.Ybulkdlha
open Go.RowKit

/-- The two small powers. -/
theorem pow4 (a : Int) : ∃ n : Nat, n ≤ 3 ∧ (a % 4).toNat = n ∧ wrap64 (2 ^ (a % 4).toNat) = ((2 ^ n : Nat) : Int) ∧ (2 : Int) ^ (a % 4).toNat = ((2 ^ n : Nat) : Int) := by
  have h : a % 4 = 0 ∨ a % 4 = 1 ∨ a % 4 = 2 ∨ a % 4 = 3 := by omega
  rcases h with h | h | h | h <;> rw [h]
  · exact ⟨0, by omega, rfl, by decide +kernel, by decide +kernel⟩
  · exact ⟨1, by omega, rfl, by decide +kernel, by decide +kernel⟩
  · exact ⟨2, by omega, rfl, by decide +kernel, by decide +kernel⟩
  · exact ⟨3, by omega, rfl, by decide +kernel, by decide +kernel⟩
theorem pow5 (a : Int) : ∃ cnt half : Nat, wrap64 (2 ^ (a % 5).toNat) = (cnt : Int) ∧ cnt ≤ 16 ∧ 1 ≤ cnt ∧ half = cnt / 2 ∧ (cnt = 1 ∨ cnt = half + half) := by
  have h : a % 5 = 0 ∨ a % 5 = 1 ∨ a % 5 = 2 ∨ a % 5 = 3 ∨ a % 5 = 4 := by omega
  rcases h with h | h | h | h | h <;> rw [h]
  · exact ⟨1, 0, by decide +kernel, by omega, by omega, by omega, by omega⟩
  · exact ⟨2, 1, by decide +kernel, by omega, by omega, by omega, by omega⟩
  · exact ⟨4, 2, by decide +kernel, by omega, by omega, by omega, by omega⟩
  · exact ⟨8, 4, by decide +kernel, by omega, by omega, by omega, by omega⟩
  · exact ⟨16, 8, by decide +kernel, by omega, by omega, by omega, by omega⟩

theorem and1 : ∀ J : Fin 128, bits .and .i64 (J.val : Int) ((1 : Int) - 1) = ((J.val % 1 : Nat) : Int) := by decide +kernel
theorem and2 : ∀ J : Fin 128, bits .and .i64 (J.val : Int) ((2 : Int) - 1) = ((J.val % 2 : Nat) : Int) := by decide +kernel
theorem and4 : ∀ J : Fin 128, bits .and .i64 (J.val : Int) ((4 : Int) - 1) = ((J.val % 4 : Nat) : Int) := by decide +kernel
theorem and8 : ∀ J : Fin 128, bits .and .i64 (J.val : Int) ((8 : Int) - 1) = ((J.val % 8 : Nat) : Int) := by decide +kernel

theorem andSl (n J : Nat) (hn : n ≤ 3) (hJ : J < 128) : bits .and .i64 (J : Int) (((2 ^ n : Nat) : Int) - 1) = ((J % 2 ^ n : Nat) : Int) := by
  match n, hn with
  | 0, _ => exact and1 ⟨J, hJ⟩
  | 1, _ => exact and2 ⟨J, hJ⟩
  | 2, _ => exact and4 ⟨J, hJ⟩
  | 3, _ => exact and8 ⟨J, hJ⟩

theorem wrapJ (a t : Int) (h0 : 0 ≤ a) (ht : 0 < t) (h1 : t ≤ 128) : wrap64 (a.tmod t) = a % t ∧ 0 ≤ a % t ∧ a % t < t := by
  have e : a.tmod t = a % t := Int.tmod_eq_emod_of_nonneg h0
  have h2 := Int.emod_nonneg a (show t ≠ 0 by omega)
  have h3 := Int.emod_lt_of_pos a ht
  refine ⟨?_, h2, h3⟩
  rw [e]
  unfold wrap64
  omega

/-- ALL THAT THE WALK ASKS OF THE FOUR ARGUMENTS, in one. -/
theorem numbers (a0 a1 a3 : Int) (h3 : 0 ≤ a3) : ∃ cnt sl half J I O : Nat,
    wrap64 (2 ^ (a1 % 5).toNat) = (cnt : Int) ∧ wrap64 (2 ^ (a0 % 4).toNat) = (sl : Int) ∧ cnt ≤ 16 ∧ 1 ≤ cnt ∧ sl ≤ 8 ∧ 1 ≤ sl ∧ half = cnt / 2 ∧ (cnt = 1 ∨ cnt = half + half) ∧
    wrap64 (a3.tmod ((cnt : Int) * (sl : Int))) = (J : Int) ∧ J < 128 ∧ (J : Int) / (sl : Int) = (I : Int) ∧ (J : Int) % (sl : Int) = (O : Int) ∧ I < cnt ∧ O < sl ∧
    (J : Int) / 2 ^ (a0 % 4).toNat = (I : Int) ∧ bits .and .i64 (J : Int) ((sl : Int) - 1) = (O : Int) := by
  obtain ⟨n, hn, _, e2, e3⟩ := pow4 a0
  obtain ⟨cnt, half, e1, c16, c1, hh, hp⟩ := pow5 a1
  have hs : 2 ^ n ≤ 8 ∧ 1 ≤ 2 ^ n := by
    match n, hn with
    | 0, _ => decide
    | 1, _ => decide
    | 2, _ => decide
    | 3, _ => decide
  have m1 : cnt * 2 ^ n ≤ 16 * 8 := Nat.mul_le_mul c16 hs.1
  have m2 : 1 * 1 ≤ cnt * 2 ^ n := Nat.mul_le_mul c1 hs.2
  have m3 : ((cnt * 2 ^ n : Nat) : Int) = (cnt : Int) * ((2 ^ n : Nat) : Int) := Int.natCast_mul _ _
  obtain ⟨w1, w2, w3⟩ := wrapJ a3 ((cnt : Int) * ((2 ^ n : Nat) : Int)) h3 (by omega) (by omega)
  obtain ⟨J, hJ⟩ : ∃ J : Nat, a3 % ((cnt : Int) * ((2 ^ n : Nat) : Int)) = (J : Int) := ⟨_, (Int.toNat_of_nonneg w2).symm⟩
  rw [hJ] at w1 w2 w3
  have hJl : J < cnt * 2 ^ n := by omega
  refine ⟨cnt, 2 ^ n, half, J, J / 2 ^ n, J % 2 ^ n, e1, e2, c16, c1, hs.1, hs.2, hh, hp, w1, by omega, by rw [Int.natCast_ediv], by rw [Int.natCast_emod], Nat.div_lt_of_lt_mul (by rw [Nat.mul_comm]; exact hJl), Nat.mod_lt _ hs.2, by rw [e3, Int.natCast_ediv], andSl n J hn (by omega)⟩

end Go.Proofs.Ybulkdlha
