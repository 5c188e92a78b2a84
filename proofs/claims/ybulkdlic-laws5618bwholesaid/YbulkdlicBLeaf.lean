/-
  DERIVED. alloc.LawS5618BWhole: THE LEAVES: numbers of 128 bits whose high half is 0; their ranges; the law's own small functions.
-/
import Derived.Test.YbulkdlicLeaf
import Derived.Laws.Externs
import Derived.Shelf.Spec.BitsCarry
namespace Go.Proofs.Ybulkdlic
open Go.RowKit

theorem add64 (x y : Nat) (h : x + y < 18446744073709551616) (w : World) :
    (callFunc 58 #[.int .u64 (x : Int), .int .u64 (y : Int), .int .u64 0]).run Yba.prog w = .ok (.value (.tuple #[.int .u64 ((x : Int) + (y : Int)), .int .u64 0])) w := by
  rw [run_callFunc_extern Yba.func58 (by kernel_rfl) (by kernel_rfl) (by kernel_rfl) (e := add64Entry) (by kernel_rfl), run_add64 x y 0 (by omega) (by omega) (by omega) (by omega)]
  simp only [Result.andThen]
  rw [show ((x : Int) + y + 0) % 18446744073709551616 = x + y by omega, show ((x : Int) + y + 0) / 18446744073709551616 = 0 by omega]
theorem sub64 (x y : Nat) (h : y ≤ x) (hx : x < 18446744073709551616) (w : World) :
    (callFunc 67 #[.int .u64 (x : Int), .int .u64 (y : Int), .int .u64 0]).run Yba.prog w = .ok (.value (.tuple #[.int .u64 ((x : Int) - (y : Int)), .int .u64 0])) w := by
  rw [run_callFunc_extern Yba.func67 (by kernel_rfl) (by kernel_rfl) (by kernel_rfl) (e := sub64Entry) (by kernel_rfl)]
  have e := run_sub64 (P := Yba.prog) x y 0 (by omega) w
  rw [show (((0 : Nat) : Int)) = 0 from rfl] at e
  rw [e]
  simp only [Result.andThen]
  rw [if_neg (by omega), show (((x + 18446744073709551616 - y - 0) % 18446744073709551616 : Nat) : Int) = (x : Int) - y by omega]
  rfl

set_option maxRecDepth 100000 in
theorem add_nat (a b : Nat) (h : a + b < 18446744073709551616) (w : World) :
    Calls Yba.prog 38 #[.agg #[.int .u64 0, .int .u64 (a : Int)], .agg #[.int .u64 0, .int .u64 (b : Int)]] w fun e w' =>
      e = .returned (.agg #[.int .u64 0, .int .u64 ((a : Int) + (b : Int))]) ∧ Below w.heap.size w w' := by
  have h1 := add64 a b h
  have h2 := add64 0 0 (by omega)
  simp only [Int.natCast_zero, Int.add_zero] at h2
  go_enter Yba.func38, Yba.ntmps38
  go_wp2_with (first | simp only [h1] | simp only [h2])
  refine bodyPost_ret (v := .agg #[.int .u64 0, .int .u64 ((a : Int) + (b : Int))]) ?_ rfl ⟨rfl, ?_⟩
  · simp [results, Yba.results38, go_sem]
  · repeat (first | exact Below.refl _ _ | refine Below.alloc ?_ (by (try simp only [World.size_alloc]); omega) _)

set_option maxRecDepth 100000 in
theorem sub_nat (a b : Nat) (h : b ≤ a) (ha : a < 18446744073709551616) (w : World) :
    Calls Yba.prog 59 #[.agg #[.int .u64 0, .int .u64 (a : Int)], .agg #[.int .u64 0, .int .u64 (b : Int)]] w fun e w' =>
      e = .returned (.agg #[.int .u64 0, .int .u64 ((a : Int) - (b : Int))]) ∧ Below w.heap.size w w' := by
  have h1 := sub64 a b h ha
  have h2 := sub64 0 0 (by omega) (by omega)
  simp only [Int.natCast_zero, Int.sub_zero] at h2
  go_enter Yba.func59, Yba.ntmps59
  go_wp2_with (first | simp only [h1] | simp only [h2])
  refine bodyPost_ret (v := .agg #[.int .u64 0, .int .u64 ((a : Int) - (b : Int))]) ?_ rfl ⟨rfl, ?_⟩
  · simp [results, Yba.results59, go_sem]
  · repeat (first | exact Below.refl _ _ | refine Below.alloc ?_ (by (try simp only [World.size_alloc]); omega) _)

theorem cell_later {W w' : World} {a : Addr} {v : Value} (h : W.cell? a = some v) (hb : Below W.heap.size W w') : w'.cell? a = some v := (hb.cell (World.block_lt_of_cell? _ _ h)).trans h
theorem frozen_later {W w' : World} {b o : Nat} {v : Value} (h : W.cell? ⟨b, o, none⟩ = some v) (hf : ∀ i, W.frozen? ⟨b, i, none⟩ = false) (hb : Below W.heap.size W w') : ∀ i, w'.frozen? ⟨b, i, none⟩ = false := fun i =>
  (hb.frozen (p := ⟨b, i, none⟩) (World.block_lt_of_cell? W ⟨b, o, none⟩ h)).trans (hf i)

/-- Behind a call: the result's two cells lie as they lay. -/
theorem res_after {w w' : World} {o : Obj} {t : TypeId} {v0 v1 : Value} (hB' : Below ((w.alloc o).alloc (.cells #[v0, v1] t)).heap.size ((w.alloc o).alloc (.cells #[v0, v1] t)) w') :
    Below w.heap.size w w' ∧ w'.cell? ⟨w.heap.size + 1, 0, none⟩ = some v0 ∧ w'.cell? ⟨w.heap.size + 1, 1, none⟩ = some v1 ∧ ∀ i, w'.frozen? ⟨w.heap.size + 1, i, none⟩ = false :=
  ⟨(((Below.refl _ w).alloc (Nat.le_refl _) _).alloc (by simp) _).trans (hB'.mono (by simp; omega)), (hB'.cell (p := ⟨w.heap.size + 1, 0, none⟩) (by simp)).trans (newAt (by simp) rfl), (hB'.cell (p := ⟨w.heap.size + 1, 1, none⟩) (by simp)).trans (newAt (by simp) rfl),
    fun i => (hB'.frozen (p := ⟨w.heap.size + 1, i, none⟩) (by simp)).trans (newFr (by simp))⟩

set_option maxRecDepth 100000 in
theorem next_nat (a : Nat) (h : a + 1 < 18446744073709551616) (w : World) :
    Calls Yba.prog 43 #[.agg #[.int .u64 0, .int .u64 (a : Int)]] w fun e w' =>
      e = .returned (.agg #[.int .u64 0, .int .u64 ((a : Int) + 1)]) ∧ Below w.heap.size w w' := by
  have H := add_nat a 1 h
  go_enter Yba.func43, Yba.ntmps43
  go_wp2_with (go_at_call 38; refine (H _).mono ?_; rintro e w' ⟨rfl, hB'⟩; obtain ⟨hB2, z0, z1, zf⟩ := res_after hB'; clear hB')
  refine bodyPost_ret (v := .agg #[.int .u64 0, .int .u64 ((a : Int) + 1)]) ?_ rfl ⟨rfl, ?_⟩
  · simp [results, Yba.results43, go_sem, *]
  · exact (hB2.setCell (p := ⟨w.heap.size + 1, 0, none⟩) (by simp) _).setCell (p := ⟨w.heap.size + 1, 1, none⟩) (by simp) _

set_option maxRecDepth 100000 in
theorem prev_nat (a : Nat) (h : 1 ≤ a) (ha : a < 18446744073709551616) (w : World) :
    Calls Yba.prog 44 #[.agg #[.int .u64 0, .int .u64 (a : Int)]] w fun e w' =>
      e = .returned (.agg #[.int .u64 0, .int .u64 ((a : Int) - 1)]) ∧ Below w.heap.size w w' := by
  have H := sub_nat a 1 h ha
  go_enter Yba.func44, Yba.ntmps44
  go_wp2_with (go_at_call 59; refine (H _).mono ?_; rintro e w' ⟨rfl, hB'⟩; obtain ⟨hB2, z0, z1, zf⟩ := res_after hB'; clear hB')
  refine bodyPost_ret (v := .agg #[.int .u64 0, .int .u64 ((a : Int) - 1)]) ?_ rfl ⟨rfl, ?_⟩
  · simp [results, Yba.results44, go_sem, *]
  · exact (hB2.setCell (p := ⟨w.heap.size + 1, 0, none⟩) (by simp) _).setCell (p := ⟨w.heap.size + 1, 1, none⟩) (by simp) _

set_option maxRecDepth 100000 in
theorem size_nat (f l : Nat) (h : f ≤ l) (hl : l + 1 < 18446744073709551616) (w : World) :
    Calls Yba.prog 39 #[.agg #[.int .u64 0, .int .u64 (f : Int), .int .u64 0, .int .u64 (l : Int)]] w fun e w' =>
      e = .returned (.agg #[.int .u64 0, .int .u64 ((l : Int) - (f : Int) + 1)]) ∧ Below w.heap.size w w' := by
  have H := sub_nat l f h (by omega)
  have H2 : ∀ w, Calls Yba.prog 43 #[.agg #[.int .u64 0, .int .u64 ((l : Int) - (f : Int))]] w fun e w' => e = .returned (.agg #[.int .u64 0, .int .u64 ((l : Int) - (f : Int) + 1)]) ∧ Below w.heap.size w w' := fun w => by
    have := next_nat (l - f) (by omega) w
    rwa [Int.ofNat_sub h] at this
  go_enter Yba.func39, Yba.ntmps39
  go_wp2_with (first | (go_at_call 59; refine (H _).mono ?_; rintro e w' ⟨rfl, hB'⟩; obtain ⟨hB2, z0, z1, zf⟩ := res_after hB'; clear hB') | (go_at_call 43; refine (H2 _).mono ?_; rintro e w'' ⟨rfl, hB3⟩; have y0 := cell_later z0 hB3; have y1 := cell_later z1 hB3; have yf := frozen_later z0 zf hB3))
  refine bodyPost_ret (v := .agg #[.int .u64 0, .int .u64 ((l : Int) - (f : Int) + 1)]) ?_ rfl ⟨rfl, ?_⟩
  · simp [results, Yba.results39, go_sem, *]
  · exact ((hB2.trans (hB3.mono hB2.size)).setCell (p := ⟨w.heap.size + 1, 0, none⟩) (by simp) _).setCell (p := ⟨w.heap.size + 1, 1, none⟩) (by simp) _

set_option maxRecDepth 100000 in
theorem lastcmp_any (fh fl lh ll vh vl : Int) (w : World) :
    Calls Yba.prog 41 #[.agg #[.int .u64 fh, .int .u64 fl, .int .u64 lh, .int .u64 ll], .agg #[.int .u64 vh, .int .u64 vl]] w fun e w' => e = .returned (.int .i64 (cmp3 lh ll vh vl)) ∧ Below w.heap.size w w' := by
  have H := cmp_any lh ll vh vl
  go_enter Yba.func41, Yba.ntmps41
  go_wp2_with (go_at_call 24; refine (H _).mono ?_; rintro e w' ⟨rfl, rfl⟩)
  go_ret
  exact ⟨rfl, by repeat (first | exact Below.refl _ _ | refine Below.alloc ?_ (by (try simp only [World.size_alloc]); omega) _)⟩

set_option maxRecDepth 100000 in
theorem firstcmp_any (fh fl lh ll vh vl : Int) (w : World) :
    Calls Yba.prog 56 #[.agg #[.int .u64 fh, .int .u64 fl, .int .u64 lh, .int .u64 ll], .agg #[.int .u64 vh, .int .u64 vl]] w fun e w' => e = .returned (.int .i64 (cmp3 fh fl vh vl)) ∧ Below w.heap.size w w' := by
  have H := cmp_any fh fl vh vl
  go_enter Yba.func56, Yba.ntmps56
  go_wp2_with (go_at_call 24; refine (H _).mono ?_; rintro e w' ⟨rfl, rfl⟩)
  go_ret
  exact ⟨rfl, by repeat (first | exact Below.refl _ _ | refine Below.alloc ?_ (by (try simp only [World.size_alloc]); omega) _)⟩

set_option maxRecDepth 100000 in
theorem blt_nat (a b : Nat) (w : World) :
    Calls Yba.prog 34 #[.agg #[.int .u64 0, .int .u64 (a : Int)], .agg #[.int .u64 0, .int .u64 (b : Int)]] w fun e w' => e = .returned (.bool (decide (a < b))) ∧ Below w.heap.size w w' := by
  by_cases h : a < b
  · have h1 : (a : Int) < (b : Int) := by omega
    go_enter Yba.func34, Yba.ntmps34
    go_wp2
    go_ret
    exact ⟨by simp [h], by repeat (first | exact Below.refl _ _ | refine Below.alloc ?_ (by (try simp only [World.size_alloc]); omega) _)⟩
  · have h1 : ¬ (a : Int) < (b : Int) := by omega
    go_enter Yba.func34, Yba.ntmps34
    go_wp2
    go_ret
    exact ⟨by simp, by repeat (first | exact Below.refl _ _ | refine Below.alloc ?_ (by (try simp only [World.size_alloc]); omega) _)⟩

theorem box_after {w w' : World} {t t' : TypeId} {v0 v1 v2 v3 u0 u1 : Value} (hB' : Below ((w.alloc (.cells #[v0, v1, v2, v3] t)).alloc (.cells #[u0, u1] t')).heap.size ((w.alloc (.cells #[v0, v1, v2, v3] t)).alloc (.cells #[u0, u1] t')) w') :
    Below w.heap.size w w' ∧ w'.cell? ⟨w.heap.size, 2, none⟩ = some v2 ∧ w'.cell? ⟨w.heap.size, 3, none⟩ = some v3 ∧ w'.cell? ⟨w.heap.size + 1, 0, none⟩ = some u0 ∧ w'.cell? ⟨w.heap.size + 1, 1, none⟩ = some u1 :=
  ⟨(((Below.refl _ w).alloc (Nat.le_refl _) _).alloc (by simp) _).trans (hB'.mono (by simp; omega)), (hB'.cell (p := ⟨w.heap.size, 2, none⟩) (by simp; omega)).trans (keepA _ (newAt rfl rfl)), (hB'.cell (p := ⟨w.heap.size, 3, none⟩) (by simp; omega)).trans (keepA _ (newAt rfl rfl)),
    (hB'.cell (p := ⟨w.heap.size + 1, 0, none⟩) (by simp)).trans (newAt (by simp) rfl), (hB'.cell (p := ⟨w.heap.size + 1, 1, none⟩) (by simp)).trans (newAt (by simp) rfl)⟩

set_option maxRecDepth 100000 in
theorem bin_nat (f l v : Nat) (w : World) :
    Calls Yba.prog 17 #[.agg #[.int .u64 0, .int .u64 (f : Int), .int .u64 0, .int .u64 (l : Int)], .agg #[.int .u64 0, .int .u64 (v : Int)]] w fun e w' => e = .returned (.bool (decide (f ≤ v ∧ v ≤ l))) ∧ Below w.heap.size w w' := by
  have H1 := blt_nat v f
  have H2 := blt_nat l v
  by_cases h : v < f
  · rw [show decide (v < f) = true by simpa using h] at H1
    go_enter Yba.func17, Yba.ntmps17
    go_wp2_with (go_at_call_of 34 (Value.agg #[.int .u64 0, .int .u64 (v : Int)]); refine (H1 _).mono ?_; rintro e w' ⟨rfl, hB'⟩; obtain ⟨hB2, z2, z3, y0, y1⟩ := box_after hB'; clear hB')
    go_ret
    exact ⟨by simp; omega, hB2⟩
  · rw [show decide (v < f) = false by simpa using h] at H1
    go_enter Yba.func17, Yba.ntmps17
    go_wp2_with (first | (go_at_call_of 34 (Value.agg #[.int .u64 0, .int .u64 (v : Int)]); refine (H1 _).mono ?_; clear H1; rintro e w' ⟨rfl, hB'⟩; obtain ⟨hB2, z2, z3, y0, y1⟩ := box_after hB'; clear hB') | (go_at_call_of 34 (Value.agg #[.int .u64 0, .int .u64 (l : Int)]); refine (H2 _).mono ?_; clear H2; rintro e w'' ⟨rfl, hB3⟩))
    go_ret
    exact ⟨by have hf : f ≤ v := by omega
              by_cases hl : v ≤ l
              · simp [hf, hl, show ¬ l < v by omega]
              · simp [hf, hl, show l < v by omega], hB2.trans (hB3.mono hB2.size)⟩

set_option maxRecDepth 100000 in
theorem binc_nat (a : Nat) (h : a + 1 < 18446744073709551616) (w : World) :
    Calls Yba.prog 19 #[.agg #[.int .u64 0, .int .u64 (a : Int)]] w fun e w' => e = .returned (.agg #[.int .u64 0, .int .u64 ((a : Int) + 1)]) ∧ Below w.heap.size w w' := by
  have h1 : ((a : Int) == 18446744073709551615) = false := by simp; omega
  have h2 : ¬ (a : Int) = 18446744073709551615 := by omega
  go_enter Yba.func19, Yba.ntmps19
  go_wp2
  refine bodyPost_ret (v := .agg #[.int .u64 0, .int .u64 ((a : Int) + 1)]) ?_ rfl ⟨rfl, ?_⟩
  · simp [results, Yba.results19, go_sem]
  · repeat (first | exact Below.refl _ _ | refine Below.alloc ?_ (by (try simp only [World.size_alloc]); omega) _)

/-- The four names. -/
def bname (i : Nat) : ByteArray := if i % 4 = 0 then ⟨#[97]⟩ else if i % 4 = 1 then ⟨#[98]⟩ else if i % 4 = 2 then ⟨#[]⟩ else ⟨#[97, 98]⟩

set_option maxRecDepth 100000 in
theorem bname_nat (i : Nat) (w : World) : Calls Yba.prog 10 #[.int .u8 (i : Int)] w fun e w' => e = .returned (.string (bname i)) ∧ w' = w := by
  unfold bname
  by_cases h0 : i % 4 = 0
  · have e0 : (i : Int).tmod 4 = 0 := by rw [Int.tmod_eq_emod_of_nonneg (by omega)]; omega
    rw [if_pos h0]
    go_enter Yba.func10, Yba.ntmps10
    go_wp2
    go_ret
    exact ⟨rfl, rfl⟩
  · rw [if_neg h0]
    by_cases h1 : i % 4 = 1
    · have e0 : (i : Int).tmod 4 = 1 := by rw [Int.tmod_eq_emod_of_nonneg (by omega)]; omega
      rw [if_pos h1]
      go_enter Yba.func10, Yba.ntmps10
      go_wp2
      go_ret
      exact ⟨rfl, rfl⟩
    · rw [if_neg h1]
      by_cases h2 : i % 4 = 2
      · have e0 : (i : Int).tmod 4 = 2 := by rw [Int.tmod_eq_emod_of_nonneg (by omega)]; omega
        rw [if_pos h2]
        go_enter Yba.func10, Yba.ntmps10
        go_wp2
        go_ret
        exact ⟨rfl, rfl⟩
      · have e0 : (i : Int).tmod 4 = 3 := by rw [Int.tmod_eq_emod_of_nonneg (by omega)]; omega
        rw [if_neg h2]
        go_enter Yba.func10, Yba.ntmps10
        go_wp2
        go_ret
        exact ⟨rfl, rfl⟩

end Go.Proofs.Ybulkdlic
