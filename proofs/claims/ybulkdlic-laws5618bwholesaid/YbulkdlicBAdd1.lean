/-
  DERIVED. alloc.LawS5618BWhole: (*freeSet).add, (*freeSet).lowest.
-/
import Derived.Test.YbulkdlicBAdd
namespace Go.Proofs.Ybulkdlic
open Go.RowKit

attribute [local go_sem ↓] Go.wp_at_zero Go.wp_at_succ

set_option maxRecDepth 100000 in
set_option maxHeartbeats 2000000 in
theorem lowest_any (base FB fo : Nat) (L : List (Nat × Nat)) (c : Nat) (v : Value) (w : World) (h : FS base FB fo L c v w) :
    Calls Yba.prog 32 #[.pointer (some ⟨FB, fo, none⟩)] w fun e w' => e = .returned (.tuple #[.agg #[.int .u64 0, .int .u64 (fst L 0 : Int)], .bool (decide (L ≠ []))]) ∧ Below w.heap.size w w' := by
  obtain ⟨n, hn⟩ : ∃ n, L.length = n := ⟨_, rfl⟩
  have hrun := h.run
  have lF := h.lt'
  cases L with
  | nil =>
    obtain ⟨p, cp, rfl⟩ := own_form h.own
    clear h
    simp only [List.length_nil] at hrun
    go_enter Yba.func32, Yba.ntmps32
    go_wp2
    refine bodyPost_ret (v := .tuple #[.agg #[.int .u64 0, .int .u64 0], .bool false]) ?_ rfl ⟨rfl, ?_⟩
    · simp [results, Yba.results32, go_sem]
    · repeat (first | exact Below.refl _ _ | refine Below.alloc ?_ (by (try simp only [World.size_alloc]); omega) _)
  | cons r t =>
    have hown := h.own
    rcases hown.2 with ⟨_, h0⟩ | ⟨g, cp, cur, rfl, h1, h2, _⟩
    · simp at h0
    obtain ⟨a0, a1, a2, a3⟩ := own_cells hown (i := 0) (a := r) rfl
    have lg : g < w.heap.size := World.block_lt_of_cell? _ _ a0
    simp only [Nat.zero_mul, Nat.zero_add] at a0 a1
    obtain ⟨m, hm⟩ : ∃ m, (r :: t).length = m + 1 := ⟨_, rfl⟩
    rw [hm] at hrun
    have hm1 : ¬ ((m : Int) + 1 = 0) := by omega
    have hm2 : ((m : Int) + 1 == 0) = false := by simp; omega
    have hm3 : (0 : Int) < (m : Int) + 1 := by omega
    clear h hown h2 a2 a3
    go_enter Yba.func32, Yba.ntmps32
    go_wp2
    refine bodyPost_ret (v := .tuple #[.agg #[.int .u64 0, .int .u64 (r.1 : Int)], .bool true]) ?_ rfl ⟨rfl, ?_⟩
    · simp [results, Yba.results32, go_sem]
    · repeat (first | exact Below.refl _ _ | refine Below.alloc ?_ (by (try simp only [World.size_alloc]); omega) _)

set_option maxRecDepth 100000 in
set_option maxHeartbeats 2000000 in
theorem add_any (base FB fo i x : Nat) (L : List (Nat × Nat)) (c : Nat) (v : Value) (w : World) (hL : L.length ≤ 65000) (hbd : ∀ r ∈ L, r.2 + 1 < 18446744073709551616) (h : FS base FB fo L c v w)
    (hi : i ≤ L.length) (hfl : ∀ k, k < L.length → fst L k ≤ lst L k) (hlo : ∀ k, k < i → lst L k < x) (hhi : ∀ k, i ≤ k → k < L.length → x < fst L k) (hx : x + 1 < 18446744073709551616) (hc : c + 1 < 18446744073709551616) :
    Calls Yba.prog 33 #[.pointer (some ⟨FB, fo, none⟩), .agg #[.int .u64 0, .int .u64 (x : Int)]] w fun e w' => e = .returned (.bool true) ∧ ∃ v', FS base FB fo (addL L i (x, x)) (c + 1) v' w' ∧ FU FB fo v w w' v' := by
  obtain ⟨n, hn⟩ : ∃ n, L.length = n := ⟨_, rfl⟩
  obtain ⟨g, p, cp, rfl, hix, hcs⟩ := row_view (w := w) (n := n) (by have := h.own; rwa [hn] at this) hn
  obtain ⟨W0, hW0⟩ : ∃ W0, W0 = w.alloc (.cells #[.int .u64 0, .int .u64 (x : Int)] 29) := ⟨_, rfl⟩
  have hB0 : Below w.heap.size w W0 := by rw [hW0]; exact (Below.refl _ w).alloc (Nat.le_refl _) _
  have hF0 := h.below hB0
  have hx0 : W0.cell? ⟨w.heap.size, 0, none⟩ = some (.int .u64 0) := by rw [hW0]; exact newAt rfl rfl
  have hx1 : W0.cell? ⟨w.heap.size, 1, none⟩ = some (.int .u64 (x : Int)) := by rw [hW0]; exact newAt rfl rfl
  have hcs0 : ∀ k, k < n → W0.cell? ⟨g, k * 4, none⟩ = some (.int .u64 0) ∧ W0.cell? ⟨g, k * 4 + 1, none⟩ = some (.int .u64 (fst L k : Int)) ∧ W0.cell? ⟨g, k * 4 + 2, none⟩ = some (.int .u64 0) ∧ W0.cell? ⟨g, k * 4 + 3, none⟩ = some (.int .u64 (lst L k : Int)) := fun k hk => by
    rw [hW0]; exact ⟨keepA _ (hcs k hk).1, keepA _ (hcs k hk).2.1, keepA _ (hcs k hk).2.2.1, keepA _ (hcs k hk).2.2.2⟩
  have hrun := hF0.run
  have hbs := bslast n cp g i p (fst L) (lst L) x W0.drew (by omega) hix hcs0 (by omega) hlo (fun k h1 h2 => by have := hhi k h1 (by omega); have := hfl k (by omega); omega)
  have hS : ∀ w', Below W0.heap.size W0 w' → w'.cell? ⟨FB, fo, none⟩ = some (.slice p n cp) ∧ w'.cell? ⟨w.heap.size, 0, none⟩ = some (.int .u64 0) ∧ w'.cell? ⟨w.heap.size, 1, none⟩ = some (.int .u64 (x : Int)) ∧ Below W0.heap.size W0 w' := fun w' hb => ⟨cell_below hrun hb, cell_below hx0 hb, cell_below hx1 hb, hb⟩
  go_enter Yba.func33, Yba.ntmps33
  go_wp2
  rw [← hW0]
  clear hW0
  go_region_held3 (fun w' => w'.cell? ⟨FB, fo, none⟩ = some (.slice p n cp) ∧ w'.cell? ⟨w.heap.size, 0, none⟩ = some (.int .u64 0) ∧ w'.cell? ⟨w.heap.size, 1, none⟩ = some (.int .u64 (x : Int)) ∧ Below W0.heap.size W0 w')
    (first | exact hS _ (Below.refl _ _).drew | exact hS _ (((Below.refl _ _).drew).trans hB'))
    (first | (go_at_call 40; refine hbs.mono ?_; rintro e w' ⟨⟨fb, rfl, hfb⟩, hB'⟩))
  rename_i hHeld
  obtain ⟨-, -, -, e2⟩ := id hHeld
  obtain rfl : fb = false := by
    cases fb with
    | false => rfl
    | true =>
      obtain ⟨h1, h2⟩ := hfb rfl
      have := hhi i (Nat.le_refl _) (by omega)
      have := hfl i (by omega)
      omega
  clear hHeld hB' hbs hS hfb hrun
  have hF1 := hF0.below e2
  have hrun := hF1.run
  have y0 := cell_below hx0 e2
  have y1 := cell_below hx1 e2
  have hU1 := FU.of_below (FB := FB) (fo := fo) (v := .slice p n cp) (hB0.trans (e2.mono hB0.size)) h.lt'
  have HF1 : Hid (FS base FB fo L c (.slice p n cp) w' ∧ FU FB fo (.slice p n cp) w w' (.slice p n cp)) := ⟨hF1, hU1⟩
  have HA : Hid (∀ W, Below w'.heap.size w' W → Calls Yba.prog 37 #[.pointer (some ⟨FB, fo, none⟩), .agg #[.int .u64 0, .int .u64 (x : Int), .int .u64 0, .int .u64 (x : Int)]] W fun e w'' => e = .returned (.tuple #[]) ∧ ∃ v', FS base FB fo (addL L i (x, x)) (c + 1) v' w'' ∧ FU FB fo (.slice p n cp) W w'' v') := fun W hW => by
    have := addRange_any base FB fo i x x L c (.slice p n cp) W hL hbd (hF1.below hW) hi (fun k hk => by have := hfl k (by omega); have := hlo k hk; omega) (fun k h1 h2 => by have := hhi k h1 h2; omega) (Nat.le_refl _) hx (by omega)
    rwa [show c + (x - x + 1) = c + 1 by omega] at this
  by_cases hin : i < n
  · have hx' := hix i hin
    obtain ⟨z0, z1, z2, z3⟩ := hcs0 i hin
    have z0' := cell_below z0 e2
    have z1' := cell_below z1 e2
    have hC := cmp_any 0 (fst L i : Int) 0 (x : Int)
    have hcm : ¬ cmp3 0 (fst L i : Int) 0 (x : Int) ≤ 0 := fun hh => by have := cmp3_le.1 hh; have := hhi i (Nat.le_refl _) (by omega); omega
    have hcmd : decide (cmp3 0 (fst L i : Int) 0 (x : Int) ≤ 0) = false := by simpa using hcm
    have hinI : (i : Int) < (n : Int) := by omega
    have hind : decide ((i : Int) < (n : Int)) = true := by simpa using hinI
    have hS : ∀ W, Below w'.heap.size w' W → W.cell? ⟨FB, fo, none⟩ = some (.slice p n cp) ∧ W.cell? ⟨w.heap.size, 0, none⟩ = some (.int .u64 0) ∧ W.cell? ⟨w.heap.size, 1, none⟩ = some (.int .u64 (x : Int)) ∧ W.cell? ⟨g, i * 4, none⟩ = some (.int .u64 0) ∧ W.cell? ⟨g, i * 4 + 1, none⟩ = some (.int .u64 (fst L i : Int)) ∧ Below w'.heap.size w' W := fun W hb => ⟨cell_below hrun hb, cell_below y0 hb, cell_below y1 hb, cell_below z0' hb, cell_below z1' hb, hb⟩
    clear hF1 hU1 e2 hF0 hcs0 hcs hB0 h hx0 hx1 z0 z1 z2 z3 hix hlo hhi hfl
    go_wp2
    go_region_held3 (fun W => W.cell? ⟨FB, fo, none⟩ = some (.slice p n cp) ∧ W.cell? ⟨w.heap.size, 0, none⟩ = some (.int .u64 0) ∧ W.cell? ⟨w.heap.size, 1, none⟩ = some (.int .u64 (x : Int)) ∧ W.cell? ⟨g, i * 4, none⟩ = some (.int .u64 0) ∧ W.cell? ⟨g, i * 4 + 1, none⟩ = some (.int .u64 (fst L i : Int)) ∧ Below w'.heap.size w' W)
      (first | exact hS _ (Below.refl _ _).drew | exact hS _ (((((Below.refl _ _).drew).alloc (Nat.le_refl _) _).alloc (by simp) _)))
      (first | (go_at_call 24; refine (hC _).mono ?_; rintro e w2 ⟨rfl, rfl⟩))
    rename_i hHeld
    obtain ⟨-, q0, q1, -, -, e3⟩ := id hHeld
    clear hHeld hS hrun y0 y1 z0' z1' hC
    have hA := HA.out _ e3
    have hU3 := FU.of_below (FB := FB) (fo := fo) (v := .slice p n cp) e3 HF1.out.1.lt'
    have HU3 : Hid (FU FB fo (.slice p n cp) w' _ (.slice p n cp)) := hU3
    clear hU3 e3
    go_wp2_with (go_at_call 37; refine hA.mono ?_; rintro e w5 ⟨rfl, v5, hF5, hU5⟩)
    go_ret
    exact ⟨rfl, v5, hF5, HF1.out.2.trans (HU3.out.trans hU5)⟩
  · have hind : decide ((i : Int) < (n : Int)) = false := by simp; omega
    have hinI : ¬ (i : Int) < (n : Int) := by omega
    clear hF1 hU1 e2 hF0 hcs0 hcs hB0 h hx0 hx1 hix hlo hhi hfl
    go_wp2
    go_quiet (fail)
    have hb3 : Below w'.heap.size w' (w'.drewN nq) := below_drewN (Below.refl _ w') nq
    have hA := HA.out _ hb3
    have HU3 : Hid (FU FB fo (.slice p n cp) w' (w'.drewN nq) (.slice p n cp)) := FU.of_below hb3 HF1.out.1.lt'
    clear hb3
    go_wp2_with (go_at_call 37; refine hA.mono ?_; rintro e w5 ⟨rfl, v5, hF5, hU5⟩)
    go_ret
    exact ⟨rfl, v5, hF5, HF1.out.2.trans (HU3.out.trans hU5)⟩

end Go.Proofs.Ybulkdlic
