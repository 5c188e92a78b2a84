/-
  DERIVED. alloc.LawS5618BWhole: (*freeSet).remove.
-/
import Derived.Test.YbulkdlicBAdd1
namespace Go.Proofs.Ybulkdlic
open Go.RowKit

attribute [local go_sem ↓] Go.wp_at_zero Go.wp_at_succ

/-- What remove makes of the runs, where x lies in run i. -/
def remL (L : List (Nat × Nat)) (i x : Nat) : List (Nat × Nat) :=
  if fst L i = x ∧ lst L i = x then L.take i ++ L.drop (i + 1)
  else if fst L i = x then L.set i (x + 1, lst L i)
  else if lst L i = x then L.set i (fst L i, x - 1)
  else (L.set i (fst L i, x - 1)).take (i + 1) ++ [(x + 1, lst L i)] ++ (L.set i (fst L i, x - 1)).drop (i + 1)

/-- As row_view, with the address. -/
theorem row_view2 {w : World} {base n : Nat} {v : Value} {L : List (Nat × Nat)} (h : w.ownsRow base 31 4 v n (flat L)) (hn : L.length = n) :
    ∃ g p cp, v = .slice p n cp ∧ (0 < n → p = some ⟨g, 0, none⟩) ∧ (∀ (k : Nat), k < n → ∀ W, (Instr.indexAt 25 (.slice p n cp) (.int .i64 k)).run Yba.prog W = .ok (.pointer (some ⟨g, k * 4, none⟩)) W) ∧
      ∀ k, k < n → w.cell? ⟨g, k * 4, none⟩ = some (.int .u64 0) ∧ w.cell? ⟨g, k * 4 + 1, none⟩ = some (.int .u64 (fst L k : Int)) ∧ w.cell? ⟨g, k * 4 + 2, none⟩ = some (.int .u64 0) ∧ w.cell? ⟨g, k * 4 + 3, none⟩ = some (.int .u64 (lst L k : Int)) := by
  rcases h.2 with ⟨rfl, rfl⟩ | ⟨g, cp, cur, rfl, _⟩
  · exact ⟨0, none, 0, rfl, fun hk => by omega, fun k hk => by omega, fun k hk => by omega⟩
  · refine ⟨g, _, cp, rfl, fun _ => rfl, fun k hk W => ?_, fun k hk => own_cells h (getD_at (by omega))⟩
    rw [run_indexAt_slice W 25 ⟨g, 0, none⟩ n cp .i64 k (by rw [elem25]; exact Yba.underlying25), if_pos (by omega), elem25, size31]
    simp [Result.andThen, Addr.add]
    intro e; omega

theorem aft_ae {G : Prop} {wr w' : World} {t : TypeId} {v0 v1 v2 v3 : Value} (hB' : Below (wr.alloc (.cells #[v0, v1, v2, v3] t)).drew.heap.size (wr.alloc (.cells #[v0, v1, v2, v3] t)).drew w')
    (h : Below wr.heap.size wr w' → w'.cell? ⟨wr.heap.size, 0, none⟩ = some v0 → w'.cell? ⟨wr.heap.size, 1, none⟩ = some v1 → w'.cell? ⟨wr.heap.size, 2, none⟩ = some v2 → w'.cell? ⟨wr.heap.size, 3, none⟩ = some v3 → (∀ i, w'.frozen? ⟨wr.heap.size, i, none⟩ = false) → G) : G :=
  h ((((Below.refl _ wr).alloc (Nat.le_refl _) _).drew).trans (hB'.mono (by simp))) (cell_below (keepD (newAt rfl rfl)) hB') (cell_below (keepD (newAt rfl rfl)) hB') (cell_below (keepD (newAt rfl rfl)) hB') (cell_below (keepD (newAt rfl rfl)) hB') (fun i => (hB'.frozen (p := ⟨wr.heap.size, i, none⟩) (by simp)).trans (newFr rfl))
theorem aft_be {G : Prop} {wr w' : World} (hB' : Below wr.drew.heap.size wr.drew w') (h : Below wr.heap.size wr w' → G) : G := h (((Below.refl _ wr).drew).trans (hB'.mono (Nat.le_refl _)))

theorem set4b {W : World} {B : Nat} {u0 u1 u2 u3 : Value} (a b c d : Value) (z0 : W.cell? ⟨B, 0, none⟩ = some u0) (z1 : W.cell? ⟨B, 1, none⟩ = some u1) (z2 : W.cell? ⟨B, 2, none⟩ = some u2) (z3 : W.cell? ⟨B, 3, none⟩ = some u3) :
    ((((W.setCell ⟨B, 0, none⟩ a).setCell ⟨B, 1, none⟩ b).setCell ⟨B, 2, none⟩ c).setCell ⟨B, 3, none⟩ d).cell? ⟨B, 0, none⟩ = some a ∧
    ((((W.setCell ⟨B, 0, none⟩ a).setCell ⟨B, 1, none⟩ b).setCell ⟨B, 2, none⟩ c).setCell ⟨B, 3, none⟩ d).cell? ⟨B, 1, none⟩ = some b ∧
    ((((W.setCell ⟨B, 0, none⟩ a).setCell ⟨B, 1, none⟩ b).setCell ⟨B, 2, none⟩ c).setCell ⟨B, 3, none⟩ d).cell? ⟨B, 2, none⟩ = some c ∧
    ((((W.setCell ⟨B, 0, none⟩ a).setCell ⟨B, 1, none⟩ b).setCell ⟨B, 2, none⟩ c).setCell ⟨B, 3, none⟩ d).cell? ⟨B, 3, none⟩ = some d := by
  have hs : ∀ j, j < [a, b, c, d].length → (W.cell? ⟨B, 0 + j, none⟩).isSome = true := fun j hj => by
    simp only [List.length_cons, List.length_nil] at hj
    match j, hj with
    | 0, _ => rw [z0]; rfl
    | 1, _ => rw [Nat.zero_add, z1]; rfl
    | 2, _ => rw [Nat.zero_add, z2]; rfl
    | 3, _ => rw [Nat.zero_add, z3]; rfl
  have h := World.cell?_setCells_in B [a, b, c, d] 0 W hs
  exact ⟨h 0 (by simp), h 1 (by simp), h 2 (by simp), h 3 (by simp)⟩

/-- The count down by one: the end. -/
theorem rem_done {base FB fo c : Nat} {G M : List (Nat × Nat)} {v v3 : Value} {w W3 w4 : World} (hF : FS base FB fo G c v3 W3) (hU : FU FB fo v w W3 v3) (hB : Below W3.heap.size W3 w4) (hc : 1 ≤ c) (hG : M = G) :
    ∃ v', FS base FB fo M (c - 1) v' ((w4.setCell ⟨FB, fo + 1, none⟩ (.int .u64 0)).setCell ⟨FB, fo + 1 + 1, none⟩ (.int .u64 ((c : Int) - 1))) ∧ FU FB fo v w ((w4.setCell ⟨FB, fo + 1, none⟩ (.int .u64 0)).setCell ⟨FB, fo + 1 + 1, none⟩ (.int .u64 ((c : Int) - 1))) v' := by
  subst hG
  obtain ⟨h1, h2⟩ := hF.set_count hB (c - 1)
  rw [show (((c - 1 : Nat)) : Int) = (c : Int) - 1 by omega] at h1 h2
  exact ⟨v3, h1, hU.trans h2⟩

set_option maxRecDepth 100000 in
set_option maxHeartbeats 2000000 in
theorem remove_end (base FB fo i x : Nat) (L : List (Nat × Nat)) (c : Nat) (v : Value) (w : World) (hL : L.length ≤ 65000) (h : FS base FB fo L c v w)
    (hlo : ∀ k, k < i → lst L k < x) (hhi : ∀ k, i ≤ k → k < L.length → x ≤ lst L k) (hie0 : i = L.length) :
    Calls Yba.prog 31 #[.pointer (some ⟨FB, fo, none⟩), .agg #[.int .u64 0, .int .u64 (x : Int)]] w fun e w' => e = .returned (.bool false) ∧ Below w.heap.size w w' := by
  obtain ⟨n, hn⟩ : ∃ n, L.length = n := ⟨_, rfl⟩
  obtain ⟨g, p, cp, rfl, hpg, hix, hcs⟩ := row_view2 (w := w) (n := n) (by have := h.own; rwa [hn] at this) hn
  obtain ⟨W0, hW0⟩ : ∃ W0, W0 = w.alloc (.cells #[.int .u64 0, .int .u64 (x : Int)] 29) := ⟨_, rfl⟩
  have hB0 : Below w.heap.size w W0 := by rw [hW0]; exact (Below.refl _ w).alloc (Nat.le_refl _) _
  have hF0 := h.below hB0
  have hx0 : W0.cell? ⟨w.heap.size, 0, none⟩ = some (.int .u64 0) := by rw [hW0]; exact newAt rfl rfl
  have hx1 : W0.cell? ⟨w.heap.size, 1, none⟩ = some (.int .u64 (x : Int)) := by rw [hW0]; exact newAt rfl rfl
  have hcs0 : ∀ k, k < n → W0.cell? ⟨g, k * 4, none⟩ = some (.int .u64 0) ∧ W0.cell? ⟨g, k * 4 + 1, none⟩ = some (.int .u64 (fst L k : Int)) ∧ W0.cell? ⟨g, k * 4 + 2, none⟩ = some (.int .u64 0) ∧ W0.cell? ⟨g, k * 4 + 3, none⟩ = some (.int .u64 (lst L k : Int)) := fun k hk => by
    rw [hW0]; exact ⟨keepA _ (hcs k hk).1, keepA _ (hcs k hk).2.1, keepA _ (hcs k hk).2.2.1, keepA _ (hcs k hk).2.2.2⟩
  have hrun := hF0.run
  have hbs := bslast n cp g i p (fst L) (lst L) x W0.drew (by omega) hix hcs0 (by omega) hlo (fun k h1 h2 => hhi k h1 (by omega))
  have hS : ∀ w', Below W0.heap.size W0 w' → w'.cell? ⟨FB, fo, none⟩ = some (.slice p n cp) ∧ w'.cell? ⟨w.heap.size, 0, none⟩ = some (.int .u64 0) ∧ w'.cell? ⟨w.heap.size, 1, none⟩ = some (.int .u64 (x : Int)) ∧ Below W0.heap.size W0 w' := fun w' hb => ⟨cell_below hrun hb, cell_below hx0 hb, cell_below hx1 hb, hb⟩
  go_enter Yba.func31, Yba.ntmps31
  go_wp2
  rw [← hW0]
  clear hW0
  go_region_held3 (fun w' => w'.cell? ⟨FB, fo, none⟩ = some (.slice p n cp) ∧ w'.cell? ⟨w.heap.size, 0, none⟩ = some (.int .u64 0) ∧ w'.cell? ⟨w.heap.size, 1, none⟩ = some (.int .u64 (x : Int)) ∧ Below W0.heap.size W0 w')
    (first | exact hS _ (Below.refl _ _).drew | exact hS _ (((Below.refl _ _).drew).trans hB'))
    (first | (go_at_call 40; refine hbs.mono ?_; rintro e w' ⟨⟨fb, rfl, -⟩, hB'⟩))
  rename_i hHeld
  obtain ⟨-, -, -, e2⟩ := id hHeld
  clear hHeld hB' hbs hS hrun
  have hF1 := hF0.below e2
  have hrun := hF1.run
  have y0 := cell_below hx0 e2
  have y1 := cell_below hx1 e2
  have hBw : Below w.heap.size w w' := hB0.trans (e2.mono hB0.size)
  have hU1 := FU.of_below (FB := FB) (fo := fo) (v := .slice p n cp) hBw h.lt'
  have HF1 : Hid (FS base FB fo L c (.slice p n cp) w' ∧ FU FB fo (.slice p n cp) w w' (.slice p n cp) ∧ Below w.heap.size w w') := ⟨hF1, hU1, hBw⟩
  have hid : ((i : Int) == (n : Int)) = true := by simp; omega
  have hie : (i : Int) = (n : Int) := by omega
  clear hF1 hU1 e2 hF0 hcs0 hcs hB0 h hx0 hx1 hix hlo hhi hBw
  go_wp2
  go_quiet (fail)
  go_wp2
  go_ret
  exact ⟨rfl, HF1.out.2.2.trans (below_drewN (Below.refl _ w') _ |>.mono HF1.out.2.2.size)⟩

set_option maxRecDepth 100000 in
set_option maxHeartbeats 2000000 in
theorem remove_miss (base FB fo i x : Nat) (L : List (Nat × Nat)) (c : Nat) (v : Value) (w : World) (hL : L.length ≤ 65000) (h : FS base FB fo L c v w)
    (hlo : ∀ k, k < i → lst L k < x) (hhi : ∀ k, i ≤ k → k < L.length → x ≤ lst L k) (hil : i < L.length) (hfx : x < fst L i) :
    Calls Yba.prog 31 #[.pointer (some ⟨FB, fo, none⟩), .agg #[.int .u64 0, .int .u64 (x : Int)]] w fun e w' => e = .returned (.bool false) ∧ Below w.heap.size w w' := by
  obtain ⟨n, hn⟩ : ∃ n, L.length = n := ⟨_, rfl⟩
  obtain ⟨g, p, cp, rfl, hpg, hix, hcs⟩ := row_view2 (w := w) (n := n) (by have := h.own; rwa [hn] at this) hn
  obtain ⟨W0, hW0⟩ : ∃ W0, W0 = w.alloc (.cells #[.int .u64 0, .int .u64 (x : Int)] 29) := ⟨_, rfl⟩
  have hB0 : Below w.heap.size w W0 := by rw [hW0]; exact (Below.refl _ w).alloc (Nat.le_refl _) _
  have hF0 := h.below hB0
  have hx0 : W0.cell? ⟨w.heap.size, 0, none⟩ = some (.int .u64 0) := by rw [hW0]; exact newAt rfl rfl
  have hx1 : W0.cell? ⟨w.heap.size, 1, none⟩ = some (.int .u64 (x : Int)) := by rw [hW0]; exact newAt rfl rfl
  have hcs0 : ∀ k, k < n → W0.cell? ⟨g, k * 4, none⟩ = some (.int .u64 0) ∧ W0.cell? ⟨g, k * 4 + 1, none⟩ = some (.int .u64 (fst L k : Int)) ∧ W0.cell? ⟨g, k * 4 + 2, none⟩ = some (.int .u64 0) ∧ W0.cell? ⟨g, k * 4 + 3, none⟩ = some (.int .u64 (lst L k : Int)) := fun k hk => by
    rw [hW0]; exact ⟨keepA _ (hcs k hk).1, keepA _ (hcs k hk).2.1, keepA _ (hcs k hk).2.2.1, keepA _ (hcs k hk).2.2.2⟩
  have hrun := hF0.run
  have hbs := bslast n cp g i p (fst L) (lst L) x W0.drew (by omega) hix hcs0 (by omega) hlo (fun k h1 h2 => hhi k h1 (by omega))
  have hS : ∀ w', Below W0.heap.size W0 w' → w'.cell? ⟨FB, fo, none⟩ = some (.slice p n cp) ∧ w'.cell? ⟨w.heap.size, 0, none⟩ = some (.int .u64 0) ∧ w'.cell? ⟨w.heap.size, 1, none⟩ = some (.int .u64 (x : Int)) ∧ Below W0.heap.size W0 w' := fun w' hb => ⟨cell_below hrun hb, cell_below hx0 hb, cell_below hx1 hb, hb⟩
  go_enter Yba.func31, Yba.ntmps31
  go_wp2
  rw [← hW0]
  clear hW0
  go_region_held3 (fun w' => w'.cell? ⟨FB, fo, none⟩ = some (.slice p n cp) ∧ w'.cell? ⟨w.heap.size, 0, none⟩ = some (.int .u64 0) ∧ w'.cell? ⟨w.heap.size, 1, none⟩ = some (.int .u64 (x : Int)) ∧ Below W0.heap.size W0 w')
    (first | exact hS _ (Below.refl _ _).drew | exact hS _ (((Below.refl _ _).drew).trans hB'))
    (first | (go_at_call 40; refine hbs.mono ?_; rintro e w' ⟨⟨fb, rfl, -⟩, hB'⟩))
  rename_i hHeld
  obtain ⟨-, -, -, e2⟩ := id hHeld
  clear hHeld hB' hbs hS hrun
  have hF1 := hF0.below e2
  have hrun := hF1.run
  have y0 := cell_below hx0 e2
  have y1 := cell_below hx1 e2
  have hBw : Below w.heap.size w w' := hB0.trans (e2.mono hB0.size)
  have hU1 := FU.of_below (FB := FB) (fo := fo) (v := .slice p n cp) hBw h.lt'
  have HF1 : Hid (FS base FB fo L c (.slice p n cp) w' ∧ FU FB fo (.slice p n cp) w w' (.slice p n cp) ∧ Below w.heap.size w w') := ⟨hF1, hU1, hBw⟩
  have hid : ((i : Int) == (n : Int)) = false := by simp; omega
  have hie : ¬ (i : Int) = (n : Int) := by omega
  have hin : i < n := by omega
  have hx' := hix i hin
  obtain ⟨z0, z1, z2, z3⟩ := hcs0 i hin
  have z0' := cell_below z0 e2
  have z1' := cell_below z1 e2
  have hC := cmp_any 0 (fst L i : Int) 0 (x : Int)
  have hcm : cmp3 0 (fst L i : Int) 0 (x : Int) > 0 := cmp3_gt.2 (.inr ⟨rfl, by omega⟩)
  have hcm2 : (0 : Int) < cmp3 0 (fst L i : Int) 0 (x : Int) := hcm
  have hcmd : decide ((0 : Int) < cmp3 0 (fst L i : Int) 0 (x : Int)) = true := by simpa using hcm2
  have hS : ∀ W, Below w'.heap.size w' W → W.cell? ⟨FB, fo, none⟩ = some (.slice p n cp) ∧ W.cell? ⟨w.heap.size, 0, none⟩ = some (.int .u64 0) ∧ W.cell? ⟨w.heap.size, 1, none⟩ = some (.int .u64 (x : Int)) ∧ W.cell? ⟨g, i * 4, none⟩ = some (.int .u64 0) ∧ W.cell? ⟨g, i * 4 + 1, none⟩ = some (.int .u64 (fst L i : Int)) ∧ Below w'.heap.size w' W := fun W hb => ⟨cell_below hrun hb, cell_below y0 hb, cell_below y1 hb, cell_below z0' hb, cell_below z1' hb, hb⟩
  clear hF1 hU1 e2 hF0 hcs0 hcs hB0 h hx0 hx1 z0 z1 z2 z3 hix hlo hhi hBw
  go_wp2
  go_region_held3 (fun W => W.cell? ⟨FB, fo, none⟩ = some (.slice p n cp) ∧ W.cell? ⟨w.heap.size, 0, none⟩ = some (.int .u64 0) ∧ W.cell? ⟨w.heap.size, 1, none⟩ = some (.int .u64 (x : Int)) ∧ W.cell? ⟨g, i * 4, none⟩ = some (.int .u64 0) ∧ W.cell? ⟨g, i * 4 + 1, none⟩ = some (.int .u64 (fst L i : Int)) ∧ Below w'.heap.size w' W)
    (first | exact hS _ (Below.refl _ _).drew | exact hS _ (((((Below.refl _ _).drew).alloc (Nat.le_refl _) _).alloc (by simp) _)))
    (first | (go_at_call 24; refine (hC _).mono ?_; rintro e w2 ⟨rfl, rfl⟩))
  rename_i hHeld
  obtain ⟨-, q0, q1, -, -, e3⟩ := id hHeld
  clear hHeld hS hrun y0 y1 z0' z1' hC
  go_wp2
  go_ret
  exact ⟨rfl, HF1.out.2.2.trans (e3.mono HF1.out.2.2.size)⟩

set_option maxRecDepth 100000 in
set_option maxHeartbeats 2000000 in
theorem remove_hit (base FB fo i x : Nat) (L : List (Nat × Nat)) (c : Nat) (v : Value) (w : World) (hL : L.length ≤ 65000) (h : FS base FB fo L c v w)
    (hlo : ∀ k, k < i → lst L k < x) (hhi : ∀ k, i ≤ k → k < L.length → x ≤ lst L k) (hbd : ∀ r ∈ L, r.2 + 1 < 18446744073709551616) (hil : i < L.length) (hfx : fst L i ≤ x) (hc1 : 1 ≤ c) (hc2 : c < 18446744073709551616) :
    Calls Yba.prog 31 #[.pointer (some ⟨FB, fo, none⟩), .agg #[.int .u64 0, .int .u64 (x : Int)]] w fun e w' => e = .returned (.bool true) ∧ ∃ v', FS base FB fo (remL L i x) (c - 1) v' w' ∧ FU FB fo v w w' v' := by
  obtain ⟨n, hn⟩ : ∃ n, L.length = n := ⟨_, rfl⟩
  obtain ⟨g, p, cp, rfl, hpg, hix, hcs⟩ := row_view2 (w := w) (n := n) (by have := h.own; rwa [hn] at this) hn
  obtain ⟨W0, hW0⟩ : ∃ W0, W0 = w.alloc (.cells #[.int .u64 0, .int .u64 (x : Int)] 29) := ⟨_, rfl⟩
  have hB0 : Below w.heap.size w W0 := by rw [hW0]; exact (Below.refl _ w).alloc (Nat.le_refl _) _
  have hF0 := h.below hB0
  have hx0 : W0.cell? ⟨w.heap.size, 0, none⟩ = some (.int .u64 0) := by rw [hW0]; exact newAt rfl rfl
  have hx1 : W0.cell? ⟨w.heap.size, 1, none⟩ = some (.int .u64 (x : Int)) := by rw [hW0]; exact newAt rfl rfl
  have hcs0 : ∀ k, k < n → W0.cell? ⟨g, k * 4, none⟩ = some (.int .u64 0) ∧ W0.cell? ⟨g, k * 4 + 1, none⟩ = some (.int .u64 (fst L k : Int)) ∧ W0.cell? ⟨g, k * 4 + 2, none⟩ = some (.int .u64 0) ∧ W0.cell? ⟨g, k * 4 + 3, none⟩ = some (.int .u64 (lst L k : Int)) := fun k hk => by
    rw [hW0]; exact ⟨keepA _ (hcs k hk).1, keepA _ (hcs k hk).2.1, keepA _ (hcs k hk).2.2.1, keepA _ (hcs k hk).2.2.2⟩
  have hrun := hF0.run
  have hbs := bslast n cp g i p (fst L) (lst L) x W0.drew (by omega) hix hcs0 (by omega) hlo (fun k h1 h2 => hhi k h1 (by omega))
  have hS : ∀ w', Below W0.heap.size W0 w' → w'.cell? ⟨FB, fo, none⟩ = some (.slice p n cp) ∧ w'.cell? ⟨w.heap.size, 0, none⟩ = some (.int .u64 0) ∧ w'.cell? ⟨w.heap.size, 1, none⟩ = some (.int .u64 (x : Int)) ∧ Below W0.heap.size W0 w' := fun w' hb => ⟨cell_below hrun hb, cell_below hx0 hb, cell_below hx1 hb, hb⟩
  go_enter Yba.func31, Yba.ntmps31
  go_wp2
  rw [← hW0]
  clear hW0
  go_region_held3 (fun w' => w'.cell? ⟨FB, fo, none⟩ = some (.slice p n cp) ∧ w'.cell? ⟨w.heap.size, 0, none⟩ = some (.int .u64 0) ∧ w'.cell? ⟨w.heap.size, 1, none⟩ = some (.int .u64 (x : Int)) ∧ Below W0.heap.size W0 w')
    (first | exact hS _ (Below.refl _ _).drew | exact hS _ (((Below.refl _ _).drew).trans hB'))
    (first | (go_at_call 40; refine hbs.mono ?_; rintro e w' ⟨⟨fb, rfl, -⟩, hB'⟩))
  rename_i hHeld
  obtain ⟨-, -, -, e2⟩ := id hHeld
  clear hHeld hB' hbs hS hrun
  have hF1 := hF0.below e2
  have hrun := hF1.run
  have y0 := cell_below hx0 e2
  have y1 := cell_below hx1 e2
  have hBw : Below w.heap.size w w' := hB0.trans (e2.mono hB0.size)
  have hU1 := FU.of_below (FB := FB) (fo := fo) (v := .slice p n cp) hBw h.lt'
  have HF1 : Hid (FS base FB fo L c (.slice p n cp) w' ∧ FU FB fo (.slice p n cp) w w' (.slice p n cp) ∧ Below w.heap.size w w') := ⟨hF1, hU1, hBw⟩
  have hid : ((i : Int) == (n : Int)) = false := by simp; omega
  have hie : ¬ (i : Int) = (n : Int) := by omega
  have hin : i < n := by omega
  have hx' := hix i hin
  obtain ⟨z0, z1, z2, z3⟩ := hcs0 i hin
  have z0' := cell_below z0 e2
  have z1' := cell_below z1 e2
  have hC := cmp_any 0 (fst L i : Int) 0 (x : Int)
  have hxl : x ≤ lst L i := hhi i (Nat.le_refl _) hil
  have hlb : lst L i + 1 < 18446744073709551616 := hbd _ (List.mem_of_getElem? (getD_at hil))
  have hcm : ¬ (0 : Int) < cmp3 0 (fst L i : Int) 0 (x : Int) := fun hh => by have := cmp3_gt.1 hh; omega
  have hcmd : decide ((0 : Int) < cmp3 0 (fst L i : Int) 0 (x : Int)) = false := by simpa using hcm
  have hS : ∀ W, Below w'.heap.size w' W → W.cell? ⟨FB, fo, none⟩ = some (.slice p n cp) ∧ W.cell? ⟨w.heap.size, 0, none⟩ = some (.int .u64 0) ∧ W.cell? ⟨w.heap.size, 1, none⟩ = some (.int .u64 (x : Int)) ∧ W.cell? ⟨g, i * 4, none⟩ = some (.int .u64 0) ∧ W.cell? ⟨g, i * 4 + 1, none⟩ = some (.int .u64 (fst L i : Int)) ∧ Below w'.heap.size w' W := fun W hb => ⟨cell_below hrun hb, cell_below y0 hb, cell_below y1 hb, cell_below z0' hb, cell_below z1' hb, hb⟩
  clear hF1 hU1 e2 hF0 hcs0 hcs hB0 h hx0 hx1 z0 z1 z2 z3 hix hlo hhi hBw
  go_wp2
  go_region_held3 (fun W => W.cell? ⟨FB, fo, none⟩ = some (.slice p n cp) ∧ W.cell? ⟨w.heap.size, 0, none⟩ = some (.int .u64 0) ∧ W.cell? ⟨w.heap.size, 1, none⟩ = some (.int .u64 (x : Int)) ∧ W.cell? ⟨g, i * 4, none⟩ = some (.int .u64 0) ∧ W.cell? ⟨g, i * 4 + 1, none⟩ = some (.int .u64 (fst L i : Int)) ∧ Below w'.heap.size w' W)
    (first | exact hS _ (Below.refl _ _).drew | exact hS _ (((((Below.refl _ _).drew).alloc (Nat.le_refl _) _).alloc (by simp) _)))
    (first | (go_at_call 24; refine (hC _).mono ?_; rintro e w2 ⟨rfl, rfl⟩))
  rename_i hHeld
  obtain ⟨-, q0, q1, -, -, e3⟩ := id hHeld
  clear hHeld hS hrun y0 y1 z0' z1' hC
  have hF2 := HF1.out.1.below e3
  have hU2 := HF1.out.2.1.trans (FU.of_below (FB := FB) (fo := fo) (v := .slice p n cp) e3 HF1.out.1.lt')
  clear HF1
  revert q0 q1 e3 hF2 hU2
  generalize ((w'.alloc (.cells #[.int .u64 0, .int .u64 (fst L i : Int)] 29)).alloc (.cells #[.int .u64 0, .int .u64 (x : Int)] 29)).drew = W
  intro q0 q1 e3 hF2 hU2
  obtain rfl : p = some ⟨g, 0, none⟩ := hpg (by omega)
  have hia : L[i]? = some (fst L i, lst L i) := getD_at hil
  have HP := prev_nat c hc1 hc2
  obtain ⟨ff, hff⟩ : ∃ ff, fst L i = ff := ⟨_, rfl⟩
  obtain ⟨ll, hll⟩ : ∃ ll, lst L i = ll := ⟨_, rfl⟩
  rw [hff] at hfx
  rw [hll] at hxl hlb
  clear hcm hcmd
  by_cases hf : ff = x
  · by_cases hl : ll = x
    · -- the run is x alone
      have hown := hF2.own
      rw [hn] at hown
      rw [hff, hll] at hia
      obtain ⟨a0, a1, a2, a3⟩ := own_cells hown hia
      have hrun := hF2.run
      have HF2 : Hid (FS base FB fo L c (.slice (some ⟨g, 0, none⟩) n cp) W ∧ FU FB fo (.slice (some ⟨g, 0, none⟩) n cp) w W (.slice (some ⟨g, 0, none⟩) n cp)) := ⟨hF2, hU2⟩
      clear hF2 hU2 hown e3
      have hfI : (ff : Int) = (x : Int) := by omega
      have hlI : (ll : Int) = (x : Int) := by omega
      go_wp2
      go_quiet (fail)
      have hF3 := HF2.out.1.below (below_drewN (Below.refl _ W) nq)
      have hU3 := HF2.out.2.trans (FU.of_below (FB := FB) (fo := fo) (v := .slice (some ⟨g, 0, none⟩) n cp) (below_drewN (Below.refl _ W) nq) HF2.out.1.lt')
      clear HF2 hrun a0 a1 a2 a3 q0 q1
      revert hF3 hU3
      generalize W.drewN nq = W2
      intro hF3 hU3
      have hrun := hF3.run
      have hdel := delete_any base _ L n i W2 hn (by omega) hin (by have := hF3.own; rwa [hn] at this)
      have HF3 : Hid (FS base FB fo L c (.slice (some ⟨g, 0, none⟩) n cp) W2 ∧ FU FB fo (.slice (some ⟨g, 0, none⟩) n cp) w W2 (.slice (some ⟨g, 0, none⟩) n cp)) := ⟨hF3, hU3⟩
      clear hF3 hU3
      go_wp2_with (first | (go_at_call 42; refine hdel.mono ?_; clear hdel; rintro e w3 ⟨v3, rfl, hP⟩; obtain ⟨p3, cp3, hv3⟩ := own_form hP.own; obtain ⟨n3, hn3⟩ : ∃ n3, (L.take i ++ L.drop (i + 1)).length = n3 := ⟨_, rfl⟩; rw [hn3] at hv3; subst hv3; obtain ⟨hF4, hU4, c3, f3⟩ := HF3.out.1.row hP; have k1 := hF4.chi; have k2 := hF4.clo; have kf := hF4.fro; have H4 : Hid (FS base FB fo (L.take i ++ L.drop (i + 1)) c (.slice p3 n3 cp3) (w3.setCell ⟨FB, fo, none⟩ (.slice p3 n3 cp3)) ∧ FU FB fo (.slice (some ⟨g, 0, none⟩) n cp) W2 (w3.setCell ⟨FB, fo, none⟩ (.slice p3 n3 cp3)) (.slice p3 n3 cp3)) := ⟨hF4, hU4⟩; clear hF4 hU4 hP hrun) | (go_at_call 44; refine (HP _).mono ?_; rintro e w4 ⟨rfl, hB4⟩; have r1 := cell_below k1 hB4; have r2 := cell_below k2 hB4; have rf := fro_below k1 kf hB4))
      go_ret
      exact ⟨rfl, rem_done H4.out.1 (HF3.out.2.trans H4.out.2) hB4 hc1 (by unfold remL; rw [hff, hll, if_pos ⟨hf, hl⟩])⟩
    · -- the run begins with x
      have hown := hF2.own
      rw [hn] at hown
      rw [hff, hll] at hia
      obtain ⟨a0, a1, a2, a3⟩ := own_cells hown hia
      have hrun := hF2.run
      have HF2 : Hid (FS base FB fo L c (.slice (some ⟨g, 0, none⟩) n cp) W ∧ FU FB fo (.slice (some ⟨g, 0, none⟩) n cp) w W (.slice (some ⟨g, 0, none⟩) n cp)) := ⟨hF2, hU2⟩
      clear hF2 hU2 hown e3
      have hfI : (ff : Int) = (x : Int) := by omega
      have hlI : ¬ (ll : Int) = (x : Int) := by omega
      have hlb2 : ((ll : Int) == (x : Int)) = false := by simpa using hlI
      have HN := next_nat x (by omega)
      go_wp2
      go_quiet (fail)
      have hF3 := HF2.out.1.below (below_drewN (Below.refl _ W) nq)
      have hU3 := HF2.out.2.trans (FU.of_below (FB := FB) (fo := fo) (v := .slice (some ⟨g, 0, none⟩) n cp) (below_drewN (Below.refl _ W) nq) HF2.out.1.lt')
      have q0' : (W.drewN nq).cell? ⟨w.heap.size, 0, none⟩ = some (.int .u64 0) := q0
      have q1' : (W.drewN nq).cell? ⟨w.heap.size, 1, none⟩ = some (.int .u64 (x : Int)) := q1
      clear HF2 hrun a0 a1 a2 a3 q0 q1
      revert hF3 hU3 q0' q1'
      generalize W.drewN nq = W2
      intro hF2 hU2 q0 q1
      have hown := hF2.own
      rw [hn] at hown
      obtain ⟨a0, a1, a2, a3⟩ := own_cells hown hia
      have hrun := hF2.run
      have HF2 : Hid (FS base FB fo L c (.slice (some ⟨g, 0, none⟩) n cp) W2 ∧ FU FB fo (.slice (some ⟨g, 0, none⟩) n cp) w W2 (.slice (some ⟨g, 0, none⟩) n cp)) := ⟨hF2, hU2⟩
      clear hF2 hU2 hown
      go_wp2
      go_quiet (fail)
      have hF3 := HF2.out.1.below (below_drewN (Below.refl _ W2) nq)
      have hU3 := HF2.out.2.trans (FU.of_below (FB := FB) (fo := fo) (v := .slice (some ⟨g, 0, none⟩) n cp) (below_drewN (Below.refl _ W2) nq) HF2.out.1.lt')
      have q0' : (W2.drewN nq).cell? ⟨w.heap.size, 0, none⟩ = some (.int .u64 0) := q0
      have q1' : (W2.drewN nq).cell? ⟨w.heap.size, 1, none⟩ = some (.int .u64 (x : Int)) := q1
      clear HF2 hrun a0 a1 a2 a3 q0 q1
      revert hF3 hU3 q0' q1'
      generalize W2.drewN nq = W3
      intro hF2 hU2 q0 q1
      have hown := hF2.own
      rw [hn] at hown
      obtain ⟨a0, a1, a2, a3⟩ := own_cells hown hia
      have hrun := hF2.run
      have HF2 : Hid (FS base FB fo L c (.slice (some ⟨g, 0, none⟩) n cp) W3 ∧ FU FB fo (.slice (some ⟨g, 0, none⟩) n cp) w W3 (.slice (some ⟨g, 0, none⟩) n cp)) := ⟨hF2, hU2⟩
      clear hF2 hU2 hown
      go_wp2_with (first | (go_at_call 43; refine (HN _).mono ?_; clear HN; rintro e w5 ⟨rfl, hB5⟩; have hF5 := HF2.out.1.below hB5; have hown5 := hF5.own; rw [hn] at hown5; have s0 := (own_cells hown5 hia).1; have s1 := (own_cells hown5 hia).2.1; have sf := own_frozen hown5; have hF6 := hF5.set_first hn hia (x + 1); rw [show (((x + 1 : Nat)) : Int) = (x : Int) + 1 by omega] at hF6; have k1 := hF6.1.chi; have k2 := hF6.1.clo; have kf := hF6.1.fro; have H6 : Hid (FS base FB fo (L.set i (x + 1, ll)) c (.slice (some ⟨g, 0, none⟩) n cp) ((w5.setCell ⟨g, i * 4, none⟩ (.int .u64 0)).setCell ⟨g, i * 4 + 1, none⟩ (.int .u64 ((x : Int) + 1))) ∧ FU FB fo (.slice (some ⟨g, 0, none⟩) n cp) W3 ((w5.setCell ⟨g, i * 4, none⟩ (.int .u64 0)).setCell ⟨g, i * 4 + 1, none⟩ (.int .u64 ((x : Int) + 1))) (.slice (some ⟨g, 0, none⟩) n cp)) := ⟨hF6.1, (FU.of_below hB5 HF2.out.1.lt').trans hF6.2⟩; clear hF5 hF6 hown5 hB5 hrun a0 a1 a2 a3 q0 q1) | (go_at_call 44; refine (HP _).mono ?_; rintro e w4 ⟨rfl, hB4⟩; have r1 := cell_below k1 hB4; have r2 := cell_below k2 hB4; have rf := fro_below k1 kf hB4))
      go_ret
      exact ⟨rfl, rem_done H6.out.1 (HF2.out.2.trans H6.out.2) hB4 hc1 (by unfold remL; rw [hff, hll, if_neg (fun hh => hl hh.2), if_pos hf])⟩
  · by_cases hl : ll = x
    · -- the run ends with x
      have hown := hF2.own
      rw [hn] at hown
      rw [hff, hll] at hia
      obtain ⟨a0, a1, a2, a3⟩ := own_cells hown hia
      have hrun := hF2.run
      have HF2 : Hid (FS base FB fo L c (.slice (some ⟨g, 0, none⟩) n cp) W ∧ FU FB fo (.slice (some ⟨g, 0, none⟩) n cp) w W (.slice (some ⟨g, 0, none⟩) n cp)) := ⟨hF2, hU2⟩
      clear hF2 hU2 hown e3
      have hfI : ¬ (ff : Int) = (x : Int) := by omega
      have hfb2 : ((ff : Int) == (x : Int)) = false := by simpa using hfI
      have hlI : (ll : Int) = (x : Int) := by omega
      have HX := prev_nat x (by omega) (by omega)
      go_wp2
      go_quiet (fail)
      have hF3 := HF2.out.1.below (below_drewN (Below.refl _ W) nq)
      have hU3 := HF2.out.2.trans (FU.of_below (FB := FB) (fo := fo) (v := .slice (some ⟨g, 0, none⟩) n cp) (below_drewN (Below.refl _ W) nq) HF2.out.1.lt')
      have q0' : (W.drewN nq).cell? ⟨w.heap.size, 0, none⟩ = some (.int .u64 0) := q0
      have q1' : (W.drewN nq).cell? ⟨w.heap.size, 1, none⟩ = some (.int .u64 (x : Int)) := q1
      clear HF2 hrun a0 a1 a2 a3 q0 q1
      revert hF3 hU3 q0' q1'
      generalize W.drewN nq = W2
      intro hF2 hU2 q0 q1
      have hown := hF2.own
      rw [hn] at hown
      obtain ⟨a0, a1, a2, a3⟩ := own_cells hown hia
      have hrun := hF2.run
      have HF2 : Hid (FS base FB fo L c (.slice (some ⟨g, 0, none⟩) n cp) W2 ∧ FU FB fo (.slice (some ⟨g, 0, none⟩) n cp) w W2 (.slice (some ⟨g, 0, none⟩) n cp)) := ⟨hF2, hU2⟩
      clear hF2 hU2 hown
      go_wp2
      go_quiet (fail)
      have hF3 := HF2.out.1.below (below_drewN (Below.refl _ W2) nq)
      have hU3 := HF2.out.2.trans (FU.of_below (FB := FB) (fo := fo) (v := .slice (some ⟨g, 0, none⟩) n cp) (below_drewN (Below.refl _ W2) nq) HF2.out.1.lt')
      have q0' : (W2.drewN nq).cell? ⟨w.heap.size, 0, none⟩ = some (.int .u64 0) := q0
      have q1' : (W2.drewN nq).cell? ⟨w.heap.size, 1, none⟩ = some (.int .u64 (x : Int)) := q1
      clear HF2 hrun a0 a1 a2 a3 q0 q1
      revert hF3 hU3 q0' q1'
      generalize W2.drewN nq = W3
      intro hF2 hU2 q0 q1
      have hown := hF2.own
      rw [hn] at hown
      obtain ⟨a0, a1, a2, a3⟩ := own_cells hown hia
      have hrun := hF2.run
      have HF2 : Hid (FS base FB fo L c (.slice (some ⟨g, 0, none⟩) n cp) W3 ∧ FU FB fo (.slice (some ⟨g, 0, none⟩) n cp) w W3 (.slice (some ⟨g, 0, none⟩) n cp)) := ⟨hF2, hU2⟩
      clear hF2 hU2 hown
      go_wp2
      go_quiet (fail)
      have hF3 := HF2.out.1.below (below_drewN (Below.refl _ W3) nq)
      have hU3 := HF2.out.2.trans (FU.of_below (FB := FB) (fo := fo) (v := .slice (some ⟨g, 0, none⟩) n cp) (below_drewN (Below.refl _ W3) nq) HF2.out.1.lt')
      have q0' : (W3.drewN nq).cell? ⟨w.heap.size, 0, none⟩ = some (.int .u64 0) := q0
      have q1' : (W3.drewN nq).cell? ⟨w.heap.size, 1, none⟩ = some (.int .u64 (x : Int)) := q1
      clear HF2 hrun a0 a1 a2 a3 q0 q1
      revert hF3 hU3 q0' q1'
      generalize W3.drewN nq = W4
      intro hF2 hU2 q0 q1
      have hown := hF2.own
      rw [hn] at hown
      obtain ⟨a0, a1, a2, a3⟩ := own_cells hown hia
      have hrun := hF2.run
      have HF2 : Hid (FS base FB fo L c (.slice (some ⟨g, 0, none⟩) n cp) W4 ∧ FU FB fo (.slice (some ⟨g, 0, none⟩) n cp) w W4 (.slice (some ⟨g, 0, none⟩) n cp)) := ⟨hF2, hU2⟩
      clear hF2 hU2 hown
      go_wp2_with (first | (go_at_call_of 44 (Value.agg #[.int .u64 0, .int .u64 (x : Int)]); refine (HX _).mono ?_; clear HX; rintro e w5 ⟨rfl, hB5⟩; have hF5 := HF2.out.1.below hB5; have hown5 := hF5.own; rw [hn] at hown5; have s0 := (own_cells hown5 hia).2.2.1; have s1 := (own_cells hown5 hia).2.2.2; have sf := own_frozen hown5; have hF6 := hF5.set_last hn hia (x - 1); rw [show (((x - 1 : Nat)) : Int) = (x : Int) - 1 by omega] at hF6; have k1 := hF6.1.chi; have k2 := hF6.1.clo; have kf := hF6.1.fro; have H6 : Hid (FS base FB fo (L.set i (ff, x - 1)) c (.slice (some ⟨g, 0, none⟩) n cp) ((w5.setCell ⟨g, i * 4 + 2, none⟩ (.int .u64 0)).setCell ⟨g, i * 4 + 3, none⟩ (.int .u64 ((x : Int) - 1))) ∧ FU FB fo (.slice (some ⟨g, 0, none⟩) n cp) W4 ((w5.setCell ⟨g, i * 4 + 2, none⟩ (.int .u64 0)).setCell ⟨g, i * 4 + 3, none⟩ (.int .u64 ((x : Int) - 1))) (.slice (some ⟨g, 0, none⟩) n cp)) := ⟨hF6.1, (FU.of_below hB5 HF2.out.1.lt').trans hF6.2⟩; clear hF5 hF6 hown5 hB5 hrun a0 a1 a2 a3 q0 q1) | (go_at_call 44; refine (HP _).mono ?_; rintro e w4 ⟨rfl, hB4⟩; have r1 := cell_below k1 hB4; have r2 := cell_below k2 hB4; have rf := fro_below k1 kf hB4))
      go_ret
      exact ⟨rfl, rem_done H6.out.1 (HF2.out.2.trans H6.out.2) hB4 hc1 (by unfold remL; rw [hff, hll, if_neg (fun hh => hf hh.1), if_neg hf, if_pos hl])⟩
    · -- x lies within
      have hown := hF2.own
      rw [hn] at hown
      rw [hff, hll] at hia
      obtain ⟨a0, a1, a2, a3⟩ := own_cells hown hia
      have hrun := hF2.run
      have HF2 : Hid (FS base FB fo L c (.slice (some ⟨g, 0, none⟩) n cp) W ∧ FU FB fo (.slice (some ⟨g, 0, none⟩) n cp) w W (.slice (some ⟨g, 0, none⟩) n cp)) := ⟨hF2, hU2⟩
      clear hF2 hU2 hown e3
      have hfI : ¬ (ff : Int) = (x : Int) := by omega
      have hfb2 : ((ff : Int) == (x : Int)) = false := by simpa using hfI
      have hlI : ¬ (ll : Int) = (x : Int) := by omega
      have hlb2 : ((ll : Int) == (x : Int)) = false := by simpa using hlI
      have HN := next_nat x (by omega)
      have HX := prev_nat x (by omega) (by omega)
      go_wp2
      go_quiet (fail)
      have hF3 := HF2.out.1.below (below_drewN (Below.refl _ W) nq)
      have hU3 := HF2.out.2.trans (FU.of_below (FB := FB) (fo := fo) (v := .slice (some ⟨g, 0, none⟩) n cp) (below_drewN (Below.refl _ W) nq) HF2.out.1.lt')
      have q0' : (W.drewN nq).cell? ⟨w.heap.size, 0, none⟩ = some (.int .u64 0) := q0
      have q1' : (W.drewN nq).cell? ⟨w.heap.size, 1, none⟩ = some (.int .u64 (x : Int)) := q1
      clear HF2 hrun a0 a1 a2 a3 q0 q1
      revert hF3 hU3 q0' q1'
      generalize W.drewN nq = W2
      intro hF2 hU2 q0 q1
      have hown := hF2.own
      rw [hn] at hown
      obtain ⟨a0, a1, a2, a3⟩ := own_cells hown hia
      have hrun := hF2.run
      have HF2 : Hid (FS base FB fo L c (.slice (some ⟨g, 0, none⟩) n cp) W2 ∧ FU FB fo (.slice (some ⟨g, 0, none⟩) n cp) w W2 (.slice (some ⟨g, 0, none⟩) n cp)) := ⟨hF2, hU2⟩
      clear hF2 hU2 hown
      go_wp2
      go_quiet (fail)
      have hF3 := HF2.out.1.below (below_drewN (Below.refl _ W2) nq)
      have hU3 := HF2.out.2.trans (FU.of_below (FB := FB) (fo := fo) (v := .slice (some ⟨g, 0, none⟩) n cp) (below_drewN (Below.refl _ W2) nq) HF2.out.1.lt')
      have q0' : (W2.drewN nq).cell? ⟨w.heap.size, 0, none⟩ = some (.int .u64 0) := q0
      have q1' : (W2.drewN nq).cell? ⟨w.heap.size, 1, none⟩ = some (.int .u64 (x : Int)) := q1
      clear HF2 hrun a0 a1 a2 a3 q0 q1
      revert hF3 hU3 q0' q1'
      generalize W2.drewN nq = W3
      intro hF2 hU2 q0 q1
      have hown := hF2.own
      rw [hn] at hown
      obtain ⟨a0, a1, a2, a3⟩ := own_cells hown hia
      have hrun := hF2.run
      have HF2 : Hid (FS base FB fo L c (.slice (some ⟨g, 0, none⟩) n cp) W3 ∧ FU FB fo (.slice (some ⟨g, 0, none⟩) n cp) w W3 (.slice (some ⟨g, 0, none⟩) n cp)) := ⟨hF2, hU2⟩
      clear hF2 hU2 hown
      go_wp2
      go_quiet (fail)
      have hF3 := HF2.out.1.below (below_drewN (Below.refl _ W3) nq)
      have hU3 := HF2.out.2.trans (FU.of_below (FB := FB) (fo := fo) (v := .slice (some ⟨g, 0, none⟩) n cp) (below_drewN (Below.refl _ W3) nq) HF2.out.1.lt')
      have q0' : (W3.drewN nq).cell? ⟨w.heap.size, 0, none⟩ = some (.int .u64 0) := q0
      have q1' : (W3.drewN nq).cell? ⟨w.heap.size, 1, none⟩ = some (.int .u64 (x : Int)) := q1
      clear HF2 hrun a0 a1 a2 a3 q0 q1
      revert hF3 hU3 q0' q1'
      generalize W3.drewN nq = W4
      intro hF2 hU2 q0 q1
      have hown := hF2.own
      rw [hn] at hown
      obtain ⟨a0, a1, a2, a3⟩ := own_cells hown hia
      have hrun := hF2.run
      have HF2 : Hid (FS base FB fo L c (.slice (some ⟨g, 0, none⟩) n cp) W4 ∧ FU FB fo (.slice (some ⟨g, 0, none⟩) n cp) w W4 (.slice (some ⟨g, 0, none⟩) n cp)) := ⟨hF2, hU2⟩
      clear hF2 hU2 hown
      have hS : ∀ W, Below W4.heap.size W4 W → W.cell? ⟨w.heap.size, 0, none⟩ = some (.int .u64 0) ∧ W.cell? ⟨w.heap.size, 1, none⟩ = some (.int .u64 (x : Int)) ∧ W.cell? ⟨g, i * 4 + 2, none⟩ = some (.int .u64 0) ∧ W.cell? ⟨g, i * 4 + 3, none⟩ = some (.int .u64 (ll : Int)) ∧ Below W4.heap.size W4 W := fun W hb => ⟨cell_below q0 hb, cell_below q1 hb, cell_below a2 hb, cell_below a3 hb, hb⟩
      go_wp2
      go_region_held3 (fun W => W.cell? ⟨w.heap.size, 0, none⟩ = some (.int .u64 0) ∧ W.cell? ⟨w.heap.size, 1, none⟩ = some (.int .u64 (x : Int)) ∧ W.cell? ⟨g, i * 4 + 2, none⟩ = some (.int .u64 0) ∧ W.cell? ⟨g, i * 4 + 3, none⟩ = some (.int .u64 (ll : Int)) ∧ Below W4.heap.size W4 W)
        (first | exact hS _ (Below.refl _ W4).drew | exact hS _ ((Below.refl _ W4).alloc (Nat.le_refl _) _).drew | exact hS _ hB6 | exact hS _ (hB6.alloc hB6.size _) | exact hS _ ((((hB6.setCell (p := ⟨W4.heap.size, 0, none⟩) (Nat.le_refl _) _).setCell (p := ⟨W4.heap.size, 1, none⟩) (Nat.le_refl _) _).setCell (p := ⟨W4.heap.size, 2, none⟩) (Nat.le_refl _) _).setCell (p := ⟨W4.heap.size, 3, none⟩) (Nat.le_refl _) _))
        (first | (go_at_call 43; refine (HN _).mono ?_; rintro e w5 ⟨rfl, hB5⟩; first | (refine aft_ae (wr := W4) (w' := w5) (t := 31) (v0 := .int .u64 0) (v1 := .int .u64 0) (v2 := .int .u64 0) (v3 := .int .u64 0) ?_ ?_; (assumption); intro hB6 z0 z1 z2 z3 zf) | (refine aft_be (wr := W4) (w' := w5) ?_ ?_; (assumption); intro hB6)))
      · obtain ⟨HB, hHB⟩ : ∃ HB, w5.heap.size = HB := ⟨_, rfl⟩
        have t0 : (w5.alloc (.cells #[.int .u64 0, .int .u64 ((x : Int) + 1), .int .u64 0, .int .u64 (ll : Int)] 31)).cell? ⟨HB, 0, none⟩ = some (.int .u64 0) := newAt hHB rfl
        have t1 : (w5.alloc (.cells #[.int .u64 0, .int .u64 ((x : Int) + 1), .int .u64 0, .int .u64 (ll : Int)] 31)).cell? ⟨HB, 1, none⟩ = some (.int .u64 ((x : Int) + 1)) := newAt hHB rfl
        have t2 : (w5.alloc (.cells #[.int .u64 0, .int .u64 ((x : Int) + 1), .int .u64 0, .int .u64 (ll : Int)] 31)).cell? ⟨HB, 2, none⟩ = some (.int .u64 0) := newAt hHB rfl
        have t3 : (w5.alloc (.cells #[.int .u64 0, .int .u64 ((x : Int) + 1), .int .u64 0, .int .u64 (ll : Int)] 31)).cell? ⟨HB, 3, none⟩ = some (.int .u64 (ll : Int)) := newAt hHB rfl
        have hB7 : Below W4.heap.size W4 (w5.alloc (.cells #[.int .u64 0, .int .u64 ((x : Int) + 1), .int .u64 0, .int .u64 (ll : Int)] 31)) := hB6.alloc hB6.size _
        have hHL : W4.heap.size ≤ HB := by rw [← hHB]; exact hB6.size
        rw [hHB]
        clear hHB hB5 hB6 hS
        rename_i hHeld
        clear hHeld
        revert t0 t1 t2 t3 hB7
        generalize w5.alloc (.cells #[.int .u64 0, .int .u64 ((x : Int) + 1), .int .u64 0, .int .u64 (ll : Int)] 31) = W5
        intro t0 t1 t2 t3 hB7
        have hF7 := HF2.out.1.below hB7
        have hU7 := HF2.out.2.trans (FU.of_below (FB := FB) (fo := fo) (v := .slice (some ⟨g, 0, none⟩) n cp) hB7 HF2.out.1.lt')
        have hgH : g < HB := Nat.lt_of_lt_of_le (World.block_lt_of_cell? _ _ a0) hHL
        have hFH : FB < HB := Nat.lt_of_lt_of_le HF2.out.1.lt' hHL
        have p0 := cell_below q0 hB7
        have p1 := cell_below q1 hB7
        have lH : HB < W5.heap.size := World.block_lt_of_cell? _ _ t0
        have HF7 : Hid (FS base FB fo L c (.slice (some ⟨g, 0, none⟩) n cp) W5 ∧ FU FB fo (.slice (some ⟨g, 0, none⟩) n cp) w W5 (.slice (some ⟨g, 0, none⟩) n cp)) := ⟨hF7, hU7⟩
        clear hF7 hU7 HF2 hrun a0 a1 a2 a3 q0 q1 hB7 hHL HN
        go_wp2_with (go_at_call_of 44 (Value.agg #[.int .u64 0, .int .u64 (x : Int)]); refine (HX _).mono ?_; clear HX; rintro e w6 ⟨rfl, hB8⟩; have hF8 := HF7.out.1.below hB8; have hown8 := hF8.own; rw [hn] at hown8; have s0 := (own_cells hown8 hia).2.2.1; have s1 := (own_cells hown8 hia).2.2.2; have sf := own_frozen hown8)
        have hF9 := hF8.set_last hn hia (x - 1)
        rw [show (((x - 1 : Nat)) : Int) = (x : Int) - 1 by omega] at hF9
        have hU9 := HF7.out.2.trans ((FU.of_below (FB := FB) (fo := fo) (v := .slice (some ⟨g, 0, none⟩) n cp) hB8 HF7.out.1.lt').trans hF9.2)
        have hbH := (hF9.2.block HB (Nat.lt_of_lt_of_le lH hB8.size) (by omega) (by intro e; simp [Value.ownBlock] at e; omega)).trans (hB8.block HB lH)
        have m0 := (World.cell?_of_block (a := ⟨HB, 0, none⟩) (w := W5) hbH).trans t0
        have m1 := (World.cell?_of_block (a := ⟨HB, 1, none⟩) (w := W5) hbH).trans t1
        have m2 := (World.cell?_of_block (a := ⟨HB, 2, none⟩) (w := W5) hbH).trans t2
        have m3 := (World.cell?_of_block (a := ⟨HB, 3, none⟩) (w := W5) hbH).trans t3
        have hF10 := hF9.1
        clear hbH hF9 hF8 hown8 s0 s1 sf hB8 t0 t1 t2 t3 p0 p1 HF7
        revert hU9 m0 m1 m2 m3 hF10
        generalize (w6.setCell ⟨g, i * 4 + 2, none⟩ (.int .u64 0)).setCell ⟨g, i * 4 + 3, none⟩ (.int .u64 ((x : Int) - 1)) = W8
        intro hU9 m0 m1 m2 m3 hF10
        have hns : (L.set i (ff, x - 1)).length = n := by rw [List.length_set, hn]
        have hrun := hF10.run
        have lF : FB < W8.heap.size := hF10.lt'
        have lH8 : HB < W8.heap.size := World.block_lt_of_cell? _ _ m0
        have hw1 : IntKind.i64.wrap ((i : Int) + 1) = (i : Int) + 1 := by rw [IntKind.wrap_i64]; omega
        have HI : Hid (∀ W, Below W8.heap.size W8 W → W.heap[W8.heap.size]? = some (.cells #[.int .u64 0, .int .u64 ((x : Int) + 1), .int .u64 0, .int .u64 (ll : Int)] 31 (0, 0)) → Calls Yba.prog 45 #[.slice (some ⟨g, 0, none⟩) n cp, .int .i64 ((i : Int) + 1), .slice (some ⟨W8.heap.size, 0, none⟩) 1 1] W fun e w'' => ∃ v', e = .returned v' ∧ RPost base (.slice (some ⟨g, 0, none⟩) n cp) ((L.set i (ff, x - 1)).take (i + 1) ++ [(x + 1, ll)] ++ (L.set i (ff, x - 1)).drop (i + 1)) W w'' v') := fun W hW hr => by
          have hFW := hF10.below hW
          have := insert_any base (.slice (some ⟨g, 0, none⟩) n cp) (L.set i (ff, x - 1)) (x + 1, ll) W8.heap.size n (i + 1) W hns (by omega) (by omega) (by have := hFW.own; rwa [hns] at this) (by rw [hr]; rfl) (fun e => by simp [Value.ownBlock] at e; omega) hFW.bs
          rwa [show (((i + 1 : Nat)) : Int) = (i : Int) + 1 by omega] at this
        have HF10 : Hid (FS base FB fo (L.set i (ff, x - 1)) c (.slice (some ⟨g, 0, none⟩) n cp) W8 ∧ FU FB fo (.slice (some ⟨g, 0, none⟩) n cp) w W8 (.slice (some ⟨g, 0, none⟩) n cp)) := ⟨hF10, hU9⟩
        clear hF10 hU9
        go_wp2
        go_region_with (go_at_call 45; refine (HI.out _ (by first | exact ((Below.refl _ _).drew).alloc (Nat.le_refl _) _ | exact ((Below.refl _ _).alloc (Nat.le_refl _) _).drew) (by first | exact heap_alloc_new _ _ | exact heap_alloc_new W8 _)).mono ?_; rintro e w3 ⟨v3, rfl, hP⟩; obtain ⟨hF3, hU3, c3, f3⟩ := ins_row hns HF10.out.1 (by first | exact ((Below.refl _ _).drew).alloc (Nat.le_refl _) _ | exact ((Below.refl _ _).alloc (Nat.le_refl _) _).drew) hP; obtain ⟨p3, cp3, hv3⟩ := hF3; subst hv3; obtain ⟨hF4, hU4⟩ := hU3; have k1 := hF4.chi; have k2 := hF4.clo; have kf := hF4.fro; have H4 : Hid (FS base FB fo ((L.set i (ff, x - 1)).take (i + 1) ++ [(x + 1, ll)] ++ (L.set i (ff, x - 1)).drop (i + 1)) c (.slice p3 (n + 1) cp3) (w3.setCell ⟨FB, fo, none⟩ (.slice p3 (n + 1) cp3)) ∧ FU FB fo (.slice (some ⟨g, 0, none⟩) n cp) W8 (w3.setCell ⟨FB, fo, none⟩ (.slice p3 (n + 1) cp3)) (.slice p3 (n + 1) cp3)) := ⟨hF4, hU4⟩; clear hF4 hU4 hP)
        all_goals
          go_wp2_with (go_at_call 44; refine (HP _).mono ?_; rintro e w4 ⟨rfl, hB4⟩; have r1 := cell_below k1 hB4; have r2 := cell_below k2 hB4; have rf := fro_below k1 kf hB4)
          go_ret
          exact ⟨rfl, rem_done H4.out.1 (HF10.out.2.trans H4.out.2) hB4 hc1 (by unfold remL; rw [hff, hll, if_neg (fun hh => hf hh.1), if_neg hf, if_neg hl])⟩
      · obtain ⟨t0, t1, t2, t3⟩ := set4b (.int .u64 0) (.int .u64 ((x : Int) + 1)) (.int .u64 0) (.int .u64 (ll : Int)) z0 z1 z2 z3
        have hB7 : Below W4.heap.size W4 ((((w5.setCell ⟨W4.heap.size, 0, none⟩ (.int .u64 0)).setCell ⟨W4.heap.size, 1, none⟩ (.int .u64 ((x : Int) + 1))).setCell ⟨W4.heap.size, 2, none⟩ (.int .u64 0)).setCell ⟨W4.heap.size, 3, none⟩ (.int .u64 (ll : Int))) := (((hB6.setCell (p := ⟨W4.heap.size, 0, none⟩) (Nat.le_refl _) _).setCell (p := ⟨W4.heap.size, 1, none⟩) (Nat.le_refl _) _).setCell (p := ⟨W4.heap.size, 2, none⟩) (Nat.le_refl _) _).setCell (p := ⟨W4.heap.size, 3, none⟩) (Nat.le_refl _) _
        rename_i hHeld
        clear hHeld hB5 hB6 hS z0 z1 z2 z3 zf
        revert t0 t1 t2 t3 hB7
        generalize ((((w5.setCell ⟨W4.heap.size, 0, none⟩ (.int .u64 0)).setCell ⟨W4.heap.size, 1, none⟩ (.int .u64 ((x : Int) + 1))).setCell ⟨W4.heap.size, 2, none⟩ (.int .u64 0)).setCell ⟨W4.heap.size, 3, none⟩ (.int .u64 (ll : Int))) = W5
        intro t0 t1 t2 t3 hB7
        obtain ⟨HB, hHB⟩ : ∃ HB, W4.heap.size = HB := ⟨_, rfl⟩
        have hHL : W4.heap.size ≤ HB := by rw [hHB]; exact Nat.le_refl _
        rw [hHB] at t0 t1 t2 t3 ⊢
        clear hHB
        have hF7 := HF2.out.1.below hB7
        have hU7 := HF2.out.2.trans (FU.of_below (FB := FB) (fo := fo) (v := .slice (some ⟨g, 0, none⟩) n cp) hB7 HF2.out.1.lt')
        have hgH : g < HB := Nat.lt_of_lt_of_le (World.block_lt_of_cell? _ _ a0) hHL
        have hFH : FB < HB := Nat.lt_of_lt_of_le HF2.out.1.lt' hHL
        have p0 := cell_below q0 hB7
        have p1 := cell_below q1 hB7
        have lH : HB < W5.heap.size := World.block_lt_of_cell? _ _ t0
        have HF7 : Hid (FS base FB fo L c (.slice (some ⟨g, 0, none⟩) n cp) W5 ∧ FU FB fo (.slice (some ⟨g, 0, none⟩) n cp) w W5 (.slice (some ⟨g, 0, none⟩) n cp)) := ⟨hF7, hU7⟩
        clear hF7 hU7 HF2 hrun a0 a1 a2 a3 q0 q1 hB7 hHL HN
        go_wp2_with (go_at_call_of 44 (Value.agg #[.int .u64 0, .int .u64 (x : Int)]); refine (HX _).mono ?_; clear HX; rintro e w6 ⟨rfl, hB8⟩; have hF8 := HF7.out.1.below hB8; have hown8 := hF8.own; rw [hn] at hown8; have s0 := (own_cells hown8 hia).2.2.1; have s1 := (own_cells hown8 hia).2.2.2; have sf := own_frozen hown8)
        have hF9 := hF8.set_last hn hia (x - 1)
        rw [show (((x - 1 : Nat)) : Int) = (x : Int) - 1 by omega] at hF9
        have hU9 := HF7.out.2.trans ((FU.of_below (FB := FB) (fo := fo) (v := .slice (some ⟨g, 0, none⟩) n cp) hB8 HF7.out.1.lt').trans hF9.2)
        have hbH := (hF9.2.block HB (Nat.lt_of_lt_of_le lH hB8.size) (by omega) (by intro e; simp [Value.ownBlock] at e; omega)).trans (hB8.block HB lH)
        have m0 := (World.cell?_of_block (a := ⟨HB, 0, none⟩) (w := W5) hbH).trans t0
        have m1 := (World.cell?_of_block (a := ⟨HB, 1, none⟩) (w := W5) hbH).trans t1
        have m2 := (World.cell?_of_block (a := ⟨HB, 2, none⟩) (w := W5) hbH).trans t2
        have m3 := (World.cell?_of_block (a := ⟨HB, 3, none⟩) (w := W5) hbH).trans t3
        have hF10 := hF9.1
        clear hbH hF9 hF8 hown8 s0 s1 sf hB8 t0 t1 t2 t3 p0 p1 HF7
        revert hU9 m0 m1 m2 m3 hF10
        generalize (w6.setCell ⟨g, i * 4 + 2, none⟩ (.int .u64 0)).setCell ⟨g, i * 4 + 3, none⟩ (.int .u64 ((x : Int) - 1)) = W8
        intro hU9 m0 m1 m2 m3 hF10
        have hns : (L.set i (ff, x - 1)).length = n := by rw [List.length_set, hn]
        have hrun := hF10.run
        have lF : FB < W8.heap.size := hF10.lt'
        have lH8 : HB < W8.heap.size := World.block_lt_of_cell? _ _ m0
        have hw1 : IntKind.i64.wrap ((i : Int) + 1) = (i : Int) + 1 := by rw [IntKind.wrap_i64]; omega
        have HI : Hid (∀ W, Below W8.heap.size W8 W → W.heap[W8.heap.size]? = some (.cells #[.int .u64 0, .int .u64 ((x : Int) + 1), .int .u64 0, .int .u64 (ll : Int)] 31 (0, 0)) → Calls Yba.prog 45 #[.slice (some ⟨g, 0, none⟩) n cp, .int .i64 ((i : Int) + 1), .slice (some ⟨W8.heap.size, 0, none⟩) 1 1] W fun e w'' => ∃ v', e = .returned v' ∧ RPost base (.slice (some ⟨g, 0, none⟩) n cp) ((L.set i (ff, x - 1)).take (i + 1) ++ [(x + 1, ll)] ++ (L.set i (ff, x - 1)).drop (i + 1)) W w'' v') := fun W hW hr => by
          have hFW := hF10.below hW
          have := insert_any base (.slice (some ⟨g, 0, none⟩) n cp) (L.set i (ff, x - 1)) (x + 1, ll) W8.heap.size n (i + 1) W hns (by omega) (by omega) (by have := hFW.own; rwa [hns] at this) (by rw [hr]; rfl) (fun e => by simp [Value.ownBlock] at e; omega) hFW.bs
          rwa [show (((i + 1 : Nat)) : Int) = (i : Int) + 1 by omega] at this
        have HF10 : Hid (FS base FB fo (L.set i (ff, x - 1)) c (.slice (some ⟨g, 0, none⟩) n cp) W8 ∧ FU FB fo (.slice (some ⟨g, 0, none⟩) n cp) w W8 (.slice (some ⟨g, 0, none⟩) n cp)) := ⟨hF10, hU9⟩
        clear hF10 hU9
        go_wp2
        go_region_with (go_at_call 45; refine (HI.out _ (by first | exact ((Below.refl _ _).drew).alloc (Nat.le_refl _) _ | exact ((Below.refl _ _).alloc (Nat.le_refl _) _).drew) (by first | exact heap_alloc_new _ _ | exact heap_alloc_new W8 _)).mono ?_; rintro e w3 ⟨v3, rfl, hP⟩; obtain ⟨hF3, hU3, c3, f3⟩ := ins_row hns HF10.out.1 (by first | exact ((Below.refl _ _).drew).alloc (Nat.le_refl _) _ | exact ((Below.refl _ _).alloc (Nat.le_refl _) _).drew) hP; obtain ⟨p3, cp3, hv3⟩ := hF3; subst hv3; obtain ⟨hF4, hU4⟩ := hU3; have k1 := hF4.chi; have k2 := hF4.clo; have kf := hF4.fro; have H4 : Hid (FS base FB fo ((L.set i (ff, x - 1)).take (i + 1) ++ [(x + 1, ll)] ++ (L.set i (ff, x - 1)).drop (i + 1)) c (.slice p3 (n + 1) cp3) (w3.setCell ⟨FB, fo, none⟩ (.slice p3 (n + 1) cp3)) ∧ FU FB fo (.slice (some ⟨g, 0, none⟩) n cp) W8 (w3.setCell ⟨FB, fo, none⟩ (.slice p3 (n + 1) cp3)) (.slice p3 (n + 1) cp3)) := ⟨hF4, hU4⟩; clear hF4 hU4 hP)
        all_goals
          go_wp2_with (go_at_call 44; refine (HP _).mono ?_; rintro e w4 ⟨rfl, hB4⟩; have r1 := cell_below k1 hB4; have r2 := cell_below k2 hB4; have rf := fro_below k1 kf hB4)
          go_ret
          exact ⟨rfl, rem_done H4.out.1 (HF10.out.2.trans H4.out.2) hB4 hc1 (by unfold remL; rw [hff, hll, if_neg (fun hh => hf hh.1), if_neg hf, if_neg hl])⟩

end Go.Proofs.Ybulkdlic
