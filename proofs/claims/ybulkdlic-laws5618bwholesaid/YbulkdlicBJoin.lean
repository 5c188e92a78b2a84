/-
  DERIVED. alloc.LawS5618BWhole: (*freeSet).join.
-/
import Derived.Test.YbulkdlicBFree
import Derived.Deep.RegionHeld3
namespace Go.Proofs.Ybulkdlic
open Go.RowKit

attribute [local go_sem ↓] Go.wp_at_zero Go.wp_at_succ

set_option maxRecDepth 100000 in
set_option maxHeartbeats 2000000 in
theorem join_any (base FB fo i : Nat) (L : List (Nat × Nat)) (c : Nat) (v : Value) (w : World) (hL : L.length ≤ 65536) (hbd : ∀ r ∈ L, r.2 + 1 < 18446744073709551616) (h : FS base FB fo L c v w) (hi : i ≤ 65536) :
    Calls Yba.prog 57 #[.pointer (some ⟨FB, fo, none⟩), .int .i64 (i : Int)] w fun e w' => e = .returned (.tuple #[]) ∧ ∃ v', FS base FB fo (joinAt i L) c v' w' ∧ FU FB fo v w w' v' := by
  obtain ⟨n, hn⟩ : ∃ n, L.length = n := ⟨_, rfl⟩
  have hrun := h.run
  have HS : Hid (FS base FB fo L c v w) := h
  have hw1 : IntKind.i64.wrap ((i : Int) + 1) = (i : Int) + 1 := by rw [IntKind.wrap_i64]; omega
  by_cases hin : n ≤ i + 1
  · have hj := joinAt_short i L (by omega)
    obtain ⟨pv, cp, rfl⟩ : ∃ p cp, v = .slice p n cp := by
      rcases h.own.2 with ⟨rfl, h0⟩ | ⟨g, cp, _, rfl, _⟩
      · exact ⟨none, 0, by rw [show n = 0 by omega]⟩
      · exact ⟨_, _, by rw [hn]⟩
    clear h
    have hd : decide ((n : Int) ≤ (i : Int) + 1) = true := by simp; omega
    have hd2 : (n : Int) ≤ (i : Int) + 1 := by omega
    go_enter Yba.func57, Yba.ntmps57
    go_wp2
    go_quiet (fail)
    go_wp2
    exact bodyPost_ret (results_none rfl _ _ _) rfl ⟨rfl, _, by rw [hj]; exact HS.out.below (below_drewN (Below.refl _ w) _), FU.of_below (below_drewN (Below.refl _ w) _) HS.out.lt'⟩
  · rcases h.own.2 with ⟨rfl, h0⟩ | ⟨g, cp, cur, hv, hbg, hg, hcap, hmax, hsz, hcur⟩
    · omega
    rw [hn] at hv
    subst hv
    obtain ⟨a, ha⟩ : ∃ a, L[i]? = some a := ⟨L[i]'(by omega), List.getElem?_eq_getElem _⟩
    obtain ⟨b, hb⟩ : ∃ b, L[i + 1]? = some b := ⟨L[i + 1]'(by omega), List.getElem?_eq_getElem _⟩
    have hown := h.own
    rw [hn] at hown
    obtain ⟨a0, a1, a2, a3⟩ := own_cells hown ha
    obtain ⟨b0, b1, b2, b3⟩ := own_cells hown hb
    have hH := next_nat a.2 (hbd a (List.mem_of_getElem? ha))
    have hd : decide ((n : Int) ≤ (i : Int) + 1) = false := by simp; omega
    have hd2 : ¬ (n : Int) ≤ (i : Int) + 1 := by omega
    have htn : ((i : Int) + 1).toNat = i + 1 := by omega
    have hi0 : (0 : Int) ≤ (i : Int) + 1 := by omega
    have hi1 : (i : Int) + 1 < (n : Int) := by omega
    have hi2 : i < n := by omega
    have hi3 : i + 1 < n := by omega
    have hS : ∀ w', Below w.heap.size w w' → (w'.cell? ⟨FB, fo, none⟩ = some (.slice (some ⟨g, 0, none⟩) n cp) ∧ w'.cell? ⟨g, i * 4 + 2, none⟩ = some (.int .u64 0) ∧ w'.cell? ⟨g, i * 4 + 3, none⟩ = some (.int .u64 (a.2 : Int)) ∧ w'.cell? ⟨g, (i + 1) * 4, none⟩ = some (.int .u64 0) ∧ w'.cell? ⟨g, (i + 1) * 4 + 1, none⟩ = some (.int .u64 (b.1 : Int)) ∧ Below w.heap.size w w') := fun w' hb' =>
      ⟨cell_below hrun hb', cell_below a2 hb', cell_below a3 hb', cell_below b0 hb', cell_below b1 hb', hb'⟩
    have HS2 : Hid (∀ w', Below w.heap.size w w' → (w'.cell? ⟨FB, fo, none⟩ = some (.slice (some ⟨g, 0, none⟩) n cp) ∧ w'.cell? ⟨g, i * 4 + 2, none⟩ = some (.int .u64 0) ∧ w'.cell? ⟨g, i * 4 + 3, none⟩ = some (.int .u64 (a.2 : Int)) ∧ w'.cell? ⟨g, (i + 1) * 4, none⟩ = some (.int .u64 0) ∧ w'.cell? ⟨g, (i + 1) * 4 + 1, none⟩ = some (.int .u64 (b.1 : Int)) ∧ Below w.heap.size w w')) := hS
    clear hS h hg hcap hmax hsz hcur hown
    by_cases he : a.2 + 1 = b.1
    · have hj := joinAt_yes i L a b ha hb he
      have hE : (a.2 : Int) + 1 = (b.1 : Int) := by omega
      go_enter Yba.func57, Yba.ntmps57
      go_wp2
      go_region_held3 (fun w' => w'.cell? ⟨FB, fo, none⟩ = some (.slice (some ⟨g, 0, none⟩) n cp) ∧ w'.cell? ⟨g, i * 4 + 2, none⟩ = some (.int .u64 0) ∧ w'.cell? ⟨g, i * 4 + 3, none⟩ = some (.int .u64 (a.2 : Int)) ∧ w'.cell? ⟨g, (i + 1) * 4, none⟩ = some (.int .u64 0) ∧ w'.cell? ⟨g, (i + 1) * 4 + 1, none⟩ = some (.int .u64 (b.1 : Int)) ∧ Below w.heap.size w w')
        (first | exact HS2.out _ (Below.refl _ w).drew | exact HS2.out _ (((Below.refl _ w).drew).trans hB'))
        (first | (go_at_call 43; refine (hH _).mono ?_; rintro e w' ⟨rfl, hB'⟩))
      rename_i hHeld
      obtain ⟨-, -, -, -, -, e2⟩ := id hHeld
      clear hHeld hB' hH HS2 hrun a0 a1 a2 a3 b0 b1 b2 b3
      have hF1 := HS.out.below e2
      have hrun := hF1.run
      have hown := hF1.own
      rw [hn] at hown
      obtain ⟨a0, a1, a2, a3⟩ := own_cells hown ha
      obtain ⟨b0, b1, b2, b3⟩ := own_cells hown hb
      have hfz := own_frozen hown
      have HF1 : Hid (FS base FB fo L c (.slice (some ⟨g, 0, none⟩) n cp) w' ∧ w'.ownsRow base 31 4 (.slice (some ⟨g, 0, none⟩) n cp) n (flat L)) := ⟨hF1, hown⟩
      clear hF1 hown
      go_wp2
      go_region
      have hF2 := HF1.out.1.set_last hn ha b.2
      have hu2 := (FU.of_below (FB := FB) (fo := fo) (v := .slice (some ⟨g, 0, none⟩) n cp) e2 HS.out.lt').trans (hF2.2.trans (FU.of_below (Below.refl _ _).drew hF2.1.lt'))
      have hF3 := hF2.1.below (Below.refl _ _).drew
      revert hF3 hu2
      clear hF2 HF1 hfz hrun a0 a1 a2 a3 b0 b1 b2 b3 e2
      show FU FB fo (.slice (some ⟨g, 0, none⟩) n cp) w ((w'.setCell ⟨g, i * 4 + 2, none⟩ (Value.int .u64 0)).setCell ⟨g, i * 4 + 2 + 1, none⟩ (Value.int .u64 (b.2 : Int))).drew (.slice (some ⟨g, 0, none⟩) n cp) → FS base FB fo (L.set i (a.1, b.2)) c (.slice (some ⟨g, 0, none⟩) n cp) ((w'.setCell ⟨g, i * 4 + 2, none⟩ (Value.int .u64 0)).setCell ⟨g, i * 4 + 2 + 1, none⟩ (Value.int .u64 (b.2 : Int))).drew → _
      generalize ((w'.setCell ⟨g, i * 4 + 2, none⟩ (Value.int .u64 0)).setCell ⟨g, i * 4 + 2 + 1, none⟩ (Value.int .u64 (b.2 : Int))).drew = W
      intro hU hF
      have hrun := hF.run
      have hdel : Calls Yba.prog 42 #[.slice (some ⟨g, 0, none⟩) n cp, .int .i64 ((i : Int) + 1), .int .i64 ((i : Int) + 2)] W fun e w' => ∃ v', e = .returned v' ∧ RPost base (.slice (some ⟨g, 0, none⟩) n cp) ((L.set i (a.1, b.2)).take (i + 1) ++ (L.set i (a.1, b.2)).drop (i + 1 + 1)) W w' v' := by
        have := delete_any base _ (L.set i (a.1, b.2)) n (i + 1) W (by simpa using hn) (by omega) hi3 (by have := hF.own; rwa [List.length_set, hn] at this)
        rw [show (((i + 1 : Nat) : Int)) = (i : Int) + 1 by omega, show (i : Int) + 1 + 1 = (i : Int) + 2 by omega] at this
        exact this
      have HF : Hid (FS base FB fo (L.set i (a.1, b.2)) c (.slice (some ⟨g, 0, none⟩) n cp) W ∧ FU FB fo (.slice (some ⟨g, 0, none⟩) n cp) w W (.slice (some ⟨g, 0, none⟩) n cp)) := ⟨hF, hU⟩
      have hw2 : IntKind.i64.wrap ((i : Int) + 2) = (i : Int) + 2 := by rw [IntKind.wrap_i64]; omega
      clear hF hU
      go_wp2_with (go_at_call 42; refine hdel.mono ?_; rintro e w3 ⟨v3, rfl, hP⟩; obtain ⟨p3, cp3, hv3⟩ := own_form hP.own; obtain ⟨n3, hn3⟩ : ∃ n3, ((L.set i (a.1, b.2)).take (i + 1) ++ (L.set i (a.1, b.2)).drop (i + 1 + 1)).length = n3 := ⟨_, rfl⟩; rw [hn3] at hv3; subst hv3; obtain ⟨hF3, hU3, c3, f3⟩ := HF.out.1.row hP; have H3 : Hid (FS base FB fo ((L.set i (a.1, b.2)).take (i + 1) ++ (L.set i (a.1, b.2)).drop (i + 1 + 1)) c (.slice p3 n3 cp3) (w3.setCell ⟨FB, fo, none⟩ (.slice p3 n3 cp3)) ∧ FU FB fo (.slice (some ⟨g, 0, none⟩) n cp) W (w3.setCell ⟨FB, fo, none⟩ (.slice p3 n3 cp3)) (.slice p3 n3 cp3)) := ⟨hF3, hU3⟩; clear hF3 hU3 hP)
      exact bodyPost_end (results_none rfl _ _ _) rfl ⟨rfl, _, by rw [hj]; exact H3.out.1, HF.out.2.trans H3.out.2⟩
    · have hj := joinAt_no i L a b ha hb he
      have hE : ((a.2 : Int) + 1 == (b.1 : Int)) = false := by simp; omega
      have hE2 : ¬ (a.2 : Int) + 1 = (b.1 : Int) := by omega
      go_enter Yba.func57, Yba.ntmps57
      go_wp2
      go_region_held3 (fun w' => w'.cell? ⟨FB, fo, none⟩ = some (.slice (some ⟨g, 0, none⟩) n cp) ∧ w'.cell? ⟨g, i * 4 + 2, none⟩ = some (.int .u64 0) ∧ w'.cell? ⟨g, i * 4 + 3, none⟩ = some (.int .u64 (a.2 : Int)) ∧ w'.cell? ⟨g, (i + 1) * 4, none⟩ = some (.int .u64 0) ∧ w'.cell? ⟨g, (i + 1) * 4 + 1, none⟩ = some (.int .u64 (b.1 : Int)) ∧ Below w.heap.size w w')
        (first | exact HS2.out _ (Below.refl _ w).drew | exact HS2.out _ (((Below.refl _ w).drew).trans hB'))
        (first | (go_at_call 43; refine (hH _).mono ?_; rintro e w' ⟨rfl, hB'⟩))
      rename_i hHeld
      obtain ⟨-, -, -, -, -, e2⟩ := id hHeld
      clear hHeld
      go_wp2
      exact bodyPost_ret (results_none rfl _ _ _) rfl ⟨rfl, .slice (some ⟨g, 0, none⟩) n cp, by rw [hj]; exact HS.out.below e2, FU.of_below e2 HS.out.lt'⟩

end Go.Proofs.Ybulkdlic
