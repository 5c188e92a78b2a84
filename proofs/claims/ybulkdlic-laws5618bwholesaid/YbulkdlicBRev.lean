/-
  DERIVED. alloc.LawS5618BWhole: slices.Reverse OF A ROW OF RUNS.
-/
import Derived.Test.YbulkdlicBAdd
namespace Go.Proofs.Ybulkdlic
open Go.RowKit

attribute [local go_sem ↓] Go.wp_at_zero Go.wp_at_succ

/-- The row when k of its ends have been turned. -/
def revK (L : List (Nat × Nat)) (k : Nat) : List (Nat × Nat) := (List.range L.length).map fun t => if t < k ∨ L.length - 1 - t < k then L.getD (L.length - 1 - t) (0, 0) else L.getD t (0, 0)
theorem revK_length (L : List (Nat × Nat)) (k : Nat) : (revK L k).length = L.length := by simp [revK]
theorem revK_at {L : List (Nat × Nat)} {k t : Nat} (ht : t < L.length) : (revK L k)[t]? = some (if t < k ∨ L.length - 1 - t < k then L.getD (L.length - 1 - t) (0, 0) else L.getD t (0, 0)) := by
  unfold revK
  rw [List.getElem?_map, List.getElem?_range ht]
  rfl
theorem revK_zero (L : List (Nat × Nat)) : revK L 0 = L := by
  apply List.ext_getElem?
  intro t
  by_cases ht : t < L.length
  · rw [revK_at ht, if_neg (by omega), List.getD_eq_getElem?_getD, List.getElem?_eq_getElem ht]; rfl
  · rw [List.getElem?_eq_none (by rw [revK_length]; omega), List.getElem?_eq_none (by omega)]
theorem revK_step {L : List (Nat × Nat)} {k : Nat} (hk : k + 1 ≤ L.length - 1 - k) : ((revK L k).set k (L.getD (L.length - 1 - k) (0, 0))).set (L.length - 1 - k) (L.getD k (0, 0)) = revK L (k + 1) := by
  apply List.ext_getElem?
  intro t
  by_cases ht : t < L.length
  · rw [List.getElem?_set, List.getElem?_set, revK_at ht, revK_at ht]
    by_cases e1 : L.length - 1 - k = t
    · rw [if_pos e1, if_pos (by rw [List.length_set, revK_length]; omega), if_pos (by omega), show L.length - 1 - t = k by omega]
    · rw [if_neg e1]
      by_cases e2 : k = t
      · rw [if_pos e2, if_pos (by rw [revK_length]; omega), if_pos (by omega), e2]
      · rw [if_neg e2]
        by_cases e3 : t < k ∨ L.length - 1 - t < k
        · rw [if_pos e3, if_pos (by omega)]
        · rw [if_neg e3, if_neg (by omega)]
  · rw [List.getElem?_eq_none (by rw [List.length_set, List.length_set, revK_length]; omega), List.getElem?_eq_none (by rw [revK_length]; omega)]
theorem revK_all {L : List (Nat × Nat)} {k : Nat} (hk : L.length - 1 - k ≤ k) : revK L k = L.reverse := by
  apply List.ext_getElem?
  intro t
  by_cases ht : t < L.length
  · rw [revK_at ht, List.getElem?_reverse ht]
    by_cases e : t < k ∨ L.length - 1 - t < k
    · rw [if_pos e, List.getD_eq_getElem?_getD, List.getElem?_eq_getElem (by omega)]; rfl
    · rw [if_neg e, show L.length - 1 - t = t by omega, List.getD_eq_getElem?_getD, List.getElem?_eq_getElem ht]; rfl
  · rw [List.getElem?_eq_none (by rw [revK_length]; omega), List.getElem?_eq_none (by simp; omega)]

theorem flat_set {L : List (Nat × Nat)} {i : Nat} (h1 : i < L.length) (r : Nat × Nat) : (flat L).take (i * 4) ++ rc r ++ (flat L).drop (i * 4 + 4) = flat (L.set i r) := by
  have hs : L.set i r = L.take i ++ r :: L.drop (i + 1) := by rw [List.set_eq_take_append_cons_drop, if_pos h1]
  rw [hs, flat_append, flat_cons, flat_take, show i * 4 + 4 = (i + 1) * 4 by omega, flat_drop, List.append_assoc]

theorem own_drew {X : World} {b e z n : Nat} {v : Value} {G : List Value} (h : X.ownsRow b e z v n G) : X.drew.ownsRow b e z v n G := h
theorem grown_drew {w X : World} {row : Option Nat} (h : w.grownBy X row) : w.grownBy X.drew row := ⟨h.os, h.tape, h.output, h.size, h.block⟩

set_option maxRecDepth 100000 in
set_option maxHeartbeats 2000000 in
theorem reverse_any (base : Nat) (v : Value) (L : List (Nat × Nat)) (n : Nat) (w : World) (hn : L.length = n) (hL : n ≤ 65536) (hv : w.ownsRow base 31 4 v n (flat L)) :
    Calls Yba.prog 9 #[v] w fun e w' => e = .returned (.tuple #[]) ∧ w'.ownsRow base 31 4 v n (flat L.reverse) ∧ w.grownBy w' v.ownBlock := by
  rcases hv.2 with ⟨rfl, rfl⟩ | ⟨g, cp, cur, rfl, _⟩
  · have hl : L = [] := List.length_eq_zero_iff.1 hn
    subst hl
    go_enter Yba.func9, Yba.ntmps9
    go_wp2
    go_loopw [2, 3] (fun i j wr => i = .int .i64 0 ∧ j = .int .i64 (-1) ∧ wr = w) (fun _ _ _ => 0)
    case atStart => exact ⟨rfl, rfl, rfl⟩
    case round =>
      obtain ⟨rfl, rfl, rfl⟩ := hrel
      go_wp2
      exact bodyPost_end (results_none rfl _ _ _) rfl ⟨rfl, hv, ⟨rfl, rfl, rfl, Nat.le_refl _, fun _ _ _ => rfl⟩⟩
  · have HV : Hid (w.ownsRow base 31 4 (.slice (some ⟨g, 0, none⟩) n cp) n (flat L)) := hv
    clear hv
    go_enter Yba.func9, Yba.ntmps9
    go_wp2
    go_loopw [2, 3] (fun i j wr => ∃ k : Nat, 2 * k ≤ n ∧ i = .int .i64 k ∧ j = .int .i64 ((n : Int) - 1 - k) ∧ wr.ownsRow base 31 4 (.slice (some ⟨g, 0, none⟩) n cp) n (flat (revK L k)) ∧ w.grownBy wr (some g)) (fun i _ _ => n - (intOf i).toNat)
    case atStart => exact ⟨0, by omega, rfl, by simp, by rw [revK_zero]; exact HV.out, ⟨rfl, rfl, rfl, Nat.le_refl _, fun _ _ _ => rfl⟩⟩
    case round =>
      obtain ⟨k, hk, rfl, rfl, hown, hgr⟩ := hrel
      by_cases hlt : k + 1 ≤ n - 1 - k
      · obtain ⟨j, hj⟩ : ∃ j, n - 1 - k = j := ⟨_, rfl⟩
        have hjI : (n : Int) - 1 - (k : Int) = (j : Int) := by omega
        have hkj : (k : Int) < (j : Int) := by omega
        have hjn : j < n := by omega
        have hkn : k < n := by omega
        have hak : (revK L k)[k]? = some (L.getD k (0, 0)) := by rw [revK_at (by omega), if_neg (by omega)]
        have haj : (revK L k)[j]? = some (L.getD j (0, 0)) := by rw [revK_at (by omega), if_neg (by omega)]
        obtain ⟨a0, a1, a2, a3⟩ := own_cells hown hak
        obtain ⟨b0, b1, b2, b3⟩ := own_cells hown haj
        have hfz := own_frozen hown
        have HO : Hid (wr.ownsRow base 31 4 (.slice (some ⟨g, 0, none⟩) n cp) n (flat (revK L k)) ∧ w.grownBy wr (some g)) := ⟨hown, hgr⟩
        rw [hjI]
        clear hown hgr hjI
        have hst := revK_step (L := L) (k := k) (by omega)
        rw [hn, hj] at hst
        revert a0 a1 a2 a3 b0 b1 b2 b3 hak haj hst
        generalize L.getD k (0, 0) = A
        generalize L.getD j (0, 0) = B
        intro hak haj a0 a1 a2 a3 b0 b1 b2 b3 hst
        have HS : Hid (((revK L k).set k B).set j A = revK L (k + 1)) := hst
        clear hst
        have n1 : ¬ j = k := by omega
        have n2 : ¬ k = j := by omega
        go_wp2
        go_region
        go_wp2
        have h1 := own_setCells HO.out.1 (o := k * 4) (vs := rc B) (by simp [rc]; omega)
        rw [show (rc B).length = 4 from rfl, flat_set (by rw [revK_length]; omega)] at h1
        have h2 := own_setCells h1 (o := j * 4) (vs := rc A) (by simp [rc]; omega)
        rw [show (rc A).length = 4 from rfl, flat_set (by rw [List.length_set, revK_length]; omega), HS.out] at h2
        have g1 := grown_setCells wr g (k * 4) (rc B)
        have g2 := grown_setCells (wr.setCells g (k * 4) (rc B)) g (j * 4) (rc A)
        have g0 := HO.out.2
        have g3 : w.grownBy ((wr.setCells g (k * 4) (rc B)).setCells g (j * 4) (rc A)) (some g) := ⟨g2.os.trans (g1.os.trans g0.os), g2.tape.trans (g1.tape.trans g0.tape), g2.output.trans (g1.output.trans g0.output), Nat.le_trans g0.size (Nat.le_trans g1.size g2.size), fun b hb hne => (g2.block b (Nat.lt_of_lt_of_le hb (Nat.le_trans g0.size g1.size)) hne).trans ((g1.block b (Nat.lt_of_lt_of_le hb g0.size) hne).trans (g0.block b hb hne))⟩
        clear g0 g1 g2 h1
        simp only [rc, World.setCells, Nat.add_assoc, Nat.reduceAdd] at h2 g3
        have h3 := own_drew h2
        have g4 := grown_drew g3
        clear h2 g3
        refine ⟨⟨k + 1, by omega, by go_num, ?_, ?_, ?_⟩, by simp [intOf]; omega⟩
        · rw [show (j : Int) - 1 = (n : Int) - 1 - ((k + 1 : Nat) : Int) by omega]
        · exact h3
        · exact g4
      · have hc : ¬ (k : Int) < (n : Int) - 1 - (k : Int) := by omega
        have HO : Hid (wr.ownsRow base 31 4 (.slice (some ⟨g, 0, none⟩) n cp) n (flat (revK L k)) ∧ w.grownBy wr (some g)) := ⟨hown, hgr⟩
        clear hown hgr
        go_wp2
        refine bodyPost_end (results_none rfl _ _ _) rfl ⟨rfl, ?_, HO.out.2⟩
        rw [← revK_all (L := L) (k := k) (by omega)]
        exact HO.out.1

end Go.Proofs.Ybulkdlic
