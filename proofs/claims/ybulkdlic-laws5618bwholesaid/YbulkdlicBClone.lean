/-
  DERIVED. alloc.LawS5618BWhole: slices.Clone OF A ROW OF RUNS.
-/
import Derived.Test.YbulkdlicBIns
namespace Go.Proofs.Ybulkdlic
open Go.RowKit

set_option maxRecDepth 100000 in
set_option maxHeartbeats 2000000 in
theorem clone_any (base : Nat) (v : Value) (L : List (Nat × Nat)) (n : Nat) (w : World) (hn : L.length = n) (hL : n ≤ 65536) (hv : w.ownsRow base 31 4 v n (flat L)) :
    Calls Yba.prog 14 #[v] w fun e w' => ∃ v', e = .returned v' ∧ w'.ownsRow w.heap.size 31 4 v' n (flat L) ∧ Below w.heap.size w w' := by
  obtain ⟨i3, hi, hz0, hz1, hz2⟩ := info_parts info31b
  have hq : ∀ (W : World) (a : Option Addr) (n c : Nat), (binOp .eql 25 (.slice a n c) (.slice none 0 0)).run Yba.prog W = .ok (.bool a.isNone) W := fun W a n c => Lib.run_eql_slice_nil W 25 31 a n c 0 0 Yba.underlying25
  rcases hv.2 with ⟨rfl, rfl⟩ | ⟨g, cap, cur, rfl, h1, h2, h3, h4, h5, h6⟩
  · have hl : L = [] := List.length_eq_zero_iff.1 hn
    subst hl
    clear hv
    go_enter Yba.func14, Yba.ntmps14
    go_wp2
    go_ret
    exact ⟨_, rfl, ⟨rfl, .inl ⟨rfl, rfl⟩⟩, by repeat (first | exact Below.refl _ _ | refine Below.alloc ?_ (by (try simp only [World.size_alloc]); omega) _)⟩
  · have hcell : ∀ j u, (flat L)[j]? = some u → w.cell? ⟨g, j, none⟩ = some u := fun j u hj => by
      have hlt : j < n * 4 := by have := (List.getElem?_eq_some_iff.1 hj).1; rw [flat_length, hn] at this; exact this
      rw [← h6, List.getElem?_take_of_lt hlt] at hj
      simpa [World.cell?, h2] using hj
    by_cases h0 : n = 0
    · subst h0
      have hl : L = [] := List.length_eq_zero_iff.1 hn
      subst hl
      have hap : ∀ (W : World), (Builtin.append_ #[25, 25] 25 #[.slice (some ⟨w.heap.size, 0, none⟩) 0 0, .slice (some ⟨g, 0, none⟩) 0 cap]).run Yba.prog W = .ok (.slice (some ⟨w.heap.size, 0, none⟩) 0 0) W := fun W =>
        run_append_nothing W 25 25 25 31 i3 Yba.underlying25 hi _ 0 0 (Nat.le_refl _) _ (by rw [hz1]; exact Src.ofSlice W Yba.underlying25 ⟨g, 0, none⟩ 0 cap [] rfl (fun j u hj => by simp at hj) (fun _ h => by cases h))
      have HAP : Hid (∀ (W : World), (Builtin.append_ #[25, 25] 25 #[.slice (some ⟨w.heap.size, 0, none⟩) 0 0, .slice (some ⟨g, 0, none⟩) 0 cap]).run Yba.prog W = .ok (.slice (some ⟨w.heap.size, 0, none⟩) 0 0) W) := hap
      clear hv hap
      go_enter Yba.func14, Yba.ntmps14
      go_wp2_with (at_builtin; refine Lib.wpList_append_run _ rfl _ _ 25 25 rfl _ _ rfl rfl _ _ (HAP.out _) ?_)
      go_ret
      exact ⟨_, rfl, ⟨rfl, .inr ⟨w.heap.size, 0, #[], rfl, Nat.le_refl _, heap_alloc_new w _, Nat.le_refl _, Nat.zero_le _, rfl, rfl⟩⟩, (Below.refl _ w).alloc (Nat.le_refl _) _⟩
    · have HC : Hid (∀ j u, (flat L)[j]? = some u → w.cell? ⟨g, j, none⟩ = some u) := hcell
      have HE : Hid ((w.alloc (.cells #[] 31)).ownsRow w.heap.size 31 4 (.slice (some ⟨w.heap.size, 0, none⟩) 0 0) 0 []) := ⟨rfl, .inr ⟨w.heap.size, 0, #[], rfl, Nat.le_refl _, heap_alloc_new w _, Nat.le_refl _, Nat.zero_le _, rfl, rfl⟩⟩
      clear hv h2 h5 h6 hcell
      go_enter Yba.func14, Yba.ntmps14
      go_wp2_with (at_builtin; (refine wpList_append_lies _ (by rfl) (.tmp 5) (.tmp 6) 25 (by rfl) w.heap.size 31 i3 _ 4 32 Yba.underlying25 hi hz0 hz1 hz2 rfl (by decide) _ 0 [] (by rfl) HE.out ⟨g, 0, none⟩ n cap (flat L) (by rfl) (by rw [flat_length, hn]) (fun j u hj => by rw [Addr.add_lit, Nat.zero_add]; exact keepA _ (HC.out j u hj)) (flat_cells L) (by omega) (by unfold maxLen; omega) (by omega) (by simp) _ rfl ?_); intro g1 cap1 w1 hown1 hgrow hat hlt1)
      go_ret
      rw [Nat.zero_add, List.nil_append] at hown1
      exact ⟨_, rfl, hown1, ⟨hgrow.os, hgrow.tape, hgrow.output, Nat.le_trans (by simp) hgrow.size, fun k hk => (hgrow.block k (by simp; omega) (by intro e; simp [Value.ownBlock] at e; omega)).trans (Below.heap_alloc w _ _ hk)⟩⟩

end Go.Proofs.Ybulkdlic
