/-
  DERIVED. alloc.LawS5618BWhole: slices.Clone, slices.Equal OF THE ROW OF POINTERS TO THE TIERS.
-/
import Derived.Test.YbulkdlicState7
import Derived.Deep.AppendLies
import Derived.Lib.SliceRun
namespace Go.Proofs.Ybulkdlic
open Go.RowKit

attribute [local go_sem ↓] Go.wp_at_zero Go.wp_at_succ neq40
attribute [local go_sem] equal40

def prow (TB : Nat) (o : Nat → Nat) (n : Nat) : List Value := (List.range n).map fun k => .pointer (some ⟨TB, o k, none⟩)
theorem prow_length (TB : Nat) (o : Nat → Nat) (n : Nat) : (prow TB o n).length = n := by simp [prow]
theorem prow_at {TB : Nat} {o : Nat → Nat} {n j : Nat} {u : Value} (h : (prow TB o n)[j]? = some u) : j < n ∧ u = .pointer (some ⟨TB, o j, none⟩) := by
  have hlt := (List.getElem?_eq_some_iff.1 h).1
  rw [prow_length] at hlt
  refine ⟨hlt, ?_⟩
  unfold prow at h
  rw [List.getElem?_map, List.getElem?_range hlt] at h
  simpa using h.symm
theorem prow_one (TB : Nat) (o : Nat → Nat) (n : Nat) : ∀ u ∈ prow TB o n, u.oneCell' = true := fun u hu => by
  obtain ⟨k, _, rfl⟩ := List.mem_map.1 hu
  rfl

set_option maxRecDepth 100000 in
set_option maxHeartbeats 2000000 in
theorem cloneP_any (BB n cap TB : Nat) (pb : Option Addr) (o : Nat → Nat) (w : World) (hn : n ≤ 65536) (hpb : 0 < n → pb = some ⟨BB, 0, none⟩) (h0 : n = 0 → pb = none) (hc : ∀ k, k < n → w.cell? ⟨BB, k, none⟩ = some (.pointer (some ⟨TB, o k, none⟩))) :
    Calls Yba.prog 15 #[.slice pb n cap] w fun e w' => ∃ v', e = .returned v' ∧ w'.ownsRow w.heap.size 40 1 v' n (prow TB o n) ∧ Below w.heap.size w w' := by
  obtain ⟨i3, hi, hz0, hz1, hz2⟩ := info_parts info40
  have hq : ∀ (W : World) (a : Option Addr) (n c : Nat), (binOp .eql 48 (.slice a n c) (.slice none 0 0)).run Yba.prog W = .ok (.bool a.isNone) W := fun W a n c => Lib.run_eql_slice_nil W 48 40 a n c 0 0 Yba.underlying48
  by_cases e0 : n = 0
  · subst e0
    rw [h0 rfl]
    go_enter Yba.func15, Yba.ntmps15
    go_wp2
    go_ret
    exact ⟨_, rfl, ⟨rfl, .inl ⟨rfl, rfl⟩⟩, by repeat (first | exact Below.refl _ _ | refine Below.alloc ?_ (by (try simp only [World.size_alloc]); omega) _)⟩
  · rw [hpb (by omega)]
    have HC : Hid (∀ k, k < n → w.cell? ⟨BB, k, none⟩ = some (.pointer (some ⟨TB, o k, none⟩))) := hc
    have HE : Hid ((w.alloc (.cells #[] 40)).ownsRow w.heap.size 40 1 (.slice (some ⟨w.heap.size, 0, none⟩) 0 0) 0 []) := ⟨rfl, .inr ⟨w.heap.size, 0, #[], rfl, Nat.le_refl _, heap_alloc_new w _, Nat.le_refl _, Nat.zero_le _, rfl, rfl⟩⟩
    clear hc h0 hpb
    go_enter Yba.func15, Yba.ntmps15
    go_wp2_with (at_builtin; refine wpList_append_lies _ (by rfl) (.tmp 5) (.tmp 6) 48 (by rfl) w.heap.size 40 i3 _ 1 8 Yba.underlying48 hi hz0 hz1 hz2 rfl (by decide) _ 0 [] (by rfl) HE.out ⟨BB, 0, none⟩ n cap (prow TB o n) (by rfl) (by rw [prow_length, Nat.mul_one]) (fun j u hj => by obtain ⟨h1, rfl⟩ := prow_at hj; rw [Addr.add_lit, Nat.zero_add]; exact keepA _ (HC.out j h1)) (prow_one TB o n) (by omega) (by unfold maxLen; omega) (by omega) (by simp) _ rfl ?_; intro g1 cap1 w1 hown1 hgrow hat hlt1)
    go_ret
    rw [Nat.zero_add, List.nil_append] at hown1
    exact ⟨_, rfl, hown1, ⟨hgrow.os, hgrow.tape, hgrow.output, Nat.le_trans (by simp) hgrow.size, fun k hk => (hgrow.block k (by simp; omega) (by intro e; simp [Value.ownBlock] at e; omega)).trans (Below.heap_alloc w _ _ hk)⟩⟩

set_option maxRecDepth 100000 in
set_option maxHeartbeats 2000000 in
theorem equalP_same (BB BB' n cap cap' TB : Nat) (pb pb' : Option Addr) (o : Nat → Nat) (w : World) (hn : n ≤ 65536) (hpb : 0 < n → pb = some ⟨BB, 0, none⟩) (hpb' : 0 < n → pb' = some ⟨BB', 0, none⟩)
    (hc : ∀ k, k < n → w.cell? ⟨BB, k, none⟩ = some (.pointer (some ⟨TB, o k, none⟩))) (hc' : ∀ k, k < n → w.cell? ⟨BB', k, none⟩ = some (.pointer (some ⟨TB, o k, none⟩))) :
    Calls Yba.prog 21 #[.slice pb n cap, .slice pb' n cap'] w fun e w' => e = .returned (.bool true) ∧ Below w.heap.size w w' := by
  have hix := pl_ix (cap := cap) hpb
  have hix' := pl_ix (cap := cap') hpb'
  go_enter Yba.func21, Yba.ntmps21
  go_wp2
  go_loopw [5, 13] (fun _ i wr => ∃ k : Nat, k ≤ n ∧ i = .int .i64 k ∧ ∃ d, wr = w.drewN d) (fun _ i _ => n - (intOf i).toNat)
  case atStart => exact ⟨0, Nat.zero_le _, rfl, 0, rfl⟩
  case round =>
    obtain ⟨k, hk, rfl, d, rfl⟩ := hrel
    by_cases hlt : k < n
    · have hx := hix k hlt
      have hx' := hix' k hlt
      have a0 := hc k hlt
      have b0 := hc' k hlt
      have hlI : (k : Int) < (n : Int) := by omega
      clear hix hix' hc hc'
      go_wp2
      go_quiet (fail)
      go_wp2
      exact ⟨⟨k + 1, by omega, by go_num, _, rfl⟩, by simp [intOf]; omega⟩
    · obtain rfl : k = n := by omega
      have hlI : ¬ (k : Int) < (k : Int) := by omega
      clear hix hix' hc hc'
      go_wp2
      go_ret
      exact ⟨rfl, below_drewN (Below.refl _ w) d⟩

end Go.Proofs.Ybulkdlic
