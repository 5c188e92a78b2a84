/-
  DERIVED. alloc.LawS5618BWhole: slices.Insert OF ONE RUN INTO A ROW OF RUNS.
-/
import Derived.Test.YbulkdlicBRow
import Derived.Deep.RegionLaw
import Derived.WalkKit
import Derived.WalkSpells
import Derived.WalkLawsBesides
import Derived.BigQuiet
namespace Go.Proofs.Ybulkdlic
open Go.RowKit

/-- What stands behind a change of a row: the row that is owned now, all else as it was. -/
structure RPost (base : Nat) (v : Value) (G : List (Nat × Nat)) (w w' : World) (v' : Value) : Prop where
  own : w'.ownsRow base 31 4 v' G.length (flat G)
  grown : w.grownBy w' v.ownBlock
  at_ : v'.ownBlock = v.ownBlock ∨ ∃ g, v'.ownBlock = some g ∧ w.heap.size ≤ g

theorem news_rc {w : World} {vb : Nat} {r : Nat × Nat} (h : w.heap[vb]? = some (.cells (rc r).toArray 31 (0, 0))) : ∀ j u, (rc r)[j]? = some u → w.cell? ((⟨vb, 0, none⟩ : Addr).add j) = some u := World.news_of_block h

set_option maxRecDepth 100000 in
set_option maxHeartbeats 2000000 in
theorem insert_end (base : Nat) (v : Value) (L : List (Nat × Nat)) (r : Nat × Nat) (vb n : Nat) (w : World) (hn : L.length = n) (hL : n ≤ 65536) (hv : w.ownsRow base 31 4 v n (flat L)) (hr : w.heap[vb]? = some (.cells (rc r).toArray 31 (0, 0))) (hb : base ≤ w.heap.size) :
    Calls Yba.prog 45 #[v, .int .i64 (n : Int), .slice (some ⟨vb, 0, none⟩) 1 1] w fun e w' => ∃ v', e = .returned v' ∧ RPost base v (L ++ [r]) w w' v' := by
  obtain ⟨i3, hi, hz0, hz1, hz2⟩ := info_parts info31b
  have key : ∀ g cap w', w'.ownsRow base 31 4 (.slice (some ⟨g, 0, none⟩) (n + 1) cap) (n + 1) (flat L ++ rc r) → w.grownBy w' v.ownBlock → (v.ownBlock = some g ∨ g = w.heap.size) → RPost base v (L ++ [r]) w w' (.slice (some ⟨g, 0, none⟩) (n + 1) cap) := fun g cap w' h1 h2 h3 =>
    ⟨by rw [List.length_append, hn, flat_append, flat_one]; exact h1, h2, by
      rcases h3 with h3 | h3
      · exact .inl h3.symm
      · exact .inr ⟨g, rfl, by omega⟩⟩
  have HK : Hid (∀ g cap w', w'.ownsRow base 31 4 (.slice (some ⟨g, 0, none⟩) (n + 1) cap) (n + 1) (flat L ++ rc r) → w.grownBy w' v.ownBlock → (v.ownBlock = some g ∨ g = w.heap.size) → RPost base v (L ++ [r]) w w' (.slice (some ⟨g, 0, none⟩) (n + 1) cap)) := key
  have HV : Hid (w.ownsRow base 31 4 v n (flat L)) := hv
  have HR : Hid (w.heap[vb]? = some (.cells (rc r).toArray 31 (0, 0))) := hr
  clear key hr
  rcases hv.2 with ⟨rfl, rfl⟩ | ⟨g, cap, cur, rfl, h1, h2, h3, h4, h5, h6⟩
  · clear hv
    go_enter Yba.func45, Yba.ntmps45
    go_wp2_with (at_builtin; refine wpList_append_lies _ (by rfl) (.tmp 23) (.tmp 24) 25 (by rfl) base 31 i3 _ 4 32 Yba.underlying25 hi hz0 hz1 hz2 rfl (by decide) _ 0 _ (by rfl) HV.out ⟨vb, 0, none⟩ 1 1 (rc r) (by rfl) rfl (news_rc HR.out) (flat_one r ▸ flat_cells [r]) (by omega) (by unfold maxLen; omega) (by omega) hb _ rfl ?_; intro g1 cap1 w1 hown1 hgrow hat hlt1)
    go_ret
    exact ⟨_, rfl, HK.out g1 cap1 w1 hown1 hgrow hat⟩
  · clear hv
    have hc63 : cap ≤ 9223372036854775807 := by unfold maxLen at h4; omega
    clear h2 h5 h6
    by_cases hcn : cap = n
    · subst hcn
      go_enter Yba.func45, Yba.ntmps45
      go_wp2_with (at_builtin; refine wpList_append_lies _ (by rfl) (.tmp 23) (.tmp 24) 25 (by rfl) base 31 i3 _ 4 32 Yba.underlying25 hi hz0 hz1 hz2 rfl (by decide) _ cap _ (by rfl) HV.out ⟨vb, 0, none⟩ 1 1 (rc r) (by rfl) rfl (news_rc HR.out) (flat_one r ▸ flat_cells [r]) (by omega) (by unfold maxLen; omega) (by omega) hb _ rfl ?_; intro g1 cap1 w1 hown1 hgrow hat hlt1)
      go_ret
      exact ⟨_, rfl, HK.out g1 cap1 w1 hown1 hgrow hat⟩
    · go_enter Yba.func45, Yba.ntmps45
      go_wp2_with (at_builtin; refine wpList_append_lies _ (by rfl) (.tmp 23) (.tmp 24) 25 (by rfl) base 31 i3 _ 4 32 Yba.underlying25 hi hz0 hz1 hz2 rfl (by decide) _ n _ (by rfl) HV.out ⟨vb, 0, none⟩ 1 1 (rc r) (by rfl) rfl (news_rc HR.out) (flat_one r ▸ flat_cells [r]) (by omega) (by unfold maxLen; omega) (by omega) hb _ rfl ?_; intro g1 cap1 w1 hown1 hgrow hat hlt1)
      go_ret
      exact ⟨_, rfl, HK.out g1 cap1 w1 hown1 hgrow hat⟩

/-- The copy within a block: cells by their places. -/
theorem cells_after {W : World} {g o : Nat} {vs : List Value} {j : Nat} {v : Value} (hs : ∀ j, j < vs.length → (W.cell? ⟨g, o + j, none⟩).isSome = true) (h : (o ≤ j ∧ vs[j - o]? = some v) ∨ ((j < o ∨ o + vs.length ≤ j) ∧ W.cell? ⟨g, j, none⟩ = some v)) : (W.setCells g o vs).cell? ⟨g, j, none⟩ = some v := by
  rcases h with ⟨h1, h2⟩ | ⟨h1, h2⟩
  · obtain ⟨h3, h4⟩ := List.getElem?_eq_some_iff.1 h2
    have := World.cell?_setCells_in g vs o W hs (j - o) h3
    rw [show o + (j - o) = j by omega] at this
    rw [this, h4]
  · rw [World.cell?_setCells_out g vs o W ⟨g, j, none⟩ (fun _ _ => h1)]
    exact h2

set_option maxRecDepth 100000 in
set_option maxHeartbeats 2000000 in
theorem insert_shift (base : Nat) (L : List (Nat × Nat)) (r : Nat × Nat) (vb n i g cap : Nat) (cur : Array Value) (w : World) (hn : L.length = n) (hL : n ≤ 65536) (hi : i < n) (hroom : n + 1 ≤ cap) (hc : cap ≤ maxLen)
    (hbg : base ≤ g) (hg : w.heap[g]? = some (.cells cur 31 (0, 0))) (hs : cur.size = cap * 4) (hcur : cur.toList.take (n * 4) = flat L) (hr : w.heap[vb]? = some (.cells (rc r).toArray 31 (0, 0))) (hne : vb ≠ g) :
    Calls Yba.prog 45 #[.slice (some ⟨g, 0, none⟩) n cap, .int .i64 (i : Int), .slice (some ⟨vb, 0, none⟩) 1 1] w fun e w' => e = .returned (.slice (some ⟨g, 0, none⟩) (n + 1) cap) ∧ RPost base (.slice (some ⟨g, 0, none⟩) n cap) (L.take i ++ [r] ++ L.drop i) w w' (.slice (some ⟨g, 0, none⟩) (n + 1) cap) := by
  have hc63 : cap ≤ 9223372036854775807 := by unfold maxLen at hc; omega
  have hz2 : ¬ ((i : Int) = (n : Int)) := by omega
  have hov : ∀ o lb cb, (callFunc 60 #[.slice (some ⟨vb, 0, none⟩) 1 1, .slice (some ⟨g, o, none⟩) lb cb]).run Yba.prog w = .ok (.value (.bool false)) w := fun o lb cb => by
    rw [run_callFunc_extern Yba.func60 (by kernel_rfl) (by kernel_rfl) (by kernel_rfl) (e := Extern.SlicesOverlaps.overlaps #[25, 25] #[4]) (by kernel_rfl),
      Lib.run_overlaps_apart w 25 4 31 Yba.underlying25 4 (fun _ => by kernel_rfl) ⟨vb, 0, none⟩ ⟨g, o, none⟩ 1 1 lb cb hne 31 31 4 (cap * 4) (by simp [World.shape?, hr, rc]) (by simp [World.shape?, hg, hs]) (by omega) (by simp [World.frozen?, hr]) (by simp [World.frozen?, hr])]
    rfl
  have hHG : Hid (w.heap[g]? = some (.cells cur 31 (0, 0))) := hg
  have hHR : Hid (w.heap[vb]? = some (.cells (rc r).toArray 31 (0, 0))) := hr
  clear hg hr
  have hin : i ≤ n := by omega
  have hb4 : ¬ (cap = i) := by omega
  have hb2 : ¬ (cap = i + 1) := by omega
  have hw1 : IntKind.i64.wrap ((i : Int) + 1) = (i : Int) + 1 := by rw [IntKind.wrap_i64]; omega
  have hb1 : (0 : Int) ≤ (i : Int) + 1 := by omega
  have hb3 : (i : Int) + 1 ≤ (n : Int) + 1 := by omega
  have hb5 : (i : Int) ≤ (n : Int) + 1 := by omega
  have htn : ((i : Int) + 1).toNat = i + 1 := by omega
  have hdl : (flat (L.drop i)).length = (n - i) * 4 := by rw [flat_length, List.length_drop, hn]
  have hcell : ∀ j v, (flat L)[j]? = some v → w.cell? ⟨g, j, none⟩ = some v := fun j v hj => by
    have hlt : j < n * 4 := by have := (List.getElem?_eq_some_iff.1 hj).1; rw [flat_length, hn] at this; exact this
    rw [← hcur, List.getElem?_take_of_lt hlt] at hj
    simpa [World.cell?, hHG.out] using hj
  have hsome : ∀ j, j < cap * 4 → (w.cell? ⟨g, j, none⟩).isSome = true := fun j hj => by simp [World.cell?, hHG.out, hs, hj]
  have hfro : ∀ j, w.frozen? ⟨g, j, none⟩ = false := fun j => by simp [World.frozen?, hHG.out]
  have hcp1 : ∀ ty o1 o2 dl sl dc sc, o1 = (i + 1) * 4 → o2 = i * 4 → dl = n - i → n - i ≤ sl → (Builtin.copy_ #[25, 25] ty #[.slice (some ⟨g, o1, none⟩) dl dc, .slice (some ⟨g, o2, none⟩) sl sc]).run Yba.prog w.drew = .ok (goInt (Nat.min sl dl)) (w.drew.setCells g ((i + 1) * 4) (flat (L.drop i))) := fun ty o1 o2 dl sl dc sc e1 e2 e3 e4 => by
    subst e1 e2 e3
    refine run_copy4 w.drew ty g ((i + 1) * 4) (n - i) dc ⟨g, i * 4, none⟩ sl sc (flat (L.drop i)) (by rw [hdl, show Nat.min sl (n - i) = n - i from Nat.min_eq_right e4]) (fun j v hj => ?_) (fun j hj => hsome _ (by rw [hdl] at hj; omega)) (fun j _ => hfro _) (flat_cells _)
    rw [Addr.add_lit]
    exact hcell (i * 4 + j) v (by rw [← flat_drop, List.getElem?_drop] at hj; exact hj)
  obtain ⟨W1, hW1⟩ : ∃ W1, W1 = w.drew.setCells g ((i + 1) * 4) (flat (L.drop i)) := ⟨_, rfl⟩
  have hW1s : ∀ j, j < cap * 4 → (W1.cell? ⟨g, j, none⟩).isSome = true := fun j hj => by
    rw [hW1]
    exact isSome_setCells g (flat (L.drop i)) ((i + 1) * 4) w.drew (fun j hj => hsome ((i + 1) * 4 + j) (by rw [hdl] at hj; omega)) j (hsome j hj)
  have hW1f : ∀ j, W1.frozen? ⟨g, j, none⟩ = false := fun j => by rw [hW1, World.frozen?_setCells]; exact hfro j
  have hW1r : ∀ j u, (rc r)[j]? = some u → W1.cell? ⟨vb, 0 + j, none⟩ = some u := fun j u hj => by
    rw [hW1, World.cell?_setCells_out g _ _ _ _ (fun h _ => absurd h hne)]
    have := news_rc hHR.out j u hj
    rwa [Addr.add_lit] at this
  have hcp2 : ∀ (W : World), (∀ x, W.cell? x = W1.cell? x) → (∀ x, W.frozen? x = W1.frozen? x) → ∀ ty o dl dc, o = i * 4 → 1 ≤ dl → (Builtin.copy_ #[25, 25] ty #[.slice (some ⟨g, o, none⟩) dl dc, .slice (some ⟨vb, 0, none⟩) 1 1]).run Yba.prog W = .ok (goInt (Nat.min 1 dl)) (W.setCells g (i * 4) (rc r)) := fun W hWc hWf ty o dl dc e1 e2 => by
    subst e1
    refine run_copy4 W ty g (i * 4) dl dc ⟨vb, 0, none⟩ 1 1 (rc r) (by rw [show Nat.min 1 dl = 1 from Nat.min_eq_left e2]; rfl) (fun j v hj => ?_) (fun j hj => by rw [hWc]; exact hW1s _ (by simp [rc] at hj; omega)) (fun j _ => by rw [hWf]; exact hW1f _) (flat_one r ▸ flat_cells [r])
    rw [Addr.add_lit, hWc]
    exact hW1r j v hj
  rw [← hW1] at hcp1
  have hfin : ∀ W2, W2 = W1.setCells g (i * 4) (rc r) → RPost base (.slice (some ⟨g, 0, none⟩) n cap) (L.take i ++ [r] ++ L.drop i) w W2 (.slice (some ⟨g, 0, none⟩) (n + 1) cap) := fun W2 hW2 => by
    subst hW2
    obtain ⟨c1, hc1, hs1⟩ := heap_setCells_shape (flat (L.drop i)) ((i + 1) * 4) w.drew cur hHG.out
    rw [← hW1] at hc1
    obtain ⟨c2, hc2, hs2⟩ := heap_setCells_shape (rc r) (i * 4) W1 c1 hc1
    have hlen : (L.take i ++ [r] ++ L.drop i).length = n + 1 := by simp [hn]; omega
    refine ⟨?_, ?_, .inl rfl⟩
    · rw [hlen]
      refine owns_of_cells hbg hc2 hroom hc (by rw [hs2, hs1, hs]) (by rw [flat_length, hlen]) (fun j v hj => ?_)
      rw [flat_append, flat_append, flat_one, ← flat_take, ← flat_drop] at hj
      have ht : ((flat L).take (i * 4)).length = i * 4 := by rw [List.length_take, flat_length, hn]; omega
      by_cases h1 : j < i * 4
      · rw [List.append_assoc, List.getElem?_append_left (by omega), List.getElem?_take_of_lt h1] at hj
        exact cells_after (fun j hj => hW1s _ (by simp [rc] at hj; omega)) (.inr ⟨.inl h1, by rw [hW1]; exact cells_after (fun j hj => hsome _ (by rw [hdl] at hj; omega)) (.inr ⟨.inl (by omega), hcell j v hj⟩)⟩)
      · by_cases h2 : j < i * 4 + 4
        · rw [List.append_assoc, List.getElem?_append_right (by omega), ht, List.getElem?_append_left (by simp [rc]; omega)] at hj
          exact cells_after (fun j hj => hW1s _ (by simp [rc] at hj; omega)) (.inl ⟨by omega, hj⟩)
        · rw [List.getElem?_append_right (by rw [List.length_append, ht]; simp [rc]; omega), List.length_append, ht, List.getElem?_drop] at hj
          simp only [rc, List.length_cons, List.length_nil] at hj
          refine cells_after (fun j hj => hW1s _ (by simp [rc] at hj; omega)) (.inr ⟨.inr (by simp [rc]; omega), ?_⟩)
          rw [hW1]
          refine cells_after (fun j hj => hsome _ (by rw [hdl] at hj; omega)) (.inl ⟨by omega, ?_⟩)
          rw [← flat_drop, List.getElem?_drop, ← hj]
          congr 1
          omega
    · have g1 : w.grownBy W1 (some g) := by
        have := grown_setCells w.drew g ((i + 1) * 4) (flat (L.drop i))
        rw [← hW1] at this
        exact ⟨this.os, this.tape, this.output, this.size, this.block⟩
      have g2 := grown_setCells W1 g (i * 4) (rc r)
      exact ⟨g2.os.trans g1.os, g2.tape.trans g1.tape, g2.output.trans g1.output, Nat.le_trans g1.size g2.size, fun k hk hne => (g2.block k (Nat.lt_of_lt_of_le hk g1.size) hne).trans (g1.block k hk hne)⟩
  have HF : Hid (∀ W2, W2 = W1.setCells g (i * 4) (rc r) → RPost base (.slice (some ⟨g, 0, none⟩) n cap) (L.take i ++ [r] ++ L.drop i) w W2 (.slice (some ⟨g, 0, none⟩) (n + 1) cap)) := hfin
  have HC1 : Hid (∀ ty o1 o2 dl sl dc sc, o1 = (i + 1) * 4 → o2 = i * 4 → dl = n - i → n - i ≤ sl → (Builtin.copy_ #[25, 25] ty #[.slice (some ⟨g, o1, none⟩) dl dc, .slice (some ⟨g, o2, none⟩) sl sc]).run Yba.prog w.drew = .ok (goInt (Nat.min sl dl)) W1) := hcp1
  have HC2 : Hid (∀ (W : World), (∀ x, W.cell? x = W1.cell? x) → (∀ x, W.frozen? x = W1.frozen? x) → ∀ ty o dl dc, o = i * 4 → 1 ≤ dl → (Builtin.copy_ #[25, 25] ty #[.slice (some ⟨g, o, none⟩) dl dc, .slice (some ⟨vb, 0, none⟩) 1 1]).run Yba.prog W = .ok (goInt (Nat.min 1 dl)) (W.setCells g (i * 4) (rc r))) := hcp2
  have mixed : Yba.prog.follows .mixedOrders = true := by kernel_rfl
  clear hfin hcp1 hcp2 hcell hsome hfro hW1 hW1s hW1f hW1r hdl hcur hs
  go_enter Yba.func45, Yba.ntmps45
  go_wp2_with (simp only [hov])
  go_region_law_o (refine step_copy_runI rfl _ _ 25 25 rfl _ _ (by simp [Act.eval, Act.put]) (by simp [Act.eval, Act.put]) (HC1.out _ ((i + 1) * 4) (i * 4) (n - i) (n + 1 - i) (cap - (i + 1)) (cap - i) (by omega) (by omega) (by omega) (by omega)) ?_)
  have hc2 := HC2.out W1 (fun _ => rfl) (fun _ => rfl) 3 (i * 4) (n + 1 - i) (cap - i) rfl (by omega)
  go_wp2
  go_ret
  exact ⟨rfl, HF.out _ rfl⟩

set_option maxRecDepth 100000 in
set_option maxHeartbeats 2000000 in
theorem insert_grow (base : Nat) (L : List (Nat × Nat)) (r : Nat × Nat) (vb n i g : Nat) (cur : Array Value) (w : World) (hn : L.length = n) (hL : n ≤ 65536) (hi : i < n)
    (hg : w.heap[g]? = some (.cells cur 31 (0, 0))) (hcur : cur.toList.take (n * 4) = flat L) (hr : w.heap[vb]? = some (.cells (rc r).toArray 31 (0, 0))) (hb : base ≤ w.heap.size) :
    Calls Yba.prog 45 #[.slice (some ⟨g, 0, none⟩) n n, .int .i64 (i : Int), .slice (some ⟨vb, 0, none⟩) 1 1] w fun e w' => ∃ v', e = .returned v' ∧ RPost base (.slice (some ⟨g, 0, none⟩) n n) (L.take i ++ [r] ++ L.drop i) w w' v' := by
  obtain ⟨i0, hi0, hz0, hzs, hzb⟩ := info_parts info31b
  have hz2 : ¬ ((i : Int) = (n : Int)) := by omega
  have hin : i ≤ n := by omega
  have hb4 : ¬ (n = i) := by omega
  have hw1 : IntKind.i64.wrap ((i : Int) + 1) = (i : Int) + 1 := by rw [IntKind.wrap_i64]; omega
  have hb1 : (0 : Int) ≤ (i : Int) + 1 := by omega
  have hb3 : (i : Int) + 1 ≤ (n : Int) + 1 := by omega
  have hb5 : (i : Int) ≤ (n : Int) + 1 := by omega
  have htn : ((i : Int) + 1).toNat = i + 1 := by omega
  have mixed : Yba.prog.follows .mixedOrders = true := by kernel_rfl
  have hgl := (Array.getElem?_eq_some_iff.1 hg).1
  have hvl := (Array.getElem?_eq_some_iff.1 hr).1
  have hcell : ∀ j v, (flat L)[j]? = some v → w.cell? ⟨g, j, none⟩ = some v := fun j v hj => by
    have hlt : j < n * 4 := by have := (List.getElem?_eq_some_iff.1 hj).1; rw [flat_length, hn] at this; exact this
    rw [← hcur, List.getElem?_take_of_lt hlt] at hj
    simpa [World.cell?, hg] using hj
  have hold : (Builtin.firstCells i0.size i (.slice (some ⟨g, 0, none⟩) i n)).run Yba.prog w.drew = .ok (flat (L.take i)).toArray w.drew := by
    rw [hzs]
    refine run_firstCells_some w.drew 4 i ⟨g, 0, none⟩ i n (flat (L.take i)) (by rw [flat_length, List.length_take, hn, Nat.min_eq_left hin]) (fun j v hj => ?_)
    rw [Addr.add_lit, Nat.zero_add]
    rw [← flat_take, List.getElem?_take] at hj
    split at hj
    · exact hcell j v hj
    · cases hj
  obtain ⟨G, hG⟩ : ∃ G, G = grownCap w (n + 1) n 31 := ⟨_, rfl⟩
  have hGn : n + 1 ≤ G := by rw [hG]; exact grownCap_ge w _ _ _
  have hG63 : G ≤ maxLen := by rw [hG]; exact grownCap_le_maxLen w (n + 1) n 31 (by unfold maxLen; omega)
  obtain ⟨ROW, hROW⟩ : ∃ ROW : Array Value, ROW = (flat (L.take i)).toArray ++ Builtin.zeroCells (Value.agg #[.int .u64 0, .int .u64 0, .int .u64 0, .int .u64 0]).cells (n + 1 - i) ++ Builtin.zeroCells (Value.agg #[.int .u64 0, .int .u64 0, .int .u64 0, .int .u64 0]).cells (G - (n + 1)) := ⟨_, rfl⟩
  have hRs : ROW.size = G * 4 := by
    rw [hROW]
    simp [Builtin.zeroCells, Value.cells, flat_length, hn, Nat.min_eq_left hin]
    omega
  obtain ⟨W1, hW1⟩ : ∃ W1, W1 = w.drew.alloc (.cells ROW 31) := ⟨_, rfl⟩
  have hrz : ∀ ty, (Builtin.append_ #[25, 3] ty #[.slice (some ⟨g, 0, none⟩) i n, .int .i64 ((n : Int) + 1 - (i : Int))]).run Yba.prog w = .ok (.slice (some ⟨w.heap.size, 0, none⟩) (n + 1) G) W1 := fun ty => by
    have h := Lib.run_append_grow_zeros w 25 3 ty 31 i0 _ .i64 .i64 Yba.underlying25 Yba.underlying3 hi0 hz0 (some ⟨g, 0, none⟩) i n (flat (L.take i)) hold (n + 1 - i) (by omega) (by omega) (by omega) (by omega) (by rw [hzb]; omega) (by rw [hzb]; exact growslice_fits (by omega) (by omega))
    rw [show i + (n + 1 - i) = n + 1 by omega, ← hG, ← hROW, ← hW1] at h
    rw [show (n : Int) + 1 - (i : Int) = ((n + 1 - i : Nat) : Int) by omega]
    exact h
  have hN : W1.heap[w.heap.size]? = some (.cells ROW 31 (0, 0)) := by rw [hW1]; exact heap_alloc_new w.drew _
  have hNs : ∀ j, j < G * 4 → (W1.cell? ⟨w.heap.size, j, none⟩).isSome = true := fun j hj => by simp [World.cell?, hN, hRs, hj]
  have hNf : ∀ j, W1.frozen? ⟨w.heap.size, j, none⟩ = false := fun j => by simp [World.frozen?, hN]
  have hOb : ∀ b, b < w.heap.size → W1.heap[b]? = w.heap[b]? := fun b hb => by rw [hW1]; exact Below.heap_alloc w.drew _ _ hb
  have hNt : ∀ j v, (flat (L.take i))[j]? = some v → W1.cell? ⟨w.heap.size, j, none⟩ = some v := fun j v hj => by
    have hlt := (List.getElem?_eq_some_iff.1 hj).1
    have : ROW[j]? = some v := by
      rw [hROW, Array.append_assoc, Array.getElem?_append_left (by simpa using hlt)]
      simpa using hj
    simpa [World.cell?, hN] using this
  obtain ⟨W2, hW2⟩ : ∃ W2, W2 = W1.setCells w.heap.size (i * 4) (rc r) := ⟨_, rfl⟩
  have hcA : (Builtin.copy_ #[25, 25] 3 #[.slice (some ⟨w.heap.size, i * 4, none⟩) (n + 1 - i) (G - i), .slice (some ⟨vb, 0, none⟩) 1 1]).run Yba.prog W1 = .ok (goInt (Nat.min 1 (n + 1 - i))) W2 := by
    rw [hW2]
    refine run_copy4 W1 3 w.heap.size (i * 4) (n + 1 - i) (G - i) ⟨vb, 0, none⟩ 1 1 (rc r) (by rw [show Nat.min 1 (n + 1 - i) = 1 from Nat.min_eq_left (by omega)]; rfl) (fun j v hj => ?_) (fun j hj => hNs _ (by simp [rc] at hj; omega)) (fun j _ => hNf _) (flat_one r ▸ flat_cells [r])
    have := news_rc hr j v hj
    rw [← this]
    exact World.cell?_of_block (w := w) (by rw [Addr.add_lit]; exact hOb vb hvl)
  have hdl : (flat (L.drop i)).length = (n - i) * 4 := by rw [flat_length, List.length_drop, hn]
  have h2s : ∀ j, j < G * 4 → (W2.cell? ⟨w.heap.size, j, none⟩).isSome = true := fun j hj => by
    rw [hW2]
    exact isSome_setCells w.heap.size (rc r) (i * 4) W1 (fun j hj => hNs (i * 4 + j) (by simp [rc] at hj; omega)) j (hNs j hj)
  have hcB : ∀ ty, (Builtin.copy_ #[25, 25] ty #[.slice (some ⟨w.heap.size, (i + 1) * 4, none⟩) (n - i) (G - (i + 1)), .slice (some ⟨g, i * 4, none⟩) (n - i) (n - i)]).run Yba.prog W2.drew = .ok (goInt (Nat.min (n - i) (n - i))) (W2.drew.setCells w.heap.size ((i + 1) * 4) (flat (L.drop i))) := fun ty => by
    refine run_copy4 W2.drew ty w.heap.size ((i + 1) * 4) (n - i) (G - (i + 1)) ⟨g, i * 4, none⟩ (n - i) (n - i) (flat (L.drop i)) (by rw [hdl, show Nat.min (n - i) (n - i) = n - i from Nat.min_self _]) (fun j v hj => ?_) (fun j hj => h2s _ (by rw [hdl] at hj; omega)) (fun j _ => ?_) (flat_cells _)
    · rw [Addr.add_lit]
      have h1 := hcell (i * 4 + j) v (by rw [← flat_drop, List.getElem?_drop] at hj; exact hj)
      rw [← h1]
      show W2.cell? _ = _
      rw [hW2, World.cell?_setCells_out w.heap.size _ _ _ _ (fun h _ => absurd h (by show g ≠ w.heap.size; omega))]
      exact World.cell?_of_block (w := w) (hOb g hgl)
    · show W2.frozen? _ = false
      rw [hW2, World.frozen?_setCells]
      exact hNf _
  have hfin : RPost base (.slice (some ⟨g, 0, none⟩) n n) (L.take i ++ [r] ++ L.drop i) w (W2.drew.setCells w.heap.size ((i + 1) * 4) (flat (L.drop i))) (.slice (some ⟨w.heap.size, 0, none⟩) (n + 1) G) := by
    obtain ⟨c1, hc1, hs1⟩ := heap_setCells_shape (rc r) (i * 4) W1 ROW hN
    rw [← hW2] at hc1
    obtain ⟨c2, hc2, hs2⟩ := heap_setCells_shape (flat (L.drop i)) ((i + 1) * 4) W2.drew c1 hc1
    have hlen : (L.take i ++ [r] ++ L.drop i).length = n + 1 := by simp [hn]; omega
    refine ⟨?_, ?_, .inr ⟨w.heap.size, rfl, Nat.le_refl _⟩⟩
    · rw [hlen]
      refine owns_of_cells hb hc2 hGn hG63 (by rw [hs2, hs1, hRs]) (by rw [flat_length, hlen]) (fun j v hj => ?_)
      rw [flat_append, flat_append, flat_one] at hj
      have ht : (flat (L.take i)).length = i * 4 := by rw [flat_length, List.length_take, hn, Nat.min_eq_left hin]
      have hss : ∀ j, j < (flat (L.drop i)).length → (W2.drew.cell? ⟨w.heap.size, (i + 1) * 4 + j, none⟩).isSome = true := fun j hj => h2s _ (by rw [hdl] at hj; omega)
      by_cases h1 : j < i * 4
      · rw [List.append_assoc, List.getElem?_append_left (by omega)] at hj
        refine cells_after hss (.inr ⟨.inl (by omega), ?_⟩)
        show W2.cell? _ = _
        rw [hW2]
        exact cells_after (fun j hj => hNs _ (by simp [rc] at hj; omega)) (.inr ⟨.inl h1, hNt j v hj⟩)
      · by_cases h2 : j < i * 4 + 4
        · rw [List.append_assoc, List.getElem?_append_right (by omega), ht, List.getElem?_append_left (by simp [rc]; omega)] at hj
          refine cells_after hss (.inr ⟨.inl (by omega), ?_⟩)
          show W2.cell? _ = _
          rw [hW2]
          exact cells_after (fun j hj => hNs _ (by simp [rc] at hj; omega)) (.inl ⟨by omega, hj⟩)
        · rw [List.getElem?_append_right (by rw [List.length_append, ht]; simp [rc]; omega), List.length_append, ht] at hj
          simp only [rc, List.length_cons, List.length_nil] at hj
          refine cells_after hss (.inl ⟨by omega, ?_⟩)
          rw [← hj]
          congr 1
          omega
    · have g1 : w.grownBy W2 none := by
        refine ⟨?_, ?_, ?_, ?_, fun k hk _ => ?_⟩
        · rw [hW2, (tape_setCells _ _ _ _).2.2, hW1]; rfl
        · rw [hW2, (tape_setCells _ _ _ _).1, hW1]; rfl
        · rw [hW2, (tape_setCells _ _ _ _).2.1, hW1]; rfl
        · rw [hW2, size_setCells', hW1]; simp
        · rw [hW2, World.heap_setCells_other W1 _ _ _ (by rw [hW1]; simp; omega) (by omega)]
          exact hOb k hk
      refine ⟨?_, ?_, ?_, ?_, fun k hk _ => ?_⟩
      · rw [(tape_setCells _ _ _ _).2.2]; exact g1.os
      · rw [(tape_setCells _ _ _ _).1]; exact g1.tape
      · rw [(tape_setCells _ _ _ _).2.1]; exact g1.output
      · rw [size_setCells']; exact g1.size
      · rw [World.heap_setCells_other W2.drew _ _ _ (Nat.lt_of_lt_of_le hk g1.size) (by omega)]
        exact g1.block k hk (by simp)
  have HF : Hid (RPost base (.slice (some ⟨g, 0, none⟩) n n) (L.take i ++ [r] ++ L.drop i) w (W2.drew.setCells w.heap.size ((i + 1) * 4) (flat (L.drop i))) (.slice (some ⟨w.heap.size, 0, none⟩) (n + 1) G)) := hfin
  have HZ : Hid (∀ ty, (Builtin.append_ #[25, 3] ty #[.slice (some ⟨g, 0, none⟩) i n, .int .i64 ((n : Int) + 1 - (i : Int))]).run Yba.prog w = .ok (.slice (some ⟨w.heap.size, 0, none⟩) (n + 1) G) W1) := hrz
  have HB : Hid (∀ ty, (Builtin.copy_ #[25, 25] ty #[.slice (some ⟨w.heap.size, (i + 1) * 4, none⟩) (n - i) (G - (i + 1)), .slice (some ⟨g, i * 4, none⟩) (n - i) (n - i)]).run Yba.prog W2.drew = .ok (goInt (Nat.min (n - i) (n - i))) (W2.drew.setCells w.heap.size ((i + 1) * 4) (flat (L.drop i)))) := hcB
  have hGi : ¬ (G = i) := by omega
  have hGi1 : ¬ (G = i + 1) := by omega
  have hG64 : G ≤ 9223372036854775807 := by unfold maxLen at hG63; omega
  clear hfin hrz hcB h2s hdl hNt hOb hNf hNs hN hRs hROW hold hcell hG63 hg hr hcur hW1 hW2 hG
  go_enter Yba.func45, Yba.ntmps45
  go_wp2_with (at_builtin; refine Lib.wpList_append_run _ rfl _ _ 25 3 rfl _ _ rfl rfl _ _ (HZ.out _) ?_)
  go_region_law_o (refine step_copy_runI rfl _ _ 25 25 rfl _ _ (by simp [Act.eval, Act.put]) (by simp [Act.eval, Act.put]) (HB.out _) ?_)
  go_wp2
  go_ret
  exact ⟨_, rfl, HF.out⟩

/-- 'slices.Insert(s, i, r)'. -/
theorem insert_any (base : Nat) (v : Value) (L : List (Nat × Nat)) (r : Nat × Nat) (vb n i : Nat) (w : World) (hn : L.length = n) (hL : n ≤ 65536) (hi : i ≤ n) (hv : w.ownsRow base 31 4 v n (flat L)) (hr : w.heap[vb]? = some (.cells (rc r).toArray 31 (0, 0))) (hne : v.ownBlock ≠ some vb) (hb : base ≤ w.heap.size) :
    Calls Yba.prog 45 #[v, .int .i64 (i : Int), .slice (some ⟨vb, 0, none⟩) 1 1] w fun e w' => ∃ v', e = .returned v' ∧ RPost base v (L.take i ++ [r] ++ L.drop i) w w' v' := by
  by_cases e : i = n
  · subst e
    refine (insert_end base v L r vb i w hn hL hv hr hb).mono ?_
    rintro e w' ⟨v', h1, h2⟩
    refine ⟨v', h1, ?_⟩
    rw [List.take_of_length_le (by omega), List.drop_of_length_le (by omega), List.append_nil]
    exact h2
  · rcases hv.2 with ⟨rfl, rfl⟩ | ⟨g, cap, cur, rfl, h1, h2, h3, h4, h5, h6⟩
    · omega
    · by_cases hc : n + 1 ≤ cap
      · refine (insert_shift base L r vb n i g cap cur w hn hL (by omega) hc h4 h1 h2 h5 h6 hr (fun e => hne (by rw [e]; rfl))).mono ?_
        rintro e w' ⟨h7, h8⟩
        exact ⟨_, h7, h8⟩
      · obtain rfl : cap = n := by omega
        exact insert_grow base L r vb cap i g cur w hn hL (by omega) h2 h6 hr hb

end Go.Proofs.Ybulkdlic
