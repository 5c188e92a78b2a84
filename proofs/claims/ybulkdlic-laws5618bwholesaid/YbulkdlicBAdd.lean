/-
  DERIVED. alloc.LawS5618BWhole: (*freeSet).addRange.
-/
import Derived.Test.YbulkdlicBJoin
namespace Go.Proofs.Ybulkdlic
open Go.RowKit

attribute [local go_sem ↓] Go.wp_at_zero Go.wp_at_succ

theorem elem25 : Yba.prog.elem 25 = 31 := by kernel_rfl
theorem size31 (W : World) : (sizeOf 31).run Yba.prog W = .ok 4 W := by kernel_rfl
def fst (L : List (Nat × Nat)) (k : Nat) : Nat := (L.getD k (0, 0)).1
def lst (L : List (Nat × Nat)) (k : Nat) : Nat := (L.getD k (0, 0)).2
theorem getD_at {L : List (Nat × Nat)} {k : Nat} (h : k < L.length) : L[k]? = some (fst L k, lst L k) := by
  unfold fst lst
  rw [List.getD_eq_getElem?_getD, List.getElem?_eq_getElem h]
  rfl
/-- A row as the search reads it. -/
theorem row_view {w : World} {base n : Nat} {v : Value} {L : List (Nat × Nat)} (h : w.ownsRow base 31 4 v n (flat L)) (hn : L.length = n) :
    ∃ g p cp, v = .slice p n cp ∧ (∀ (k : Nat), k < n → ∀ W, (Instr.indexAt 25 (.slice p n cp) (.int .i64 k)).run Yba.prog W = .ok (.pointer (some ⟨g, k * 4, none⟩)) W) ∧
      ∀ k, k < n → w.cell? ⟨g, k * 4, none⟩ = some (.int .u64 0) ∧ w.cell? ⟨g, k * 4 + 1, none⟩ = some (.int .u64 (fst L k : Int)) ∧ w.cell? ⟨g, k * 4 + 2, none⟩ = some (.int .u64 0) ∧ w.cell? ⟨g, k * 4 + 3, none⟩ = some (.int .u64 (lst L k : Int)) := by
  rcases h.2 with ⟨rfl, rfl⟩ | ⟨g, cp, cur, rfl, _⟩
  · exact ⟨0, none, 0, rfl, fun k hk => by omega, fun k hk => by omega⟩
  · refine ⟨g, _, cp, rfl, fun k hk W => ?_, fun k hk => own_cells h (getD_at (by omega))⟩
    rw [run_indexAt_slice W 25 ⟨g, 0, none⟩ n cp .i64 k (by rw [elem25]; exact Yba.underlying25), if_pos (by omega), elem25, size31]
    simp [Result.andThen, Addr.add]
    intro e; omega

theorem fro_below {W w' : World} {b o : Nat} {v : Value} (h : W.cell? ⟨b, o, none⟩ = some v) (hf : ∀ i, W.frozen? ⟨b, i, none⟩ = false) (hb : Below W.heap.size W w') : ∀ i, w'.frozen? ⟨b, i, none⟩ = false := frozen_later h hf hb

theorem joinAt_mem (P : Nat → Prop) : ∀ (i : Nat) (L : List (Nat × Nat)), (∀ r ∈ L, P r.2) → ∀ r ∈ joinAt i L, P r.2
  | 0, [], h => h
  | 0, [_], h => h
  | 0, a :: b :: t, h => by
    unfold joinAt
    split
    · intro r hr
      simp only [List.mem_cons] at hr
      rcases hr with rfl | hr
      · exact h b (by simp)
      · exact h r (by simp [hr])
    · exact h
  | i + 1, [], h => h
  | i + 1, a :: t, h => by
    unfold joinAt
    intro r hr
    simp only [List.mem_cons] at hr
    rcases hr with rfl | hr
    · exact h r (by simp)
    · exact joinAt_mem P i t (fun r hr => h r (by simp [hr])) r hr
theorem joinAt_length : ∀ (i : Nat) (L : List (Nat × Nat)), (joinAt i L).length ≤ L.length
  | 0, [] => Nat.le_refl _
  | 0, [_] => Nat.le_refl _
  | 0, a :: b :: t => by unfold joinAt; split <;> simp
  | i + 1, [] => Nat.le_refl _
  | i + 1, a :: t => by unfold joinAt; simpa using joinAt_length i t

theorem FS.set_count {base FB fo : Nat} {L : List (Nat × Nat)} {c : Nat} {v : Value} {w w5 : World} (h0 : FS base FB fo L c v w) (hb : Below w.heap.size w w5) (c' : Nat) :
    FS base FB fo L c' v ((w5.setCell ⟨FB, fo + 1, none⟩ (.int .u64 0)).setCell ⟨FB, fo + 1 + 1, none⟩ (.int .u64 (c' : Int))) ∧ FU FB fo v w ((w5.setCell ⟨FB, fo + 1, none⟩ (.int .u64 0)).setCell ⟨FB, fo + 1 + 1, none⟩ (.int .u64 (c' : Int))) v := by
  have h := h0.below hb
  refine ⟨⟨?_, ?_, ?_, fun i => ?_, ?_, h.lt, ?_⟩, (FU.of_below hb h0.lt').trans ((FU.store (v := v) 1 (by omega) _).trans (FU.store (v := v) 2 (by omega) _))⟩
  · rw [World.cell?_setCell_other _ _ _ _ (by simp), World.cell?_setCell_other _ _ _ _ (by simp)]; exact h.run
  · rw [World.cell?_setCell_other _ _ _ _ (by simp)]; exact World.cell?_setCell_same' _ _ _ (by rw [h.chi]; rfl)
  · refine World.cell?_setCell_same' _ _ _ ?_
    rw [World.cell?_setCell_other _ _ _ _ (by simp)]
    have := h.clo
    rw [show fo + 1 + 1 = fo + 2 from rfl, this]
    rfl
  · rw [World.frozen?_setCell, World.frozen?_setCell]; exact h.fro i
  · exact ownsRow_setCell_below (ownsRow_setCell_below h.own (show FB < base from h.lt) _) (show FB < base from h.lt) _
  · simp; exact h.bs

theorem join_pred {base FB fo i : Nat} {M : List (Nat × Nat)} {c : Nat} {v : Value} {w : World} (hi : 0 < i) (hM : ∀ r ∈ M, r.2 + 1 < 18446744073709551616) (hl : M.length ≤ 65536 ∧ i ≤ 65536) (h : FS base FB fo (joinAt i M) c v w) :
    Calls Yba.prog 57 #[.pointer (some ⟨FB, fo, none⟩), .int .i64 ((i : Int) - 1)] w fun e w' => e = .returned (.tuple #[]) ∧ ∃ v', FS base FB fo (joinAt (i - 1) (joinAt i M)) c v' w' ∧ FU FB fo v w w' v' := by
  have := join_any base FB fo (i - 1) (joinAt i M) c v w (Nat.le_trans (joinAt_length i M) hl.1) (joinAt_mem (fun x => x + 1 < 18446744073709551616) i M hM) h (by omega)
  rwa [show (((i - 1 : Nat)) : Int) = (i : Int) - 1 by omega] at this

/-- Behind Insert, ahead of the store. -/
theorem ins_row {base FB fo n i f l c : Nat} {L : List (Nat × Nat)} {v v3 : Value} {w' W w3 : World} (hn : L.length = n) (h : FS base FB fo L c v w') (hW : Below w'.heap.size w' W) (hP : RPost base v (L.take i ++ [(f, l)] ++ L.drop i) W w3 v3) :
    (∃ p3 cp3, v3 = .slice p3 (n + 1) cp3) ∧ (FS base FB fo (L.take i ++ [(f, l)] ++ L.drop i) c v3 (w3.setCell ⟨FB, fo, none⟩ v3) ∧ FU FB fo v w' (w3.setCell ⟨FB, fo, none⟩ v3) v3) ∧ w3.cell? ⟨FB, fo, none⟩ = some v ∧ ∀ i, w3.frozen? ⟨FB, i, none⟩ = false := by
  obtain ⟨h1, h2, h3, h4⟩ := (h.below hW).row hP
  obtain ⟨p3, cp3, hv⟩ := own_form hP.own
  refine ⟨⟨p3, cp3, ?_⟩, ⟨h1, (FU.of_below hW h.lt').trans h2⟩, h3, h4⟩
  rw [hv]
  congr 1
  simp
  omega

/-- What addRange makes of the runs. -/
def addL (L : List (Nat × Nat)) (i : Nat) (r : Nat × Nat) : List (Nat × Nat) := if 0 < i then joinAt (i - 1) (joinAt i (L.take i ++ [r] ++ L.drop i)) else joinAt i (L.take i ++ [r] ++ L.drop i)

set_option maxRecDepth 100000 in
set_option maxHeartbeats 2000000 in
theorem addRange_any (base FB fo i f l : Nat) (L : List (Nat × Nat)) (c : Nat) (v : Value) (w : World) (hL : L.length ≤ 65000) (hbd : ∀ r ∈ L, r.2 + 1 < 18446744073709551616) (h : FS base FB fo L c v w)
    (hi : i ≤ L.length) (hlo : ∀ k, k < i → fst L k < f) (hhi : ∀ k, i ≤ k → k < L.length → f ≤ fst L k) (hfl : f ≤ l) (hl : l + 1 < 18446744073709551616) (hc : c + (l - f + 1) < 18446744073709551616) :
    Calls Yba.prog 37 #[.pointer (some ⟨FB, fo, none⟩), .agg #[.int .u64 0, .int .u64 (f : Int), .int .u64 0, .int .u64 (l : Int)]] w fun e w' => e = .returned (.tuple #[]) ∧ ∃ v', FS base FB fo (addL L i (f, l)) (c + (l - f + 1)) v' w' ∧ FU FB fo v w w' v' := by
  obtain ⟨n, hn⟩ : ∃ n, L.length = n := ⟨_, rfl⟩
  obtain ⟨g, p, cp, rfl, hix, hcs⟩ := row_view (w := w) (n := n) (by have := h.own; rwa [hn] at this) hn
  -- the world with the boxed r
  have hW0 : Below w.heap.size w (w.alloc (.cells #[.int .u64 0, .int .u64 (f : Int), .int .u64 0, .int .u64 (l : Int)] 31)) := (Below.refl _ w).alloc (Nat.le_refl _) _
  have hF0 := h.below hW0
  have hrun := hF0.run
  have hbs := bsfirst n cp g i p (fst L) (lst L) f (w.alloc (.cells #[.int .u64 0, .int .u64 (f : Int), .int .u64 0, .int .u64 (l : Int)] 31)).drew (by omega) hix (fun k hk => ⟨keepA _ (hcs k hk).1, keepA _ (hcs k hk).2.1, keepA _ (hcs k hk).2.2.1, keepA _ (hcs k hk).2.2.2⟩) (by omega) hlo (fun k h1 h2 => hhi k h1 (by omega))
  have HF0 : Hid (FS base FB fo L c (.slice p n cp) (w.alloc (.cells #[.int .u64 0, .int .u64 (f : Int), .int .u64 0, .int .u64 (l : Int)] 31))) := hF0
  have hS : ∀ w', Below (w.alloc (.cells #[.int .u64 0, .int .u64 (f : Int), .int .u64 0, .int .u64 (l : Int)] 31)).heap.size (w.alloc (.cells #[.int .u64 0, .int .u64 (f : Int), .int .u64 0, .int .u64 (l : Int)] 31)) w' → w'.cell? ⟨FB, fo, none⟩ = some (.slice p n cp) ∧ w'.cell? ⟨w.heap.size, 0, none⟩ = some (.int .u64 0) ∧ w'.cell? ⟨w.heap.size, 1, none⟩ = some (.int .u64 (f : Int)) ∧ Below (w.alloc (.cells #[.int .u64 0, .int .u64 (f : Int), .int .u64 0, .int .u64 (l : Int)] 31)).heap.size (w.alloc (.cells #[.int .u64 0, .int .u64 (f : Int), .int .u64 0, .int .u64 (l : Int)] 31)) w' := fun w' hb =>
    ⟨cell_below hrun hb, cell_below (newAt rfl rfl) hb, cell_below (newAt rfl rfl) hb, hb⟩
  clear hF0 hcs hix
  go_enter Yba.func37, Yba.ntmps37
  go_wp2
  go_region_held3 (fun w' => w'.cell? ⟨FB, fo, none⟩ = some (.slice p n cp) ∧ w'.cell? ⟨w.heap.size, 0, none⟩ = some (.int .u64 0) ∧ w'.cell? ⟨w.heap.size, 1, none⟩ = some (.int .u64 (f : Int)) ∧ Below (w.alloc (.cells #[.int .u64 0, .int .u64 (f : Int), .int .u64 0, .int .u64 (l : Int)] 31)).heap.size (w.alloc (.cells #[.int .u64 0, .int .u64 (f : Int), .int .u64 0, .int .u64 (l : Int)] 31)) w')
    (first | exact hS _ (Below.refl _ _).drew | exact hS _ (((Below.refl _ _).drew).trans hB'))
    (first | (go_at_call 40; refine hbs.mono ?_; rintro e w' ⟨⟨fb, rfl, -⟩, hB'⟩))
  rename_i hHeld
  obtain ⟨-, -, -, e2⟩ := id hHeld
  clear hHeld hB' hbs hS hrun
  have hF1 := HF0.out.below e2
  have hU1 := FU.of_below (FB := FB) (fo := fo) (v := .slice p n cp) (hW0.trans (e2.mono (by simp))) h.lt'
  have y0 : w'.cell? ⟨w.heap.size, 0, none⟩ = some (.int .u64 0) := cell_below (newAt rfl rfl) e2
  have y1 : w'.cell? ⟨w.heap.size, 1, none⟩ = some (.int .u64 (f : Int)) := cell_below (newAt rfl rfl) e2
  have y2 : w'.cell? ⟨w.heap.size, 2, none⟩ = some (.int .u64 0) := cell_below (newAt rfl rfl) e2
  have y3 : w'.cell? ⟨w.heap.size, 3, none⟩ = some (.int .u64 (l : Int)) := cell_below (newAt rfl rfl) e2
  have hrun := hF1.run
  have HI : Hid (∀ W, Below w'.heap.size w' W → W.heap[w'.heap.size]? = some (.cells (rc (f, l)).toArray 31 (0, 0)) → Calls Yba.prog 45 #[.slice p n cp, .int .i64 (i : Int), .slice (some ⟨w'.heap.size, 0, none⟩) 1 1] W fun e w'' => ∃ v', e = .returned v' ∧ RPost base (.slice p n cp) (L.take i ++ [(f, l)] ++ L.drop i) W w'' v') := fun W hW hr => by
    have hFW := hF1.below hW
    refine insert_any base (.slice p n cp) L (f, l) w'.heap.size n i W hn (by omega) (by omega) (by have := hFW.own; rwa [hn] at this) hr (fun e => ?_) hFW.bs
    rcases hF1.own.2 with ⟨h1, _⟩ | ⟨g', cp', cur', h1, _, h3, _⟩
    · rw [h1] at e; simp [Value.ownBlock] at e
    · rw [h1] at e
      simp [Value.ownBlock] at e
      have := (Array.getElem?_eq_some_iff.1 h3).1
      omega
  have lF : FB < w'.heap.size := hF1.lt'
  have lR : w.heap.size < w'.heap.size := World.block_lt_of_cell? _ _ y0
  have HF1 : Hid (FS base FB fo L c (.slice p n cp) w' ∧ FU FB fo (.slice p n cp) w w' (.slice p n cp)) := ⟨hF1, hU1⟩
  have HL : Hid (FB < w.heap.size) := h.lt'
  have HR : Hid (some w.heap.size ≠ (Value.slice p n cp).ownBlock) := by
    intro e
    rcases h.own.2 with ⟨h1, _⟩ | ⟨g', cp', cur', h1, _, h3, _⟩
    · rw [h1] at e; simp [Value.ownBlock] at e
    · rw [h1] at e
      simp [Value.ownBlock] at e
      have := (Array.getElem?_eq_some_iff.1 h3).1
      omega
  have HSz := size_nat f l hfl hl
  have HAd : ∀ w, Calls Yba.prog 38 #[.agg #[.int .u64 0, .int .u64 (c : Int)], .agg #[.int .u64 0, .int .u64 ((l : Int) - (f : Int) + 1)]] w fun e w' => e = .returned (.agg #[.int .u64 0, .int .u64 ((c : Int) + ((l : Int) - (f : Int) + 1))]) ∧ Below w.heap.size w w' := fun w => by
    have := add_nat c (l - f + 1) (by omega) w
    rwa [show (((l - f + 1 : Nat)) : Int) = (l : Int) - (f : Int) + 1 by omega] at this
  have HM : Hid (∀ r ∈ L.take i ++ [(f, l)] ++ L.drop i, r.2 + 1 < 18446744073709551616) := fun r hr => by
    simp only [List.mem_append, List.mem_singleton] at hr
    rcases hr with (hr | hr) | hr
    · exact hbd r (List.mem_of_mem_take hr)
    · subst hr; exact hl
    · exact hbd r (List.mem_of_mem_drop hr)
  clear hF1 hU1 e2 HF0 hW0 h hlo hhi
  go_wp2
  go_region_with (go_at_call 45; refine (HI.out _ (by first | exact ((Below.refl _ _).drew).alloc (Nat.le_refl _) _ | exact ((Below.refl _ _).alloc (Nat.le_refl _) _).drew) (by first | exact heap_alloc_new _ _ | exact heap_alloc_new w' _)).mono ?_; rintro e w3 ⟨v3, rfl, hP⟩; obtain ⟨hF3, hU3, c3, f3⟩ := ins_row hn HF1.out.1 (by first | exact ((Below.refl _ _).drew).alloc (Nat.le_refl _) _ | exact ((Below.refl _ _).alloc (Nat.le_refl _) _).drew) hP; obtain ⟨p3, cp3, hv3⟩ := hF3; subst hv3; obtain ⟨hF4, hU4⟩ := hU3; have H3 : Hid (FS base FB fo (L.take i ++ [(f, l)] ++ L.drop i) c (.slice p3 (n + 1) cp3) (w3.setCell ⟨FB, fo, none⟩ (.slice p3 (n + 1) cp3)) ∧ FU FB fo (.slice p n cp) w' (w3.setCell ⟨FB, fo, none⟩ (.slice p3 (n + 1) cp3)) (.slice p3 (n + 1) cp3)) := ⟨hF4, hU4⟩; have hb3 : Below w'.heap.size w' w' := Below.refl _ _; clear hF4 hU4 hP)
  all_goals
    have hF3 := H3.out.1
    have hU3 := HF1.out.2.trans H3.out.2
    have hbR := H3.out.2.block w.heap.size lR (by have := HL.out; omega) HR.out
    have u0 := (World.cell?_of_block (a := ⟨w.heap.size, 0, none⟩) (w := w') hbR).trans y0
    have u1 := (World.cell?_of_block (a := ⟨w.heap.size, 1, none⟩) (w := w') hbR).trans y1
    have u2 := (World.cell?_of_block (a := ⟨w.heap.size, 2, none⟩) (w := w') hbR).trans y2
    have u3 := (World.cell?_of_block (a := ⟨w.heap.size, 3, none⟩) (w := w') hbR).trans y3
    clear H3 hbR c3 f3 hb3 y0 y1 y2 y3 hrun lF lR
    revert hF3 hU3 u0 u1 u2 u3
    generalize w3.setCell ⟨FB, fo, none⟩ (.slice p3 (n + 1) cp3) = W
    intro hF3 hU3 u0 u1 u2 u3
    have k1 := hF3.chi
    have k2 := hF3.clo
    have kf := hF3.fro
    have HF3 : Hid (FS base FB fo (L.take i ++ [(f, l)] ++ L.drop i) c (.slice p3 (n + 1) cp3) W ∧ FU FB fo (.slice p n cp) w W (.slice p3 (n + 1) cp3)) := ⟨hF3, hU3⟩
    clear hF3 hU3
    go_wp2
    go_region_with (first | (go_at_call 39; refine (HSz _).mono ?_; rintro e w4 ⟨rfl, hB4⟩; have q1 := cell_below (W := W.drew) k1 hB4; have q2 := cell_below (W := W.drew) k2 hB4; have qf := fro_below (W := W.drew) k1 kf hB4) | (go_at_call 38; refine (HAd _).mono ?_; rintro e w5 ⟨rfl, hB5⟩; have r1 := cell_below q1 hB5; have r2 := cell_below q2 hB5; have rf := fro_below q1 qf hB5))
    all_goals
      obtain ⟨hF6, hU6⟩ := HF3.out.1.set_count (((Below.refl _ W).drew.trans hB4).trans (hB5.mono hB4.size)) (c + (l - f + 1))
      rw [show ((c + (l - f + 1) : Nat) : Int) = (c : Int) + ((l : Int) - (f : Int) + 1) by omega] at hF6 hU6
      have hU7 := HF3.out.2.trans hU6
      clear hU6 HF3 hB4 hB5 q1 q2 qf r1 r2 rf k1 k2 kf u0 u1 u2 u3
      revert hF6 hU7
      generalize (w5.setCell ⟨FB, fo + 1, none⟩ (.int .u64 0)).setCell ⟨FB, fo + 1 + 1, none⟩ (.int .u64 ((c : Int) + ((l : Int) - (f : Int) + 1))) = W6
      intro hF6 hU7
      have hJ := join_any base FB fo i (L.take i ++ [(f, l)] ++ L.drop i) (c + (l - f + 1)) _ W6 (by simp; omega) HM.out hF6 (by omega)
      have HU7 : Hid (FU FB fo (.slice p n cp) w W6 (.slice p3 (n + 1) cp3)) := hU7
      clear hF6 hU7
      by_cases hi0 : 0 < i
      · have hi0I : (0 : Int) < (i : Int) := by omega
        have hid : decide ((0 : Int) < (i : Int)) = true := by simpa using hi0I
        go_wp2_with (first | (go_at_call_of 57 (Value.int .i64 (i : Int)); refine hJ.mono ?_; clear hJ; rintro e w7 ⟨rfl, v7, hF7, hU8⟩; have HJ2 := join_pred (i := i) hi0 HM.out (by simp; omega) hF7; have HU8 : Hid (FU FB fo (.slice p3 (n + 1) cp3) W6 w7 v7) := hU8; clear hU8 hF7) | (go_at_call 57; refine HJ2.mono ?_; clear HJ2; rintro e w8 ⟨rfl, v8, hF8, hU9⟩))
        exact bodyPost_end (results_none rfl _ _ _) rfl ⟨rfl, v8, by unfold addL; rw [if_pos hi0]; exact hF8, HU7.out.trans (HU8.out.trans hU9)⟩
      · have hi0I : ¬ (0 : Int) < (i : Int) := by omega
        have hid : decide ((0 : Int) < (i : Int)) = false := by simpa using hi0I
        go_wp2_with (go_at_call 57; refine hJ.mono ?_; clear hJ; rintro e w7 ⟨rfl, v7, hF7, hU8⟩)
        exact bodyPost_end (results_none rfl _ _ _) rfl ⟨rfl, v7, by unfold addL; rw [if_neg hi0]; exact hF7, HU7.out.trans hU8⟩

end Go.Proofs.Ybulkdlic
