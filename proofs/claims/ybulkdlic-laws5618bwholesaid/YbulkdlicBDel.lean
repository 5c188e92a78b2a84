/-
  DERIVED. alloc.LawS5618BWhole: slices.Delete OF ONE RUN.
-/
import Derived.Test.YbulkdlicBIns
namespace Go.Proofs.Ybulkdlic
open Go.RowKit

/-- 'append' whose run is known, as a step of a region that draws. -/
theorem step_append_runI {P : Program} {ops : Array Oper} {o : Oper} {a : Act} {w : World} {K : Act → World → Prop} {Q : Exit → Act → World → Prop} {E : Prop}
    (hg : o.guard = none) (d x : Operand) (dT sT : TypeId) (hop : o.op = Op.call { callee := Callee.builtin Builtin.append, args := #[d, x], argTypes := #[dT, sT] })
    (v u : Value) (hd : a.eval d = v) (hx : a.eval x = u) {v' : Value} {w' : World} (hr : (Builtin.append_ #[dT, sT] o.type #[v, u]).run P w = .ok v' w') (hK : K (a.put o.dst v') w') :
    if Region.wanted o (yielded ops a.tmps) = true then Oper.wp P o a w K Q else E := by
  have hw : Region.wanted o (yielded ops a.tmps) = true := by simp [Region.wanted, hg]
  rw [if_pos hw]
  unfold Oper.wp
  simp [execOp, hop, resolve, invoke, builtin, hd, hx, hr, Result.andThen]
  exact hK

/-- 'clear' of one run. -/
theorem run_clear4 (w : World) (ty : TypeId) (b o c : Nat) (hc : ∀ j, j < 4 → (w.cell? ⟨b, o + j, none⟩).isSome = true) (hf : ∀ j, j < 4 → w.frozen? ⟨b, o + j, none⟩ = false) :
    (Builtin.clear_ #[25] ty #[.slice (some ⟨b, o, none⟩) 1 c]).run Yba.prog w = .ok (.tuple #[]) (w.setCells b o (rc (0, 0))) := by
  have hst := run_storeCells_cells (P := Yba.prog) b o (rc (0, 0)) 0 w (fun j hj => hc j hj) (fun j hj => hf j hj) (flat_one (0, 0) ▸ flat_cells [(0, 0)])
  simp only [Nat.add_zero] at hst
  obtain ⟨i, hi, hz0, hz1, hz2⟩ := info_parts info31b
  have hz : (Builtin.zeroCells (Value.agg #[.int .u64 0, .int .u64 0, .int .u64 0, .int .u64 0]).cells 1).toList = rc (0, 0) := by kernel_rfl
  simp [Builtin.clear_, run_underlying Yba.underlying25, zeroValue, typeInfo, hi, hz0, hz, hst]

set_option maxRecDepth 100000 in
set_option maxHeartbeats 2000000 in
theorem delete_at (base : Nat) (L : List (Nat × Nat)) (m i g cap : Nat) (cur : Array Value) (w : World) (hn : L.length = m + 1) (hL : m ≤ 65536) (hi : i ≤ m) (hroom : m + 1 ≤ cap) (hc : cap ≤ maxLen)
    (hbg : base ≤ g) (hg : w.heap[g]? = some (.cells cur 31 (0, 0))) (hs : cur.size = cap * 4) (hcur : cur.toList.take ((m + 1) * 4) = flat L) :
    Calls Yba.prog 42 #[.slice (some ⟨g, 0, none⟩) (m + 1) cap, .int .i64 (i : Int), .int .i64 ((i : Int) + 1)] w fun e w' => e = .returned (.slice (some ⟨g, 0, none⟩) m cap) ∧ RPost base (.slice (some ⟨g, 0, none⟩) (m + 1) cap) (L.take i ++ L.drop (i + 1)) w w' (.slice (some ⟨g, 0, none⟩) m cap) := by
  obtain ⟨i0, hi0, hz0, hzs, hzb⟩ := info_parts info31b
  have hc63 : cap ≤ 9223372036854775807 := by unfold maxLen at hc; omega
  have hb1 : (0 : Int) ≤ (i : Int) + 1 := by omega
  have hb3 : (i : Int) + 1 ≤ (m : Int) + 1 := by omega
  have hb5 : (i : Int) ≤ (i : Int) + 1 := by omega
  have hb6 : ¬ ((i : Int) = (i : Int) + 1) := by omega
  have hb7 : ((i : Int) == (i : Int) + 1) = false := by simp; omega
  have htn : ((i : Int) + 1).toNat = i + 1 := by omega
  have hin : i ≤ m + 1 := by omega
  have hic : i ≤ cap := by omega
  have hcm : ¬ (cap = m) := by omega
  have hmc : m + 1 ≤ cap := hroom
  have mixed : Yba.prog.follows .mixedOrders = true := by kernel_rfl
  have hdl : (flat (L.drop (i + 1))).length = (m - i) * 4 := by rw [flat_length, List.length_drop, hn]; omega
  have hcell : ∀ j v, (flat L)[j]? = some v → w.cell? ⟨g, j, none⟩ = some v := fun j v hj => by
    have hlt : j < (m + 1) * 4 := by have := (List.getElem?_eq_some_iff.1 hj).1; rw [flat_length, hn] at this; exact this
    rw [← hcur, List.getElem?_take_of_lt hlt] at hj
    simpa [World.cell?, hg] using hj
  have hsome : ∀ j, j < cap * 4 → (w.cell? ⟨g, j, none⟩).isSome = true := fun j hj => by simp [World.cell?, hg, hs, hj]
  have hfro : ∀ j, w.frozen? ⟨g, j, none⟩ = false := fun j => by simp [World.frozen?, hg]
  obtain ⟨W1, hW1⟩ : ∃ W1, W1 = w.drew.setCells g (i * 4) (flat (L.drop (i + 1))) := ⟨_, rfl⟩
  have hap : ∀ ty o c, (o = (i + 1) * 4 ∨ m = i) → (Builtin.append_ #[25, 25] ty #[.slice (some ⟨g, 0, none⟩) i cap, .slice (some ⟨g, o, none⟩) (m - i) c]).run Yba.prog w.drew = .ok (.slice (some ⟨g, 0, none⟩) m cap) W1 := fun ty o c ho => by
    have hsrc : Src Yba.prog i0.size 25 (.slice (some ⟨g, o, none⟩) (m - i) c) (m - i) (flat (L.drop (i + 1))) w.drew := by
      rw [hzs]
      refine Src.ofSlice w.drew Yba.underlying25 ⟨g, o, none⟩ (m - i) c (flat (L.drop (i + 1))) (by rw [hdl]) (fun j u hj => ?_) (flat_cells _)
      have hlt := (List.getElem?_eq_some_iff.1 hj).1
      rw [hdl] at hlt
      have ho' : o = (i + 1) * 4 := by omega
      subst ho'
      rw [Addr.add_lit]
      exact hcell ((i + 1) * 4 + j) u (by rw [← flat_drop, List.getElem?_drop] at hj; exact hj)
    have h := run_append_room_src w.drew 25 25 ty 31 i0 Yba.underlying25 hi0 g 0 i cap _ (m - i) (flat (L.drop (i + 1))) hsrc (by omega) (fun j hj => hsome _ (by rw [hdl] at hj; rw [hzs]; omega)) (fun j _ => hfro _)
    rw [hzs, Nat.zero_add, show i + (m - i) = m by omega, ← hW1] at h
    exact h
  have h1s : ∀ j, j < cap * 4 → (W1.cell? ⟨g, j, none⟩).isSome = true := fun j hj => by
    rw [hW1]
    exact isSome_setCells g (flat (L.drop (i + 1))) (i * 4) w.drew (fun j hj => hsome (i * 4 + j) (by rw [hdl] at hj; omega)) j (hsome j hj)
  have hcl := run_clear4 W1 0 g (m * 4) (cap - m) (fun j hj => h1s _ (by omega)) (fun j _ => by rw [hW1, World.frozen?_setCells]; exact hfro _)
  have hfin : RPost base (.slice (some ⟨g, 0, none⟩) (m + 1) cap) (L.take i ++ L.drop (i + 1)) w (W1.setCells g (m * 4) (rc (0, 0))) (.slice (some ⟨g, 0, none⟩) m cap) := by
    obtain ⟨c1, hc1, hs1⟩ := heap_setCells_shape (flat (L.drop (i + 1))) (i * 4) w.drew cur hg
    rw [← hW1] at hc1
    obtain ⟨c2, hc2, hs2⟩ := heap_setCells_shape (rc (0, 0)) (m * 4) W1 c1 hc1
    have hlen : (L.take i ++ L.drop (i + 1)).length = m := by simp [hn]; omega
    refine ⟨?_, ?_, .inl rfl⟩
    · rw [hlen]
      refine owns_of_cells hbg hc2 (by omega) hc (by rw [hs2, hs1, hs]) (by rw [flat_length, hlen]) (fun j v hj => ?_)
      have hjl := (List.getElem?_eq_some_iff.1 hj).1
      rw [flat_length, hlen] at hjl
      rw [flat_append, ← flat_take] at hj
      have ht : ((flat L).take (i * 4)).length = i * 4 := by rw [List.length_take, flat_length, hn]; omega
      refine cells_after (fun j hj => h1s _ (by simp [rc] at hj; omega)) (.inr ⟨.inl (by omega), ?_⟩)
      rw [hW1]
      by_cases h1 : j < i * 4
      · rw [List.getElem?_append_left (by omega), List.getElem?_take_of_lt h1] at hj
        exact cells_after (fun j hj => hsome _ (by rw [hdl] at hj; omega)) (.inr ⟨.inl h1, hcell j v hj⟩)
      · rw [List.getElem?_append_right (by omega), ht] at hj
        exact cells_after (fun j hj => hsome _ (by rw [hdl] at hj; omega)) (.inl ⟨by omega, hj⟩)
    · have g1 : w.grownBy W1 (some g) := by
        have := grown_setCells w.drew g (i * 4) (flat (L.drop (i + 1)))
        rw [← hW1] at this
        exact ⟨this.os, this.tape, this.output, this.size, this.block⟩
      have g2 := grown_setCells W1 g (m * 4) (rc (0, 0))
      exact ⟨g2.os.trans g1.os, g2.tape.trans g1.tape, g2.output.trans g1.output, Nat.le_trans g1.size g2.size, fun k hk hne => (g2.block k (Nat.lt_of_lt_of_le hk g1.size) hne).trans (g1.block k hk hne)⟩
  have HF : Hid (RPost base (.slice (some ⟨g, 0, none⟩) (m + 1) cap) (L.take i ++ L.drop (i + 1)) w (W1.setCells g (m * 4) (rc (0, 0))) (.slice (some ⟨g, 0, none⟩) m cap)) := hfin
  have HA : Hid (∀ ty o c, (o = (i + 1) * 4 ∨ m = i) → (Builtin.append_ #[25, 25] ty #[.slice (some ⟨g, 0, none⟩) i cap, .slice (some ⟨g, o, none⟩) (m - i) c]).run Yba.prog w.drew = .ok (.slice (some ⟨g, 0, none⟩) m cap) W1) := hap
  clear hfin hap h1s hcell hsome hfro hW1 hdl hg hs hcur
  by_cases hci : cap = i + 1
  · obtain rfl : m = i := by omega
    subst hci
    have HA0 := HA.out 25 0 0 (.inr rfl)
    rw [Nat.sub_self] at HA0
    have HA1 : Hid ((Builtin.append_ #[25, 25] 25 #[.slice (some ⟨g, 0, none⟩) m (m + 1), .slice (some ⟨g, 0, none⟩) 0 0]).run Yba.prog w.drew = .ok (.slice (some ⟨g, 0, none⟩) m (m + 1)) W1) := HA0
    clear HA0 HA
    have hcl2 := hcl
    rw [show m + 1 - m = 1 by omega] at hcl2
    go_enter Yba.func42, Yba.ntmps42
    go_wp2
    go_region_law_o (refine step_append_runI rfl _ _ 25 25 rfl _ _ (by simp [Act.eval, Act.put]) (by simp [Act.eval, Act.put]) HA1.out ?_)
    go_wp2
    go_ret
    exact ⟨rfl, HF.out⟩
  · go_enter Yba.func42, Yba.ntmps42
    go_wp2
    go_region_law_o (refine step_append_runI rfl _ _ 25 25 rfl _ _ (by simp [Act.eval, Act.put]) (by simp [Act.eval, Act.put]) (HA.out _ ((i + 1) * 4) (cap - (i + 1)) (.inl rfl)) ?_)
    go_wp2
    go_ret
    exact ⟨rfl, HF.out⟩

/-- 'slices.Delete(s, i, i+1)'. -/
theorem delete_any (base : Nat) (v : Value) (L : List (Nat × Nat)) (n i : Nat) (w : World) (hn : L.length = n) (hL : n ≤ 65536) (hi : i < n) (hv : w.ownsRow base 31 4 v n (flat L)) :
    Calls Yba.prog 42 #[v, .int .i64 (i : Int), .int .i64 ((i : Int) + 1)] w fun e w' => ∃ v', e = .returned v' ∧ RPost base v (L.take i ++ L.drop (i + 1)) w w' v' := by
  obtain ⟨m, rfl⟩ : ∃ m, n = m + 1 := ⟨n - 1, by omega⟩
  rcases hv.2 with ⟨_, h0⟩ | ⟨g, cap, cur, rfl, h1, h2, h3, h4, h5, h6⟩
  · omega
  · refine (delete_at base L m i g cap cur w hn (by omega) (by omega) h3 h4 h1 h2 h5 h6).mono ?_
    rintro e w' ⟨h7, h8⟩
    exact ⟨_, h7, h8⟩

end Go.Proofs.Ybulkdlic
