/-
  DERIVED. alloc.LawS5618BWhole: (*Pool).Release.
-/
import Derived.Test.YbulkdlicBGrant
namespace Go.Proofs.Ybulkdlic
open Go.RowKit

attribute [local go_sem ↓] Go.wp_at_zero Go.wp_at_succ

/-- What Release leaves: every block that is none of the pool's. -/
structure RF (M n : Nat) (vv : Nat → Value) (w w' : World) : Prop where
  os : w'.os = w.os
  tape : w'.tape = w.tape
  output : w'.output = w.output
  size : w.heap.size ≤ w'.heap.size
  block : ∀ j, j < w.heap.size → ¬ (M ≤ j ∧ j ≤ M + 3) → (∀ t, t < n → (vv t).ownBlock ≠ some j) → w'.heap[j]? = w.heap[j]?

section
variable {M n : Nat} {rev : Bool} {F Z : Nat → Nat} {pb : Option Addr} {cap BB k : Nat} {LL : Nat → List (Nat × Nat)} {cc : Nat → Nat} {vv : Nat → Value} {h : List UInt8 → Option Nat} {hs : Nat} {g : Nat → Bool} {gs sz : Nat} {w w' w'' : World}

theorem RF.of_below (hb : Below w.heap.size w w') : RF M n vv w w' := ⟨hb.os, hb.tape, hb.output, hb.size, fun j hj _ _ => hb.block j hj⟩
theorem RF.of_maps {b : Nat} (hb : b = M ∨ b = M + 1) (hg : w.grownBy w' (some b)) : RF M n vv w w' :=
  ⟨hg.os, hg.tape, hg.output, hg.size, fun j hj hc _ => hg.block j hj (fun e => by cases e; omega)⟩
theorem RF.of_fu {q : Nat} (hq : q < n) {v' : Value} (u : FU (M + 2) (q * 7 + 4) (vv q) w w' v') : RF M n vv w w' :=
  ⟨u.os, u.tape, u.output, u.size, fun j hj hc hv => u.block j hj (by omega) (fun e => hv q hq e.symm)⟩
theorem RF.trans (h1 : RF M n vv w w') (h2 : RF M n vv w' w'') : RF M n vv w w'' :=
  ⟨h2.os.trans h1.os, h2.tape.trans h1.tape, h2.output.trans h1.output, Nat.le_trans h1.size h2.size, fun j hj hc hv => (h2.block j (Nat.lt_of_lt_of_le hj h1.size) hc hv).trans (h1.block j hj hc hv)⟩
theorem RF.set_new (hk : RF M n vv w w') {b o : Nat} {u : Value} (hb : w.heap.size ≤ b) : RF M n vv w (w'.setCell ⟨b, o, none⟩ u) :=
  ⟨hk.os, hk.tape, hk.output, by simpa using hk.size, fun j hj hc hv => (Below.heap_setCell _ _ _ _ (fun e => by have e : j = b := e; omega)).trans (hk.block j hj hc hv)⟩

set_option maxRecDepth 100000 in
set_option maxHeartbeats 2000000 in
theorem release_none (hP : PS M n rev F Z pb cap BB k LL cc vv h hs g gs sz w) (t : ByteArray) (ht : t.size ≤ maxLen) (hh : h t.data.toList = none) :
    Calls Yba.prog 16 #[.pointer (some ⟨M + 3, 0, none⟩), .string t] w fun e w' => e = .returned (.tuple #[.agg #[.int .u64 0, .int .u64 0], .bool false]) ∧ PS M n rev F Z pb cap BB k LL cc vv h hs g gs sz w' ∧ RF M n vv w w' := by
  have hB0 : Below w.heap.size w (w.alloc (.cells #[.int .u64 0, .int .u64 0] 29)) := (Below.refl _ w).alloc (Nat.le_refl _) _
  have P0 := hP.below hB0
  have hcH := P0.cH
  have hlk := P0.mH.look ht
  rw [hh] at hlk
  have HP : Hid (PS M n rev F Z pb cap BB k LL cc vv h hs g gs sz w ∧ Below w.heap.size w (w.alloc (.cells #[.int .u64 0, .int .u64 0] 29))) := ⟨hP, hB0⟩
  clear hP P0 hB0
  go_enter Yba.func16, Yba.ntmps16
  go_wp2
  have hbE : Below w.heap.size w ((w.alloc (.cells #[.int .u64 0, .int .u64 0] 29)).alloc (.cells #[.int .u64 0, .int .u64 0] 29)) := HP.out.2.trans ((below_one _).mono (by simp))
  refine bodyPost_ret (v := .tuple #[.agg #[.int .u64 0, .int .u64 0], .bool false]) ?_ rfl ⟨rfl, HP.out.1.below hbE, RF.of_below hbE⟩
  simp [results, Yba.results16, go_sem]

set_option maxRecDepth 100000 in
set_option maxHeartbeats 2000000 in
theorem release_lent (hP : PS M n rev F Z pb cap BB k LL cc vv h hs g gs sz w) (t : ByteArray) (ht : t.size ≤ maxLen) (x : Nat) (hx : x < 18446744073709551616) (hh : h t.data.toList = some x) (hg : g x = true) :
    Calls Yba.prog 16 #[.pointer (some ⟨M + 3, 0, none⟩), .string t] w fun e w' => e = .returned (.tuple #[.agg #[.int .u64 0, .int .u64 (x : Int)], .bool true]) ∧ ∃ hs' gs', hs' + 1 = hs ∧ gs' + 1 = gs ∧ PS M n rev F Z pb cap BB k LL cc vv (updH h t.data.toList none) hs' (updB g x false) gs' sz w' ∧ RF M n vv w w' := by
  have hB0 : Below w.heap.size w (w.alloc (.cells #[.int .u64 0, .int .u64 0] 29)) := (Below.refl _ w).alloc (Nat.le_refl _) _
  have P0 := hP.below hB0
  have hcH := P0.cH
  have hlk := P0.mH.look ht
  rw [hh] at hlk
  have hB2 : Below w.heap.size w ((w.alloc (.cells #[.int .u64 0, .int .u64 0] 29)).alloc (.cells #[.int .u64 0, .int .u64 (x : Int)] 29)) := hB0.trans ((below_one _).mono (by simp))
  have P2 := hP.below hB2
  obtain ⟨w3, s3, hdel, hH3, hs3, hg3⟩ := P2.mH.del ht 0
  rw [hh] at hs3
  have hlt0 := hP.lt
  have HV : Hid (∀ q, q < n → ∀ b, (vv q).ownBlock = some b → b < w.heap.size) := fun q hq b e => ((hP.fs q hq).own.lt b e).2
  have hbb : 0 < n → BB < w.heap.size := fun h0 => World.block_lt_of_cell? _ _ (hP.pool.byv 0 h0)
  have hsz : ((w.alloc (.cells #[.int .u64 0, .int .u64 0] 29)).alloc (.cells #[.int .u64 0, .int .u64 (x : Int)] 29)).heap.size = w.heap.size + 2 := by simp
  have hcH2 := P2.cH
  have P3 := P2.maps (.inl rfl) hg3 hH3 (P2.mB.kept hg3 (by simp))
  have hl3 : w.heap.size + 2 ≤ w3.heap.size := by rw [← hsz]; exact hg3.size
  have blk3 : ∀ j, w.heap.size ≤ j → j < w.heap.size + 2 → w3.heap[j]? = ((w.alloc (.cells #[.int .u64 0, .int .u64 0] 29)).alloc (.cells #[.int .u64 0, .int .u64 (x : Int)] 29)).heap[j]? := fun j h1 h2 => hg3.block j (by rw [hsz]; exact h2) (by simp; omega)
  have d0 : w3.cell? ⟨w.heap.size + 1, 0, none⟩ = some (.int .u64 0) := (World.cell?_of_block (a := ⟨w.heap.size + 1, 0, none⟩) (blk3 (w.heap.size + 1) (by omega) (by omega))).trans (newAt (by simp) rfl)
  have d1 : w3.cell? ⟨w.heap.size + 1, 1, none⟩ = some (.int .u64 (x : Int)) := (World.cell?_of_block (a := ⟨w.heap.size + 1, 1, none⟩) (blk3 (w.heap.size + 1) (by omega) (by omega))).trans (newAt (by simp) rfl)
  have r0 : w3.cell? ⟨w.heap.size, 0, none⟩ = some (.int .u64 0) := (World.cell?_of_block (a := ⟨w.heap.size, 0, none⟩) (blk3 w.heap.size (by omega) (by omega))).trans (keepA _ (newAt rfl rfl))
  have r1 : w3.cell? ⟨w.heap.size, 1, none⟩ = some (.int .u64 0) := (World.cell?_of_block (a := ⟨w.heap.size, 1, none⟩) (blk3 w.heap.size (by omega) (by omega))).trans (keepA _ (newAt rfl rfl))
  have r2 : ∀ i, w3.frozen? ⟨w.heap.size, i, none⟩ = false := fun i => by
    have e1 : w3.heap[w.heap.size]? = some (.cells #[.int .u64 0, .int .u64 0] 29) := by
      rw [blk3 w.heap.size (by omega) (by omega), Below.heap_alloc _ _ _ (by simp)]
      exact heap_alloc_new w _
    unfold World.frozen?
    rw [e1]
    simp
  have hcB := P3.cB
  have k3 : RF M n vv w w3 := (RF.of_below hB2).trans (RF.of_maps (.inl rfl) hg3)
  have hlb : ∀ nn, (Instr.lookup 46 (.map (some (M + 1))) (.agg #[.int .u64 0, .int .u64 (x : Int)]) false).run Yba.prog (w3.drewN nn) = .ok (.bool (g x)) (w3.drewN nn) := fun nn => (P3.mB.drewN nn).look hx
  rw [hg] at hlb
  have HP3 : Hid (PS M n rev F Z pb cap BB k LL cc vv (updH h t.data.toList none) s3 g gs sz w3 ∧ RF M n vv w w3 ∧ s3 + 1 = hs) := ⟨P3, k3, hs3⟩
  clear hP P0 hB0 hB2 P2 hH3 hg3 P3 k3 blk3 hs3
  go_enter Yba.func16, Yba.ntmps16
  go_wp2
  go_quiet (exact hlb _)
  clear hlb
  have hBD : Below w3.heap.size w3 (w3.drewN (nq + 1)) := below_drewN (Below.refl _ _) _
  obtain ⟨w4, s4, hdel4, hB4, hs4, hg4⟩ := (show BMp (w3.drewN (nq + 1)) (M + 1) k g gs from HP3.out.1.mB).del hx 0
  have P4 := (HP3.out.1.below hBD).maps (.inr rfl) hg4 ((show HMap (w3.drewN (nq + 1)) M k _ _ from HP3.out.1.mH).kept hg4 (by simp)) hB4
  have blk4 : ∀ j, w.heap.size ≤ j → j < w.heap.size + 2 → w4.heap[j]? = w3.heap[j]? := fun j h1 h2 => hg4.block j (Nat.lt_of_lt_of_le h2 hl3) (by simp; omega)
  have e0 := P4.cB
  have e1 : w4.cell? ⟨w.heap.size + 1, 0, none⟩ = some (.int .u64 0) := (World.cell?_of_block (a := ⟨w.heap.size + 1, 0, none⟩) (blk4 (w.heap.size + 1) (by omega) (by omega))).trans d0
  have e2 : w4.cell? ⟨w.heap.size + 1, 1, none⟩ = some (.int .u64 (x : Int)) := (World.cell?_of_block (a := ⟨w.heap.size + 1, 1, none⟩) (blk4 (w.heap.size + 1) (by omega) (by omega))).trans d1
  have t0 : w4.cell? ⟨w.heap.size, 0, none⟩ = some (.int .u64 0) := (World.cell?_of_block (a := ⟨w.heap.size, 0, none⟩) (blk4 w.heap.size (by omega) (by omega))).trans r0
  have t1 : w4.cell? ⟨w.heap.size, 1, none⟩ = some (.int .u64 0) := (World.cell?_of_block (a := ⟨w.heap.size, 1, none⟩) (blk4 w.heap.size (by omega) (by omega))).trans r1
  have t2 : ∀ i, w4.frozen? ⟨w.heap.size, i, none⟩ = false := fun i => (World.frozen?_of_block (a := ⟨w.heap.size, i, none⟩) (blk4 w.heap.size (by omega) (by omega))).trans (r2 i)
  have k4 : RF M n vv w w4 := HP3.out.2.1.trans ((RF.of_below hBD).trans (RF.of_maps (.inr rfl) hg4))
  have hvn : ∀ r, r < n → (vv r).ownBlock ≠ some w.heap.size := fun r hr e => by have := HV.out r hr _ e; omega
  have P5 := (P4.store (b := w.heap.size) (o := 0) (u := .int .u64 0) hlt0 (fun h0 e => by have := hbb h0; omega) hvn).store (b := w.heap.size) (o := 1) (u := .int .u64 (x : Int)) hlt0 (fun h0 e => by have := hbb h0; omega) hvn
  rw [hg] at hs4
  have HE : Hid (s3 + 1 = hs ∧ s4 + 1 = gs ∧ PS M n rev F Z pb cap BB k LL cc vv (updH h t.data.toList none) s3 (updB g x false) s4 sz ((w4.setCell ⟨w.heap.size, 0, none⟩ (.int .u64 0)).setCell ⟨w.heap.size, 1, none⟩ (.int .u64 (x : Int))) ∧ RF M n vv w w4) := ⟨HP3.out.2.2, hs4, P5, k4⟩
  clear P4 P5 k4 hvn blk4 hB4 hg4 hBD HP3 HV hs4 r0 r1 r2 hdel
  go_wp2
  go_region_held3 (fun W => W.cell? ⟨M + 3, 1, none⟩ = some (.map (some (M + 1))) ∧ W.cell? ⟨w.heap.size + 1, 0, none⟩ = some (.int .u64 0) ∧ W.cell? ⟨w.heap.size + 1, 1, none⟩ = some (.int .u64 (x : Int)))
    (first | exact ⟨hcB, d0, d1⟩ | exact ⟨e0, e1, e2⟩)
    (fail)
  clear hdel4 hcB d0 d1
  go_wp2
  refine bodyPost_ret (v := .tuple #[.agg #[.int .u64 0, .int .u64 (x : Int)], .bool true]) ?_ rfl ⟨rfl, s3, s4, HE.out.1, HE.out.2.1, HE.out.2.2.1, (HE.out.2.2.2.set_new (Nat.le_refl _)).set_new (Nat.le_refl _)⟩
  simp [results, Yba.results16, go_sem, t0, t1]

set_option maxRecDepth 100000 in
set_option maxHeartbeats 2000000 in
theorem release_free (G : Geo n F Z) (hP : PS M n rev F Z pb cap BB k LL cc vv h hs g gs sz w) (hI : Inv n rev F Z LL cc h g) (t : ByteArray) (ht : t.size ≤ maxLen) (x q : Nat) (hx : x < 18446744073709551616) (hh : h t.data.toList = some x) (hg : g x = false)
    (hq : q < n) (hq1 : F (pr rev n q) ≤ x) (hq2 : x ≤ Z (pr rev n q)) (hm : ¬ Mem x (LL q)) :
    Calls Yba.prog 16 #[.pointer (some ⟨M + 3, 0, none⟩), .string t] w fun e w' => e = .returned (.tuple #[.agg #[.int .u64 0, .int .u64 (x : Int)], .bool true]) ∧ ∃ hs' v', hs' + 1 = hs ∧ PS M n rev F Z pb cap BB k (updL LL q (mrg (insP x (LL q)))) (updL cc q (cc q + 1)) (updL vv q v') (updH h t.data.toList none) hs' g gs sz w' ∧ RF M n vv w w' := by
  have HA : Hid (∀ (v : Value) (W : World), FS (M + 4) (M + 2) (q * 7 + 4) (LL q) (cc q) v W → Calls Yba.prog 33 #[.pointer (some ⟨M + 2, q * 7 + 4, none⟩), .agg #[.int .u64 0, .int .u64 (x : Int)]] W fun e w' => e = .returned (.bool true) ∧ ∃ v', FS (M + 4) (M + 2) (q * 7 + 4) (mrg (insP x (LL q))) (cc q + 1) v' w' ∧ FU (M + 2) (q * 7 + 4) v W w' v') := fun v W f => by
    obtain ⟨i, h1, h2, h3⟩ := (hI.good q hq).gap hm
    have h4 := hI.len G hq
    have h5 := cntL_len _ (hI.good q hq)
    have h6 := hI.ct q hq
    rw [plain_add' (LL q) x i (hI.good q hq) h1 h2 h3]
    have hz := G.fz _ (pr_lt' rev hq)
    exact add_any (M + 4) (M + 2) (q * 7 + 4) i x (LL q) (cc q) v W (by omega) (hI.bd G hq) f h1 (fun k hk => (hI.good q hq).fl hk) h2 h3 (by omega) (by omega)
  clear hI
  have hB0 : Below w.heap.size w (w.alloc (.cells #[.int .u64 0, .int .u64 0] 29)) := (Below.refl _ w).alloc (Nat.le_refl _) _
  have P0 := hP.below hB0
  have hcH := P0.cH
  have hlk := P0.mH.look ht
  rw [hh] at hlk
  have hB2 : Below w.heap.size w ((w.alloc (.cells #[.int .u64 0, .int .u64 0] 29)).alloc (.cells #[.int .u64 0, .int .u64 (x : Int)] 29)) := hB0.trans ((below_one _).mono (by simp))
  have P2 := hP.below hB2
  obtain ⟨w3, s3, hdel, hH3, hs3, hg3⟩ := P2.mH.del ht 0
  rw [hh] at hs3
  have hlt0 := hP.lt
  have HV : Hid (∀ q, q < n → ∀ b, (vv q).ownBlock = some b → b < w.heap.size) := fun q hq b e => ((hP.fs q hq).own.lt b e).2
  have hbb : 0 < n → BB < w.heap.size := fun h0 => World.block_lt_of_cell? _ _ (hP.pool.byv 0 h0)
  have hsz : ((w.alloc (.cells #[.int .u64 0, .int .u64 0] 29)).alloc (.cells #[.int .u64 0, .int .u64 (x : Int)] 29)).heap.size = w.heap.size + 2 := by simp
  have hcH2 := P2.cH
  have P3 := P2.maps (.inl rfl) hg3 hH3 (P2.mB.kept hg3 (by simp))
  have hl3 : w.heap.size + 2 ≤ w3.heap.size := by rw [← hsz]; exact hg3.size
  have blk3 : ∀ j, w.heap.size ≤ j → j < w.heap.size + 2 → w3.heap[j]? = ((w.alloc (.cells #[.int .u64 0, .int .u64 0] 29)).alloc (.cells #[.int .u64 0, .int .u64 (x : Int)] 29)).heap[j]? := fun j h1 h2 => hg3.block j (by rw [hsz]; exact h2) (by simp; omega)
  have d0 : w3.cell? ⟨w.heap.size + 1, 0, none⟩ = some (.int .u64 0) := (World.cell?_of_block (a := ⟨w.heap.size + 1, 0, none⟩) (blk3 (w.heap.size + 1) (by omega) (by omega))).trans (newAt (by simp) rfl)
  have d1 : w3.cell? ⟨w.heap.size + 1, 1, none⟩ = some (.int .u64 (x : Int)) := (World.cell?_of_block (a := ⟨w.heap.size + 1, 1, none⟩) (blk3 (w.heap.size + 1) (by omega) (by omega))).trans (newAt (by simp) rfl)
  have r0 : w3.cell? ⟨w.heap.size, 0, none⟩ = some (.int .u64 0) := (World.cell?_of_block (a := ⟨w.heap.size, 0, none⟩) (blk3 w.heap.size (by omega) (by omega))).trans (keepA _ (newAt rfl rfl))
  have r1 : w3.cell? ⟨w.heap.size, 1, none⟩ = some (.int .u64 0) := (World.cell?_of_block (a := ⟨w.heap.size, 1, none⟩) (blk3 w.heap.size (by omega) (by omega))).trans (keepA _ (newAt rfl rfl))
  have r2 : ∀ i, w3.frozen? ⟨w.heap.size, i, none⟩ = false := fun i => by
    have e1 : w3.heap[w.heap.size]? = some (.cells #[.int .u64 0, .int .u64 0] 29) := by
      rw [blk3 w.heap.size (by omega) (by omega), Below.heap_alloc _ _ _ (by simp)]
      exact heap_alloc_new w _
    unfold World.frozen?
    rw [e1]
    simp
  have hcB := P3.cB
  have k3 : RF M n vv w w3 := (RF.of_below hB2).trans (RF.of_maps (.inl rfl) hg3)
  have hlb : ∀ nn, (Instr.lookup 46 (.map (some (M + 1))) (.agg #[.int .u64 0, .int .u64 (x : Int)]) false).run Yba.prog (w3.drewN nn) = .ok (.bool (g x)) (w3.drewN nn) := fun nn => (P3.mB.drewN nn).look hx
  rw [hg] at hlb
  have HP3 : Hid (PS M n rev F Z pb cap BB k LL cc vv (updH h t.data.toList none) s3 g gs sz w3 ∧ RF M n vv w w3 ∧ s3 + 1 = hs) := ⟨P3, k3, hs3⟩
  clear hP P0 hB0 hB2 P2 hH3 hg3 P3 k3 blk3 hs3
  go_enter Yba.func16, Yba.ntmps16
  go_wp2
  go_quiet (exact hlb _)
  clear hlb
  have hBD : Below w3.heap.size w3 (w3.drewN nq) := below_drewN (Below.refl _ _) _
  have PD := HP3.out.1.below hBD
  have HT := PD.tier_hit G x hq hq1 hq2
  go_wp2_with (go_at_call 30; refine HT.mono ?_; rintro e w4 ⟨rfl, hB4⟩)
  clear HT
  have hB5 : Below w3.heap.size w3 w4 := hBD.trans hB4
  have P4 := HP3.out.1.below hB5
  have e1 := cell_below d0 hB5
  have e2 := cell_below d1 hB5
  have t0 := cell_below r0 hB5
  have t1 := cell_below r1 hB5
  have t2 : ∀ i, w4.frozen? ⟨w.heap.size, i, none⟩ = false := fun i => (hB5.frozen (p := ⟨w.heap.size, i, none⟩) (show w.heap.size < w3.heap.size by omega)).trans (r2 i)
  have hl4 : w.heap.size + 2 ≤ w4.heap.size := Nat.le_trans hl3 hB5.size
  have HR := HA.out (vv q) w4.drew ((P4.fs q hq).below (Below.refl _ w4).drew)
  have HP4 : Hid (PS M n rev F Z pb cap BB k LL cc vv (updH h t.data.toList none) s3 g gs sz w4 ∧ RF M n vv w w4 ∧ s3 + 1 = hs) := ⟨P4, HP3.out.2.1.trans (RF.of_below hB5), HP3.out.2.2⟩
  clear PD P4 HP3 HA hB4 hBD hdel d0 d1 r0 r1 r2 hB5
  go_region_held3 (fun W => W.cell? ⟨w.heap.size + 1, 0, none⟩ = some (.int .u64 0) ∧ W.cell? ⟨w.heap.size + 1, 1, none⟩ = some (.int .u64 (x : Int)))
    (first | exact ⟨e1, e2⟩ | exact ⟨f1, f2⟩)
    (first | (go_at_call 33; refine HR.mono ?_; rintro e w5 ⟨rfl, v', f', u⟩; have blk5 : ∀ j, w.heap.size ≤ j → j < w.heap.size + 2 → w5.heap[j]? = w4.heap[j]? := fun j h1 h2 => u.block j (Nat.lt_of_lt_of_le h2 hl4) (by omega) (fun e => by have := HV.out q hq _ e.symm; omega); have f1 : w5.cell? ⟨w.heap.size + 1, 0, none⟩ = some (.int .u64 0) := (World.cell?_of_block (a := ⟨w.heap.size + 1, 0, none⟩) (blk5 (w.heap.size + 1) (by omega) (by omega))).trans e1; have f2 : w5.cell? ⟨w.heap.size + 1, 1, none⟩ = some (.int .u64 (x : Int)) := (World.cell?_of_block (a := ⟨w.heap.size + 1, 1, none⟩) (blk5 (w.heap.size + 1) (by omega) (by omega))).trans e2))
  have hBD : Below w4.heap.size w4 w4.drew := (Below.refl _ w4).drew
  have P5 := (HP4.out.1.below hBD).turn hq f' u
  have k5 : RF M n vv w w5 := HP4.out.2.1.trans ((RF.of_below hBD).trans (RF.of_fu hq u))
  have y0 : w5.cell? ⟨w.heap.size, 0, none⟩ = some (.int .u64 0) := (World.cell?_of_block (a := ⟨w.heap.size, 0, none⟩) (blk5 w.heap.size (by omega) (by omega))).trans t0
  have y1 : w5.cell? ⟨w.heap.size, 1, none⟩ = some (.int .u64 0) := (World.cell?_of_block (a := ⟨w.heap.size, 1, none⟩) (blk5 w.heap.size (by omega) (by omega))).trans t1
  have y2 : ∀ i, w5.frozen? ⟨w.heap.size, i, none⟩ = false := fun i => (World.frozen?_of_block (a := ⟨w.heap.size, i, none⟩) (blk5 w.heap.size (by omega) (by omega))).trans (t2 i)
  have hvn : ∀ r, r < n → (updL vv q v' r).ownBlock ≠ some w.heap.size := fun r hr e => by
    by_cases er : r = q
    · subst er
      rw [updL_same] at e
      rcases u.at_ with h1 | ⟨x, h1, h2⟩
      · rw [h1] at e; have := HV.out r hq _ e; omega
      · rw [h1] at e; cases e; have : w4.heap.size ≤ w.heap.size := h2; omega
    · rw [updL_other er] at e; have := HV.out r hr _ e; omega
  have P6 := (P5.store (b := w.heap.size) (o := 0) (u := .int .u64 0) hlt0 (fun h0 e => by have := hbb h0; omega) hvn).store (b := w.heap.size) (o := 1) (u := .int .u64 (x : Int)) hlt0 (fun h0 e => by have := hbb h0; omega) hvn
  have HE : Hid (s3 + 1 = hs ∧ PS M n rev F Z pb cap BB k (updL LL q (mrg (insP x (LL q)))) (updL cc q (cc q + 1)) (updL vv q v') (updH h t.data.toList none) s3 g gs sz ((w5.setCell ⟨w.heap.size, 0, none⟩ (.int .u64 0)).setCell ⟨w.heap.size, 1, none⟩ (.int .u64 (x : Int))) ∧ RF M n vv w w5) := ⟨HP4.out.2.2, P6, k5⟩
  clear P5 P6 k5 hvn blk5 HR u f' HP4 HV t0 t1 t2 e1 e2 hBD
  go_wp2
  refine bodyPost_ret (v := .tuple #[.agg #[.int .u64 0, .int .u64 (x : Int)], .bool true]) ?_ rfl ⟨rfl, s3, v', HE.out.1, HE.out.2.1, (HE.out.2.2.set_new (Nat.le_refl _)).set_new (Nat.le_refl _)⟩
  simp [results, Yba.results16, go_sem, y0, y1]
end
end Go.Proofs.Ybulkdlic
