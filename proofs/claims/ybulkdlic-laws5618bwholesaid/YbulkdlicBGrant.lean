/-
  DERIVED. alloc.LawS5618BWhole: (*Pool).Grant.
-/
import Derived.Test.YbulkdlicBTake
namespace Go.Proofs.Ybulkdlic
open Go.RowKit

attribute [local go_sem ↓] Go.wp_at_zero Go.wp_at_succ

section
variable {M n : Nat} {rev : Bool} {F Z : Nat → Nat} {pb : Option Addr} {cap BB k : Nat} {LL : Nat → List (Nat × Nat)} {cc : Nat → Nat} {vv : Nat → Value} {h : List UInt8 → Option Nat} {hs : Nat} {g : Nat → Bool} {gs sz : Nat} {w : World}

/-- None of the pool's blocks has turned. -/
theorem PS.same {w' : World} (P : PS M n rev F Z pb cap BB k LL cc vv h hs g gs sz w) (hz : w.heap.size ≤ w'.heap.size) (hb : ∀ j, (M ≤ j ∧ j ≤ M + 3 ∨ j = BB ∧ 0 < n ∨ ∃ t, t < n ∧ (vv t).ownBlock = some j) → w'.heap[j]? = w.heap[j]?) : PS M n rev F Z pb cap BB k LL cc vv h hs g gs sz w' := by
  have cel : ∀ x o u, (M ≤ x ∧ x ≤ M + 3 ∨ x = BB ∧ 0 < n) → w.cell? ⟨x, o, none⟩ = some u → w'.cell? ⟨x, o, none⟩ = some u := fun x o u h2 hc => (World.cell?_of_block (w := w) (hb x (h2.imp id Or.inl))).trans hc
  have hM : M ≤ M + 3 ∧ M + 3 ≤ M + 3 := by omega
  have hT : M ≤ M + 2 ∧ M + 2 ≤ M + 3 := by omega
  refine ⟨⟨cel _ _ _ (.inl hM) P.pool.sl, fun i hi => cel _ _ _ (.inr ⟨rfl, by have : i < n := hi; omega⟩) (P.pool.byv i hi), fun i hi => cel _ _ _ (.inl hT) (P.pool.f0 i hi), fun i hi => cel _ _ _ (.inl hT) (P.pool.f1 i hi), fun i hi => cel _ _ _ (.inl hT) (P.pool.f2 i hi), fun i hi => cel _ _ _ (.inl hT) (P.pool.f3 i hi)⟩, P.pbs, cel _ _ _ (.inl hM) P.cH, cel _ _ _ (.inl hM) P.cB, cel _ _ _ (.inl hM) P.cT, cel _ _ _ (.inl hM) P.c4, cel _ _ _ (.inl hM) P.c5, fun i => (World.frozen?_of_block (w := w) (hb (M + 3) (.inl hM))).trans (P.fP i), fun t ht => ?_, P.ap, P.ab, ?_, ?_, P.bb, Nat.le_trans P.lt hz⟩
  · have f := P.fs t ht
    exact ⟨cel _ _ _ (.inl hT) f.run, cel _ _ _ (.inl hT) f.chi, cel _ _ _ (.inl hT) f.clo, fun i => (World.frozen?_of_block (w := w) (hb (M + 2) (.inl hT))).trans (f.fro i), own_block f.own (fun x e => hb x (.inr (.inr ⟨t, ht, e⟩))), f.lt, Nat.le_trans f.bs hz⟩
  · obtain ⟨D, d1, d2⟩ := P.mH
    obtain ⟨es, cl, e1, e2⟩ := d1
    exact ⟨D, ⟨es, cl, (hb M (.inl (by omega))).trans e1, e2⟩, d2⟩
  · obtain ⟨D, d1, d2⟩ := P.mB
    obtain ⟨es, cl, e1, e2⟩ := d1
    exact ⟨D, ⟨es, cl, (hb (M + 1) (.inl (by omega))).trans e1, e2⟩, d2⟩
/-- A store into a block that is none of the pool's. -/
theorem PS.store (P : PS M n rev F Z pb cap BB k LL cc vv h hs g gs sz w) {b o : Nat} {u : Value} (h1 : M + 4 ≤ b) (h2 : 0 < n → b ≠ BB) (h3 : ∀ t, t < n → (vv t).ownBlock ≠ some b) : PS M n rev F Z pb cap BB k LL cc vv h hs g gs sz (w.setCell ⟨b, o, none⟩ u) := by
  refine P.same (by simp) (fun j hj => Below.heap_setCell _ _ _ _ (fun e => ?_))
  have e : j = b := e
  rcases hj with hj | hj | ⟨t, ht, hj⟩
  · omega
  · exact h2 hj.2 (e.symm.trans hj.1)
  · exact h3 t ht (hj.trans (by rw [e]))

theorem PK.set_new {w' : World} (hk : PK M w w') {b o : Nat} {u : Value} (hb : w.heap.size ≤ b) : PK M w (w'.setCell ⟨b, o, none⟩ u) :=
  ⟨hk.os, hk.tape, hk.output, by simpa using hk.size, fun j hj hc => (Below.heap_setCell _ _ _ _ (fun e => by have e : j = b := e; omega)).trans (hk.block j hj hc)⟩

set_option maxRecDepth 100000 in
set_option maxHeartbeats 2000000 in
theorem grant_any (G : Geo n F Z) (hP : PS M n rev F Z pb cap BB k LL cc vv h hs g gs sz w) (hI : Inv n rev F Z LL cc h g) (hk : k < 100000) (t : ByteArray) (ht : t.size ≤ maxLen) (q : Nat) (hq : q < n) :
    Calls Yba.prog 13 #[.pointer (some ⟨M + 3, 0, none⟩), .string t, .int .i64 (q : Int)] w fun e w' => (∃ b, e = .returned b) ∧ PI M n rev F Z pb cap BB sz (k + 1) w' ∧ PK M w w' := by
  have hB0 : Below w.heap.size w (w.alloc (.cells #[.int .u64 0, .int .u64 0] 29)) := (Below.refl _ w).alloc (Nat.le_refl _) _
  have P0 := hP.below hB0
  have hlt0 := hP.lt
  have hq1 : (q : Int) < (n : Int) := by omega
  have HV : Hid (∀ q, q < n → ∀ b, (vv q).ownBlock = some b → b < w.heap.size) := fun q hq b e => ((hP.fs q hq).own.lt b e).2
  have hcH := P0.cH
  have hlk := P0.mH.look ht
  have HP : Hid (PS M n rev F Z pb cap BB k LL cc vv h hs g gs sz w ∧ Inv n rev F Z LL cc h g ∧ Below w.heap.size w (w.alloc (.cells #[.int .u64 0, .int .u64 0] 29))) := ⟨hP, hI, hB0⟩
  clear hP hI P0
  have hbb : 0 < n → BB < w.heap.size := fun h0 => World.block_lt_of_cell? _ _ (HP.out.1.pool.byv 0 h0)
  cases hh : h t.data.toList with
  | some y =>
    rw [hh] at hlk
    go_enter Yba.func13, Yba.ntmps13
    go_wp2
    refine bodyPost_ret (v := .tuple #[.agg #[.int .u64 0, .int .u64 (y : Int)], .bool true]) ?_ rfl ⟨⟨_, rfl⟩, ((HP.out.1.below (((Below.refl _ w).alloc (Nat.le_refl _) _).alloc (by simp) _)).later (Nat.le_succ _)).pi HP.out.2.1, PK.of_below (((Below.refl _ w).alloc (Nat.le_refl _) _).alloc (by simp) _)⟩
    simp [results, Yba.results13, go_sem]
  | none =>
    rw [hh] at hlk
    have hB2 : Below w.heap.size w ((w.alloc (.cells #[.int .u64 0, .int .u64 0] 29)).alloc (.cells #[.int .u64 0, .int .u64 0] 29)) := hB0.trans ((below_one _).mono (by simp))
    have P2 := HP.out.1.below hB2
    have hcT := P2.cT
    have HL := lowest_any _ _ _ _ _ _ _ (P2.fs q hq)
    obtain ⟨f0, hf0⟩ : ∃ f0, fst (LL q) 0 = f0 := ⟨_, rfl⟩
    have HR2 : Hid (∀ w1, Below ((w.alloc (.cells #[.int .u64 0, .int .u64 0] 29)).alloc (.cells #[.int .u64 0, .int .u64 0] 29)).heap.size ((w.alloc (.cells #[.int .u64 0, .int .u64 0] 29)).alloc (.cells #[.int .u64 0, .int .u64 0] 29)) w1 → Below w.heap.size w w1 ∧ w.heap.size + 2 ≤ w1.heap.size ∧ ∀ o, (w1.alloc o).cell? ⟨w.heap.size, 0, none⟩ = some (.int .u64 0) ∧ (w1.alloc o).cell? ⟨w.heap.size, 1, none⟩ = some (.int .u64 0) ∧ (∀ i, (w1.alloc o).frozen? ⟨w.heap.size, i, none⟩ = false)) := fun w1 hb => by
      refine ⟨hB2.trans (hb.mono hB2.size), by have := hb.size; simpa using this, fun o => ⟨keepA _ (cell_below (keepA _ (newAt rfl rfl)) hb), keepA _ (cell_below (keepA _ (newAt rfl rfl)) hb), fun i => ?_⟩⟩
      have e1 : (w1.alloc o).heap[w.heap.size]? = some (.cells #[.int .u64 0, .int .u64 0] 29) := by
        rw [Below.heap_alloc w1 o _ (by have := hb.size; simp at this; omega), hb.block _ (by simp; omega), Below.heap_alloc _ _ _ (by simp)]
        exact heap_alloc_new w _
      unfold World.frozen?
      rw [e1]
      simp
    rw [hf0] at HL
    clear P2 hB2
    by_cases hL : LL q = []
    · rw [show decide (LL q ≠ []) = false by simp [hL]] at HL
      go_enter Yba.func13, Yba.ntmps13
      go_wp2_with (go_at_call 32; refine HL.mono ?_; rintro e w1 ⟨rfl, hB1⟩; obtain ⟨b1, b2, b3⟩ := HR2.out w1 hB1; obtain ⟨r0, r1, r2⟩ := b3 (.cells #[.int .u64 0, .int .u64 (f0 : Int)] 29); clear b3)
      have hbE := ((b1.alloc (by omega) (.cells #[.int .u64 0, .int .u64 (f0 : Int)] 29)).setCell (p := ⟨w.heap.size, 0, none⟩) (Nat.le_refl _) (.int .u64 0)).setCell (p := ⟨w.heap.size, 1, none⟩) (Nat.le_refl _) (.int .u64 0)
      refine bodyPost_ret (v := .tuple #[.agg #[.int .u64 0, .int .u64 0], .bool false]) ?_ rfl ⟨⟨_, rfl⟩, ((HP.out.1.below hbE).later (Nat.le_succ _)).pi HP.out.2.1, PK.of_below hbE⟩
      simp [results, Yba.results13, go_sem, r0, r1]
    · rw [show decide (LL q ≠ []) = true by simp [hL]] at HL
      have hmem : Mem f0 (LL q) := by
        have h1 : 0 < (LL q).length := List.length_pos_iff.2 hL
        exact mem_iff_at.2 ⟨0, h1, by omega, by rw [← hf0]; exact (HP.out.2.1.good q hq).fl h1⟩
      have hfb : F (pr rev n q) ≤ f0 ∧ f0 ≤ Z (pr rev n q) := by
        obtain ⟨r, hr, h1, h2⟩ := hmem
        have := HP.out.2.1.wi q hq r hr
        omega
      have hlc := HP.out.2.1.len G hq
      have HR3 : Hid (∀ W, Below w.heap.size w W → Calls Yba.prog 31 #[.pointer (some ⟨M + 2, q * 7 + 4, none⟩), .agg #[.int .u64 0, .int .u64 (f0 : Int)]] W fun e w' => e = .returned (.bool true) ∧ ∃ L' v', FS (M + 4) (M + 2) (q * 7 + 4) L' (cntL L') v' w' ∧ FU (M + 2) (q * 7 + 4) (vv q) W w' v' ∧ Good L' ∧ ∀ y, Mem y L' ↔ Mem y (LL q) ∧ y ≠ f0) := fun W hb => remove_yes ((HP.out.1.below hb).fs q hq) (HP.out.2.1.good q hq) (HP.out.2.1.bd G hq) (HP.out.2.1.ct q hq) (by omega) hmem
      go_enter Yba.func13, Yba.ntmps13
      go_wp2_with (first | (go_at_call 32; refine HL.mono ?_; rintro e w1 ⟨rfl, hB1⟩; obtain ⟨b1, b2, b3⟩ := HR2.out w1 hB1; obtain ⟨r0, r1, r2⟩ := b3 (.cells #[.int .u64 0, .int .u64 (f0 : Int)] 29); clear b3) | (go_at_call 31; refine (HR3.out _ (b1.alloc (by omega) _)).mono ?_; rintro e w2 ⟨rfl, L', v', f', u, hG', hm'⟩))
      have hb3 : Below w.heap.size w (w1.alloc (.cells #[.int .u64 0, .int .u64 (f0 : Int)] 29)) := b1.alloc (by omega) _
      have hsz1 : (w1.alloc (.cells #[.int .u64 0, .int .u64 (f0 : Int)] 29)).heap.size = w1.heap.size + 1 := by simp
      have P2 := (HP.out.1.below hb3).turn hq f' u
      have k2 := (PK.of_below (M := M) hb3).trans (PK.of_fu ((HP.out.1.below hb3).fs q hq) u)
      have i2 := HP.out.2.1.take G hq hfb.1 hfb.2 hG' hm' t.data.toList
      have hblk : ∀ j, w.heap.size ≤ j → j < w1.heap.size + 1 → w2.heap[j]? = (w1.alloc (.cells #[.int .u64 0, .int .u64 (f0 : Int)] 29)).heap[j]? := fun j h1 h2 => u.block j (by rw [hsz1]; exact h2) (by omega) (fun e => by have := HV.out q hq _ e.symm; omega)
      have d0 : w2.cell? ⟨w1.heap.size, 0, none⟩ = some (.int .u64 0) := (World.cell?_of_block (a := ⟨w1.heap.size, 0, none⟩) (hblk w1.heap.size (by omega) (by omega))).trans (newAt rfl rfl)
      have d1 : w2.cell? ⟨w1.heap.size, 1, none⟩ = some (.int .u64 (f0 : Int)) := (World.cell?_of_block (a := ⟨w1.heap.size, 1, none⟩) (hblk w1.heap.size (by omega) (by omega))).trans (newAt rfl rfl)
      have s0 : w2.cell? ⟨w.heap.size, 0, none⟩ = some (.int .u64 0) := (World.cell?_of_block (a := ⟨w.heap.size, 0, none⟩) (hblk w.heap.size (by omega) (by omega))).trans r0
      have s1 : w2.cell? ⟨w.heap.size, 1, none⟩ = some (.int .u64 0) := (World.cell?_of_block (a := ⟨w.heap.size, 1, none⟩) (hblk w.heap.size (by omega) (by omega))).trans r1
      have s2 : ∀ i, w2.frozen? ⟨w.heap.size, i, none⟩ = false := fun i => (World.frozen?_of_block (a := ⟨w.heap.size, i, none⟩) (hblk w.heap.size (by omega) (by omega))).trans (r2 i)
      have hc2 := P2.cH
      have m2 : HMap w2.drew M k h hs := P2.mH
      obtain ⟨w3, s3, hput, hH3, hg3⟩ := m2.put hk ht f0
      have P3 := (P2.below (Below.refl _ w2).drew).maps (.inl rfl) hg3 hH3 (((show BMp w2.drew (M + 1) k g gs from P2.mB).mono (Nat.le_succ k)).kept hg3 (by simp))
      have hsz2 : w1.heap.size + 1 ≤ w2.heap.size := by rw [← hsz1]; exact u.size
      have hb3' : ∀ j, w.heap.size ≤ j → j < w1.heap.size + 1 → w3.heap[j]? = w2.heap[j]? := fun j h1 h2 => hg3.block j (Nat.lt_of_lt_of_le h2 hsz2) (by simp; omega)
      have e0 := P3.cH
      have e1 : w3.cell? ⟨w1.heap.size, 0, none⟩ = some (.int .u64 0) := (World.cell?_of_block (a := ⟨w1.heap.size, 0, none⟩) (hb3' w1.heap.size (by omega) (by omega))).trans d0
      have e2 : w3.cell? ⟨w1.heap.size, 1, none⟩ = some (.int .u64 (f0 : Int)) := (World.cell?_of_block (a := ⟨w1.heap.size, 1, none⟩) (hb3' w1.heap.size (by omega) (by omega))).trans d1
      have t0 : w3.cell? ⟨w.heap.size, 0, none⟩ = some (.int .u64 0) := (World.cell?_of_block (a := ⟨w.heap.size, 0, none⟩) (hb3' w.heap.size (by omega) (by omega))).trans s0
      have t1 : w3.cell? ⟨w.heap.size, 1, none⟩ = some (.int .u64 0) := (World.cell?_of_block (a := ⟨w.heap.size, 1, none⟩) (hb3' w.heap.size (by omega) (by omega))).trans s1
      have t2 : ∀ i, w3.frozen? ⟨w.heap.size, i, none⟩ = false := fun i => (World.frozen?_of_block (a := ⟨w.heap.size, i, none⟩) (hb3' w.heap.size (by omega) (by omega))).trans (s2 i)
      have k3 : PK M w w3 := k2.trans ((PK.of_below (Below.refl _ w2).drew).trans (PK.of_maps (.inl rfl) hg3))
      have hvn : ∀ r, r < n → (updL vv q v' r).ownBlock ≠ some w.heap.size := fun r hr e => by
        by_cases er : r = q
        · subst er
          rw [updL_same] at e
          rcases u.at_ with h1 | ⟨x, h1, h2⟩
          · rw [h1] at e; have := HV.out r hq _ e; omega
          · rw [h1] at e; cases e; omega
        · rw [updL_other er] at e; have := HV.out r hr _ e; omega
      have P4 := (P3.store (b := w.heap.size) (o := 0) (u := .int .u64 0) hlt0 (fun h0 e => by have := hbb h0; omega) hvn).store (b := w.heap.size) (o := 1) (u := .int .u64 (f0 : Int)) hlt0 (fun h0 e => by have := hbb h0; omega) hvn
      have HE : Hid (PI M n rev F Z pb cap BB sz (k + 1) ((w3.setCell ⟨w.heap.size, 0, none⟩ (.int .u64 0)).setCell ⟨w.heap.size, 1, none⟩ (.int .u64 (f0 : Int))) ∧ PK M w w3) := ⟨P4.pi i2, k3⟩
      clear P2 k2 i2 m2 hH3 hg3 P3 P4 k3 f' u hG' hm' HP HV HR2 HR3 HL hblk hb3' hvn hcH hlk hcT hb3 s0 s1 s2 r0 r1 r2 b1 hB1 hB0
      go_wp2
      go_region_held3 (fun W => W.cell? ⟨M + 3, 0, none⟩ = some (.map (some M)) ∧ W.cell? ⟨w1.heap.size, 0, none⟩ = some (.int .u64 0) ∧ W.cell? ⟨w1.heap.size, 1, none⟩ = some (.int .u64 (f0 : Int)))
        (first | exact ⟨hc2, d0, d1⟩ | exact ⟨e0, e1, e2⟩)
        (fail)
      clear hput hc2 d0 d1
      go_wp2
      refine bodyPost_ret (v := .tuple #[.agg #[.int .u64 0, .int .u64 (f0 : Int)], .bool true]) ?_ rfl ⟨⟨_, rfl⟩, HE.out.1, (HE.out.2.set_new (Nat.le_refl _)).set_new (Nat.le_refl _)⟩
      simp [results, Yba.results13, go_sem, t0, t1]
end
end Go.Proofs.Ybulkdlic
