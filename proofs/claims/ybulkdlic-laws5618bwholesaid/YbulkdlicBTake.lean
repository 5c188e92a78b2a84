/-
  DERIVED. alloc.LawS5618BWhole: (*Pool).Take.
-/
import Derived.Test.YbulkdlicBOps
namespace Go.Proofs.Ybulkdlic
open Go.RowKit

attribute [local go_sem ↓] Go.wp_at_zero Go.wp_at_succ

theorem below_one {W : World} (o : Obj) : Below W.heap.size W (W.alloc o) := (Below.refl _ W).alloc (Nat.le_refl _) _

section
variable {M n : Nat} {rev : Bool} {F Z : Nat → Nat} {pb : Option Addr} {cap BB k : Nat} {LL : Nat → List (Nat × Nat)} {cc : Nat → Nat} {vv : Nat → Value} {h : List UInt8 → Option Nat} {hs : Nat} {g : Nat → Bool} {gs sz : Nat} {w : World}
theorem PS.later {k' : Nat} (P : PS M n rev F Z pb cap BB k LL cc vv h hs g gs sz w) (hk : k ≤ k') : PS M n rev F Z pb cap BB k' LL cc vv h hs g gs sz w :=
  { P with mH := P.mH.mono hk, mB := P.mB.mono hk }
theorem PS.pi (P : PS M n rev F Z pb cap BB k LL cc vv h hs g gs sz w) (I : Inv n rev F Z LL cc h g) : PI M n rev F Z pb cap BB sz k w := ⟨LL, cc, vv, h, hs, g, gs, P, I⟩
end
section
variable {M n : Nat} {rev : Bool} {F Z : Nat → Nat} {pb : Option Addr} {cap BB k : Nat} {LL : Nat → List (Nat × Nat)} {cc : Nat → Nat} {vv : Nat → Value} {h : List UInt8 → Option Nat} {hs : Nat} {g : Nat → Bool} {gs sz : Nat} {w : World}

set_option maxRecDepth 100000 in
set_option maxHeartbeats 2000000 in
theorem take_any (G : Geo n F Z) (hP : PS M n rev F Z pb cap BB k LL cc vv h hs g gs sz w) (hI : Inv n rev F Z LL cc h g) (hk : k < 100000) (t : ByteArray) (ht : t.size ≤ maxLen) (x : Nat) :
    Calls Yba.prog 11 #[.pointer (some ⟨M + 3, 0, none⟩), .string t, .agg #[.int .u64 0, .int .u64 (x : Int)]] w fun e w' => (∃ b, e = .returned (.bool b)) ∧ PI M n rev F Z pb cap BB sz (k + 1) w' ∧ PK M w w' := by
  have hB0 : Below w.heap.size w (w.alloc (.cells #[.int .u64 0, .int .u64 (x : Int)] 29)) := (Below.refl _ w).alloc (Nat.le_refl _) _
  have P0 := hP.below hB0
  have hlt0 := hP.lt
  have HV : Hid (∀ q, q < n → ∀ b, (vv q).ownBlock = some b → b < w.heap.size) := fun q hq b e => ((hP.fs q hq).own.lt b e).2
  have hcH := P0.cH
  have hlk := P0.mH.look ht
  have HP : Hid (PS M n rev F Z pb cap BB k LL cc vv h hs g gs sz (w.alloc (.cells #[.int .u64 0, .int .u64 (x : Int)] 29)) ∧ Inv n rev F Z LL cc h g ∧ Below w.heap.size w (w.alloc (.cells #[.int .u64 0, .int .u64 (x : Int)] 29))) := ⟨P0, hI, hB0⟩
  clear hP hI P0 hB0
  cases hh : h t.data.toList with
  | some y =>
    rw [hh] at hlk
    go_enter Yba.func11, Yba.ntmps11
    go_wp2
    exact bodyPost_ret (results_tmp rfl _ _ _) rfl ⟨⟨_, rfl⟩, ((HP.out.1.below (below_one _)).later (Nat.le_succ _)).pi HP.out.2.1, (PK.of_below HP.out.2.2).trans (PK.of_below (below_one _))⟩
  | none =>
    rw [hh] at hlk
    have HT : Hid (∀ W, Below (w.alloc (.cells #[.int .u64 0, .int .u64 (x : Int)] 29)).heap.size (w.alloc (.cells #[.int .u64 0, .int .u64 (x : Int)] 29)) W → PS M n rev F Z pb cap BB k LL cc vv h hs g gs sz W) := fun W hb => HP.out.1.below hb
    by_cases hex : ∃ q, q < n ∧ F (pr rev n q) ≤ x ∧ x ≤ Z (pr rev n q)
    · obtain ⟨q, hq, hq1, hq2⟩ := hex
      go_enter Yba.func11, Yba.ntmps11
      go_wp2_with (go_at_call 30; refine ((HT.out _ (below_one _)).tier_hit G x hq hq1 hq2).mono ?_; rintro e w1 ⟨rfl, hB1⟩)
      have hBW := (below_one _).trans (hB1.mono (by simp))
      have P1 := HT.out w1 hBW
      have c0 : w1.cell? ⟨w.heap.size, 0, none⟩ = some (.int .u64 0) := cell_below (newAt rfl rfl) hBW
      have c1 : w1.cell? ⟨w.heap.size, 1, none⟩ = some (.int .u64 (x : Int)) := cell_below (newAt rfl rfl) hBW
      have hlc := HP.out.2.1.len G hq
      have HW : Hid (PK M w w1 ∧ w.heap.size < w1.heap.size ∧ M + 4 ≤ w.heap.size) := ⟨(PK.of_below HP.out.2.2).trans (PK.of_below hBW), by have := hBW.size; simp at this; omega, hlt0⟩
      have HP1 : Hid (PS M n rev F Z pb cap BB k LL cc vv h hs g gs sz w1 ∧ Inv n rev F Z LL cc h g) := ⟨P1, HP.out.2.1⟩
      clear hB1 hBW hcH hlk HT HP
      by_cases hm : Mem x (LL q)
      · have HR := remove_yes ((P1.fs q hq).below (Below.refl _ w1).drew) (HP1.out.2.good q hq) (HP1.out.2.bd G hq) (HP1.out.2.ct q hq) (by omega) hm
        clear P1
        go_region_held3 (fun W => W.cell? ⟨w.heap.size, 0, none⟩ = some (.int .u64 0) ∧ W.cell? ⟨w.heap.size, 1, none⟩ = some (.int .u64 (x : Int)))
          (first | exact ⟨c0, c1⟩ | exact ⟨d0, d1⟩)
          (first | (go_at_call 31; refine HR.mono ?_; rintro e w2 ⟨rfl, L', v', f', u, hG', hm'⟩; have hbl : w2.heap[w.heap.size]? = w1.heap[w.heap.size]? := u.block w.heap.size HW.out.2.1 (by have := HW.out.2.2; omega) (fun e => Nat.lt_irrefl _ (HV.out q hq _ e.symm)); have d0 : w2.cell? ⟨w.heap.size, 0, none⟩ = some (.int .u64 0) := (World.cell?_of_block (w := w1) hbl).trans c0; have d1 : w2.cell? ⟨w.heap.size, 1, none⟩ = some (.int .u64 (x : Int)) := (World.cell?_of_block (w := w1) (a := ⟨w.heap.size, 1, none⟩) hbl).trans c1))
        have P2 := (HP1.out.1.below (Below.refl _ w1).drew).turn hq f' u
        have k2 := (PK.of_below (M := M) (Below.refl _ w1).drew).trans (PK.of_fu ((HP1.out.1.fs q hq).below (Below.refl _ w1).drew) u)
        have i2 := HP1.out.2.take G hq hq1 hq2 hG' hm' t.data.toList
        have hc2 := P2.cH
        have m2 : HMap w2.drew M k h hs := P2.mH
        obtain ⟨w3, s3, hput, hH3, hg3⟩ := m2.put hk ht x
        have P3 := (P2.below (Below.refl _ w2).drew).maps (.inl rfl) hg3 hH3 (((show BMp w2.drew (M + 1) k g gs from P2.mB).mono (Nat.le_succ k)).kept hg3 (by simp))
        have e0 := P3.cH
        have e1 : w3.cell? ⟨w.heap.size, 0, none⟩ = some (.int .u64 0) := (World.cell?_of_block (w := w2) (hg3.block w.heap.size (by have := World.block_lt_of_cell? _ _ d0; exact this) (by simp; omega))).trans d0
        have e2 : w3.cell? ⟨w.heap.size, 1, none⟩ = some (.int .u64 (x : Int)) := (World.cell?_of_block (w := w2) (a := ⟨w.heap.size, 1, none⟩) (hg3.block w.heap.size (by have := World.block_lt_of_cell? _ _ d0; exact this) (by simp; omega))).trans d1
        have HE : Hid (PI M n rev F Z pb cap BB sz (k + 1) w3 ∧ PK M w w3) := ⟨P3.pi i2, HW.out.1.trans (k2.trans ((PK.of_below (Below.refl _ w2).drew).trans (PK.of_maps (.inl rfl) hg3)))⟩
        clear HR P2 k2 i2 m2 hH3 hg3 P3 f' u hG' hm' HP1 HW HV
        go_wp2
        go_region_held3 (fun W => W.cell? ⟨M + 3, 0, none⟩ = some (.map (some M)) ∧ W.cell? ⟨w.heap.size, 0, none⟩ = some (.int .u64 0) ∧ W.cell? ⟨w.heap.size, 1, none⟩ = some (.int .u64 (x : Int)))
          (first | exact ⟨hc2, d0, d1⟩ | exact ⟨e0, e1, e2⟩)
          (fail)
        go_wp2
        exact bodyPost_ret (results_tmp rfl _ _ _) rfl ⟨⟨_, rfl⟩, HE.out.1, HE.out.2⟩
      · have HR := remove_no ((P1.fs q hq).below (Below.refl _ w1).drew) (HP1.out.2.good q hq) (by omega) hm
        clear P1
        go_region_held3 (fun W => W.cell? ⟨w.heap.size, 0, none⟩ = some (.int .u64 0) ∧ W.cell? ⟨w.heap.size, 1, none⟩ = some (.int .u64 (x : Int)))
          (first | exact ⟨c0, c1⟩ | exact ⟨d0, d1⟩)
          (first | (go_at_call 31; refine HR.mono ?_; rintro e w2 ⟨rfl, hB2⟩; have hB3 : Below w1.heap.size w1 w2 := (Below.refl _ w1).drew.trans hB2; have d0 := cell_below c0 hB3; have d1 := cell_below c1 hB3))
        clear HR
        go_wp2
        exact bodyPost_ret (results_tmp rfl _ _ _) rfl ⟨⟨_, rfl⟩, ((HP1.out.1.below hB3).later (Nat.le_succ _)).pi HP1.out.2, HW.out.1.trans (PK.of_below hB3)⟩
    · have hmiss : ∀ q, q < n → ¬ (F (pr rev n q) ≤ x ∧ x ≤ Z (pr rev n q)) := fun q hq hh => hex ⟨q, hq, hh⟩
      clear hex
      go_enter Yba.func11, Yba.ntmps11
      go_wp2_with (go_at_call 30; refine ((HT.out _ (below_one _)).tier_miss G x hmiss).mono ?_; rintro e w1 ⟨rfl, hB1⟩)
      have hBW := (below_one _).trans (hB1.mono (by simp))
      go_quiet (fail)
      go_wp2
      exact bodyPost_ret (results_tmp rfl _ _ _) rfl ⟨⟨_, rfl⟩, (((HT.out w1 hBW).below (below_drewN (Below.refl _ _) _)).later (Nat.le_succ _)).pi HP.out.2.1, (PK.of_below HP.out.2.2).trans ((PK.of_below hBW).trans (PK.of_below (below_drewN (Below.refl _ _) _)))⟩

set_option maxRecDepth 100000 in
set_option maxHeartbeats 2000000 in
theorem borrow_any (hP : PS M n rev F Z pb cap BB k LL cc vv h hs g gs sz w) (hI : Inv n rev F Z LL cc h g) (hk : k < 100000) (t : ByteArray) (ht : t.size ≤ maxLen) (x : Nat) (hx : x < 18446744073709551616) :
    Calls Yba.prog 12 #[.pointer (some ⟨M + 3, 0, none⟩), .string t, .agg #[.int .u64 0, .int .u64 (x : Int)]] w fun e w' => (∃ b, e = .returned (.bool b)) ∧ PI M n rev F Z pb cap BB sz (k + 1) w' ∧ PK M w w' := by
  have hB0 : Below w.heap.size w (w.alloc (.cells #[.int .u64 0, .int .u64 (x : Int)] 29)) := (Below.refl _ w).alloc (Nat.le_refl _) _
  have P0 := hP.below hB0
  have hlt0 := hP.lt
  have hcH := P0.cH
  have hlk := P0.mH.look ht
  have HP : Hid (PS M n rev F Z pb cap BB k LL cc vv h hs g gs sz (w.alloc (.cells #[.int .u64 0, .int .u64 (x : Int)] 29)) ∧ Inv n rev F Z LL cc h g ∧ Below w.heap.size w (w.alloc (.cells #[.int .u64 0, .int .u64 (x : Int)] 29))) := ⟨P0, hI, hB0⟩
  clear hP hI P0 hB0
  cases hh : h t.data.toList with
  | some y =>
    rw [hh] at hlk
    go_enter Yba.func12, Yba.ntmps12
    go_wp2
    go_quiet (fail)
    go_wp2
    exact bodyPost_ret (results_tmp rfl _ _ _) rfl ⟨⟨_, rfl⟩, (((HP.out.1.below (below_one _)).below (below_drewN (Below.refl _ _) _)).later (Nat.le_succ _)).pi HP.out.2.1, (PK.of_below HP.out.2.2).trans ((PK.of_below (below_one _)).trans (PK.of_below (below_drewN (Below.refl _ _) _)))⟩
  | none =>
    rw [hh] at hlk
    go_enter Yba.func12, Yba.ntmps12
    go_wp2
    refine wp_at_world (fun W => Below (w.alloc (.cells #[.int .u64 0, .int .u64 (x : Int)] 29)).heap.size (w.alloc (.cells #[.int .u64 0, .int .u64 (x : Int)] 29)) W) (below_one _) ?_
    intro W hBW
    have P1 := HP.out.1.below hBW
    have c0 : W.cell? ⟨w.heap.size, 0, none⟩ = some (.int .u64 0) := cell_below (newAt rfl rfl) hBW
    have c1 : W.cell? ⟨w.heap.size, 1, none⟩ = some (.int .u64 (x : Int)) := cell_below (newAt rfl rfl) hBW
    have HW : Hid (PK M w W ∧ w.heap.size < W.heap.size) := ⟨(PK.of_below HP.out.2.2).trans (PK.of_below hBW), by have := hBW.size; simp at this; omega⟩
    have HP1 : Hid (PS M n rev F Z pb cap BB k LL cc vv h hs g gs sz W ∧ Inv n rev F Z LL cc h g) := ⟨P1, HP.out.2.1⟩
    have hcH := P1.cH
    have hcB := P1.cB
    have hlb : ∀ nn, (Instr.lookup 46 (.map (some (M + 1))) (.agg #[.int .u64 0, .int .u64 (x : Int)]) false).run Yba.prog (W.drewN nn) = .ok (.bool (g x)) (W.drewN nn) := fun nn => (P1.mB.drewN nn).look hx
    clear hBW hlk HP P1
    cases hg : g x with
    | true =>
      rw [hg] at hlb
      go_quiet (exact hlb _)
      go_wp2
      exact bodyPost_ret (results_tmp rfl _ _ _) rfl ⟨⟨_, rfl⟩, ((HP1.out.1.below (below_drewN (Below.refl _ _) _)).later (Nat.le_succ _)).pi HP1.out.2, HW.out.1.trans (PK.of_below (below_drewN (Below.refl _ _) _))⟩
    | false =>
      rw [hg] at hlb
      go_quiet (exact hlb _)
      have m2 : HMap (W.drewN (nq + 1)) M k h hs := HP1.out.1.mH
      obtain ⟨w3, s3, hput, hH3, hg3⟩ := m2.put hk ht x
      have hBD : Below W.heap.size W (W.drewN (nq + 1)) := below_drewN (Below.refl _ _) _
      have P3 := (HP1.out.1.below hBD).maps (.inl rfl) hg3 hH3 (((show BMp (W.drewN (nq + 1)) (M + 1) k g gs from HP1.out.1.mB).mono (Nat.le_succ k)).kept hg3 (by simp))
      have b3' : BMp w3 (M + 1) k g gs := (show BMp (W.drewN (nq + 1)) (M + 1) k g gs from HP1.out.1.mB).kept hg3 (by simp)
      have b3 : BMp w3.drew (M + 1) k g gs := b3'
      obtain ⟨w4, s4, hput4, hB4, hg4⟩ := b3.put hk hx
      have P4 := (P3.below (Below.refl _ w3).drew).maps (.inr rfl) hg4 ((show HMap w3.drew M (k + 1) _ _ from P3.mH).kept hg4 (by simp)) hB4
      have hl : w.heap.size < W.heap.size := HW.out.2
      have hl3 : w.heap.size < w3.heap.size := Nat.lt_of_lt_of_le hl hg3.size
      have e0 := P3.cH
      have e1 : w3.cell? ⟨w.heap.size, 0, none⟩ = some (.int .u64 0) := (World.cell?_of_block (w := W) (hg3.block w.heap.size hl (by simp; omega))).trans c0
      have e2 : w3.cell? ⟨w.heap.size, 1, none⟩ = some (.int .u64 (x : Int)) := (World.cell?_of_block (w := W) (a := ⟨w.heap.size, 1, none⟩) (hg3.block w.heap.size hl (by simp; omega))).trans c1
      have e3 := P3.cB
      have f0 := P4.cB
      have f1 : w4.cell? ⟨w.heap.size, 0, none⟩ = some (.int .u64 0) := (World.cell?_of_block (w := w3) (hg4.block w.heap.size hl3 (by simp; omega))).trans e1
      have f2 : w4.cell? ⟨w.heap.size, 1, none⟩ = some (.int .u64 (x : Int)) := (World.cell?_of_block (w := w3) (a := ⟨w.heap.size, 1, none⟩) (hg4.block w.heap.size hl3 (by simp; omega))).trans e2
      have HE : Hid (PI M n rev F Z pb cap BB sz (k + 1) w4 ∧ PK M w w4) := ⟨P4.pi (HP1.out.2.borrow hx _), HW.out.1.trans ((PK.of_below hBD).trans ((PK.of_maps (.inl rfl) hg3).trans ((PK.of_below (Below.refl _ w3).drew).trans (PK.of_maps (.inr rfl) hg4))))⟩
      clear m2 hH3 hg3 P3 b3 b3' hB4 hg4 P4 HP1 HW hlb hBD
      go_wp2
      go_region_held3 (fun W => W.cell? ⟨M + 3, 0, none⟩ = some (.map (some M)) ∧ W.cell? ⟨w.heap.size, 0, none⟩ = some (.int .u64 0) ∧ W.cell? ⟨w.heap.size, 1, none⟩ = some (.int .u64 (x : Int)))
        (first | exact ⟨hcH, c0, c1⟩ | exact ⟨e0, e1, e2⟩)
        (fail)
      clear hput hcH c0 c1
      go_wp2
      go_region_held3 (fun W => W.cell? ⟨M + 3, 1, none⟩ = some (.map (some (M + 1))) ∧ W.cell? ⟨w.heap.size, 0, none⟩ = some (.int .u64 0) ∧ W.cell? ⟨w.heap.size, 1, none⟩ = some (.int .u64 (x : Int)))
        (first | exact ⟨e3, e1, e2⟩ | exact ⟨f0, f1, f2⟩)
        (fail)
      go_wp2
      exact bodyPost_ret (results_tmp rfl _ _ _) rfl ⟨⟨_, rfl⟩, HE.out.1, HE.out.2⟩
end
end Go.Proofs.Ybulkdlic
