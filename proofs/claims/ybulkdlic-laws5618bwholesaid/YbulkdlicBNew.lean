/-
  DERIVED. alloc.LawS5618BWhole: New(tiers, tiers...): every tier all free.
-/
import Derived.Test.YbulkdlicBAddP
namespace Go.Proofs.Ybulkdlic
open Go.RowKit

attribute [local go_sem ↓] Go.wp_at_zero Go.wp_at_succ

/-- The tiers' cells, as handed to New. -/
def gOf (n : Nat) (rev : Bool) (F Z : Nat → Nat) (t c : Nat) : Int := if c = 1 then (F (pr rev n t) : Int) else if c = 3 then (Z (pr rev n t) : Int) else 0

def LLm (n : Nat) (rev : Bool) (F Z : Nat → Nat) (m t : Nat) : List (Nat × Nat) := if t < m then [(F (pr rev n t), Z (pr rev n t))] else []
def ccm (n : Nat) (rev : Bool) (F Z : Nat → Nat) (m t : Nat) : Nat := if t < m then Z (pr rev n t) - F (pr rev n t) + 1 else 0

theorem ps_start {w w' : World} {n : Nat} {rev : Bool} {F Z : Nat → Nat} {pb : Option Addr} {cap BB : Nat} (hP : NPost w n (gOf n rev F Z) rev pb cap BB w') (hb : 0 < n → w.heap.size + 4 ≤ BB) :
    PS w.heap.size n rev F Z pb cap BB 0 (LLm n rev F Z 0) (ccm n rev F Z 0) (fun _ => .slice none 0 0) (fun _ => none) 0 (fun _ => false) 0 0 w' := by
  have hp := hP.pool
  have hl : w.heap.size + 4 ≤ w'.heap.size := by have := lt_of_block hp; omega
  have cel : ∀ (o : Nat) (u : Value), (#[Value.map (some w.heap.size), .map (some (w.heap.size + 1)), .slice (some ⟨w.heap.size + 2, 0, none⟩) n n, .slice pb n cap, .int .u64 0, .int .u64 0])[o]? = some u → w'.cell? ⟨w.heap.size + 3, o, none⟩ = some u := fun o u hu => by
    simp only [World.cell?, hp]
    exact hu
  have tc : ∀ t c, t < n → c < 7 → w'.cell? ⟨w.heap.size + 2, t * 7 + c, none⟩ = some (if c < 4 then .int .u64 (gOf n rev F Z t c) else tz c) := fun t c ht hc => by
    rw [hP.tiers.cell (by omega)]
    unfold tcell
    rw [show (t * 7 + c) / 7 = t by omega, show (t * 7 + c) % 7 = c by omega]
    by_cases h4 : c < 4
    · rw [if_pos ⟨ht, h4⟩, if_pos h4]
    · rw [if_neg (by omega), if_neg h4]
  have tq : ∀ i c, i < n → c < 4 → w'.cell? ⟨w.heap.size + 2, pr rev n i * 7 + c, none⟩ = some (.int .u64 (gOf n rev F Z (pr rev n i) c)) := fun i c hi hc => by
    have := tc (pr rev n i) c (pr_lt' rev hi) (by omega)
    rwa [if_pos hc] at this
  refine ⟨⟨cel 3 _ rfl, fun i hi => hP.row i hi, fun i hi => ?_, fun i hi => ?_, fun i hi => ?_, fun i hi => ?_⟩, hP.pbs, cel 0 _ rfl, cel 1 _ rfl, cel 2 _ rfl, cel 4 _ rfl, cel 5 _ rfl, fun i => by unfold World.frozen?; rw [hp]; simp, fun t ht => ?_, fun s t hs ht hne => .inl rfl, fun t ht => by simp [Value.ownBlock], HMap.of_empty hP.m0, BMp.of_empty hP.m1, hb, hl⟩
  · have := tq i 0 hi (by omega)
    exact this
  · have := tq i 1 hi (by omega)
    rw [show gOf n rev F Z (pr rev n i) 1 = (F i : Int) by unfold gOf; rw [if_pos rfl, @pr_pr' n i rev hi]] at this
    exact this
  · exact tq i 2 hi (by omega)
  · have := tq i 3 hi (by omega)
    rw [show gOf n rev F Z (pr rev n i) 3 = (Z i : Int) by unfold gOf; rw [if_neg (by omega), if_pos rfl, @pr_pr' n i rev hi]] at this
    exact this
  · have e1 : LLm n rev F Z 0 t = [] := by simp [LLm]
    have e2 : ccm n rev F Z 0 t = 0 := by simp [ccm]
    rw [e1, e2]
    exact ⟨tc t 4 ht (by omega), tc t 5 ht (by omega), tc t 6 ht (by omega), fun i => hP.tiers.frozen i, ⟨rfl, .inl ⟨rfl, rfl⟩⟩, by omega, hl⟩
theorem llm_step (n : Nat) (rev : Bool) (F Z : Nat → Nat) (m : Nat) : updL (LLm n rev F Z m) m [(F (pr rev n m), Z (pr rev n m))] = LLm n rev F Z (m + 1) := funext fun t => by
  unfold updL LLm
  by_cases e : t = m
  · rw [if_pos e, if_pos (by omega), e]
  · rw [if_neg e]
    by_cases e2 : t < m
    · rw [if_pos e2, if_pos (by omega)]
    · rw [if_neg e2, if_neg (by omega)]
theorem ccm_step (n : Nat) (rev : Bool) (F Z : Nat → Nat) (m : Nat) : updL (ccm n rev F Z m) m (Z (pr rev n m) - F (pr rev n m) + 1) = ccm n rev F Z (m + 1) := funext fun t => by
  unfold updL ccm
  by_cases e : t = m
  · rw [if_pos e, if_pos (by omega), e]
  · rw [if_neg e]
    by_cases e2 : t < m
    · rw [if_pos e2, if_pos (by omega)]
    · rw [if_neg e2, if_neg (by omega)]

set_option maxRecDepth 100000 in
set_option maxHeartbeats 2000000 in
theorem newB_walk (n IB : Nat) (p : Option Addr) (cp : Nat) (g : Nat → Nat → Int) (rev : Bool) (F Z : Nat → Nat) (HGG : Hid (Geo n F Z ∧ g = gOf n rev F Z)) (w : World) (hn : n ≤ 65536)
    (hix : ∀ (k : Nat), k < n → ∀ W, (Instr.indexAt 25 (.slice p n cp) (.int .i64 k)).run Yba.prog W = .ok (.pointer (some ⟨IB, k * 4, none⟩)) W)
    (hrk : ∀ x y, x < n → y < n → (cmp3 (g x 0) (g x 1) (g y 0) (g y 1) < 0 ↔ pr rev n x < pr rev n y))
    (hin : ∀ j, j < n → w.cell? ⟨IB, j * 4, none⟩ = some (.int .u64 (g j 0)) ∧ w.cell? ⟨IB, j * 4 + 1, none⟩ = some (.int .u64 (g j 1)) ∧ w.cell? ⟨IB, j * 4 + 2, none⟩ = some (.int .u64 (g j 2)) ∧ w.cell? ⟨IB, j * 4 + 3, none⟩ = some (.int .u64 (g j 3))) :
    Calls Yba.prog 6 #[.slice p n cp, .slice p n cp] w fun e w' => e = .returned (.pointer (some ⟨w.heap.size + 3, 0, none⟩)) ∧ ∃ pb cap BB vv sz, (n = 0 → pb = none) ∧ PS w.heap.size n rev F Z pb cap BB 0 (LLm n rev F Z n) (ccm n rev F Z n) vv (fun _ => none) 0 (fun _ => false) 0 sz w' ∧ PK w.heap.size w w' := by
  have HRK : Hid (∀ x y, x < n → y < n → (cmp3 (g x 0) (g x 1) (g y 0) (g y 1) < 0 ↔ pr rev n x < pr rev n y)) := hrk
  clear hrk
  have HXX : Hid (∀ (k : Nat), k < n → ∀ W, (Instr.indexAt 25 (.slice p n cp) (.int .i64 k)).run Yba.prog W = .ok (.pointer (some ⟨IB, k * 4, none⟩)) W) := hix
  clear hix
  have hmm := make44
  have hm2 := @run_makeMap Yba.prog
  have hm3 := make44 n hn
  have HIN : Hid (∀ j, j < n → w.cell? ⟨IB, j * 4, none⟩ = some (.int .u64 (g j 0)) ∧ w.cell? ⟨IB, j * 4 + 1, none⟩ = some (.int .u64 (g j 1)) ∧ w.cell? ⟨IB, j * 4 + 2, none⟩ = some (.int .u64 (g j 2)) ∧ w.cell? ⟨IB, j * 4 + 3, none⟩ = some (.int .u64 (g j 3))) := hin
  clear hin hmm
  obtain ⟨i0, hi, hz0, hz1, hz2⟩ := info_parts info40
  go_enter Yba.func6, Yba.ntmps6
  go_wp2
  clear hm2 hm3
  go_loopw [6, 7, 19] (fun _ _ i wr => ∃ (k : Nat) (v : Value), k ≤ n ∧ i = .int .i64 k ∧ NInv w n g k v wr ∧ (k = 0 → v = .slice none 0 0)) (fun _ _ i _ => n - (intOf i).toNat)
  case atStart => exact ⟨0, _, Nat.zero_le _, rfl, n_start w n g, fun _ => rfl⟩
  case round =>
    obtain ⟨k, v, hk, rfl, hinv, hnil⟩ := hrel
    have HNL : Hid (k = 0 → v = .slice none 0 0) := hnil
    clear hnil
    by_cases hlt : k < n
    · have hxk := HXX.out k hlt
      have hlI : (k : Int) < (n : Int) := by omega
      obtain ⟨a0, a1, a2, a3⟩ := HIN.out k hlt
      have hIB := World.block_lt_of_cell? _ _ a0
      have b0 : wr.cell? ⟨IB, k * 4, none⟩ = some (.int .u64 (g k 0)) := (hinv.below.cell (p := ⟨IB, k * 4, none⟩) hIB).trans a0
      have b1 : wr.cell? ⟨IB, k * 4 + 1, none⟩ = some (.int .u64 (g k 1)) := (hinv.below.cell (p := ⟨IB, k * 4 + 1, none⟩) hIB).trans a1
      have b2 : wr.cell? ⟨IB, k * 4 + 2, none⟩ = some (.int .u64 (g k 2)) := (hinv.below.cell (p := ⟨IB, k * 4 + 2, none⟩) hIB).trans a2
      have b3 : wr.cell? ⟨IB, k * 4 + 3, none⟩ = some (.int .u64 (g k 3)) := (hinv.below.cell (p := ⟨IB, k * 4 + 3, none⟩) hIB).trans a3
      have hls := lt_of_block hinv.pool
      have p2 : wr.cell? ⟨w.heap.size + 1 + 1 + 1, 2, none⟩ = some (.slice (some ⟨w.heap.size + 1 + 1, 0, none⟩) n n) := by have := hinv.pool; simp [World.cell?, this]
      have p3 : wr.cell? ⟨w.heap.size + 1 + 1 + 1, 3, none⟩ = some v := by have := hinv.pool; simp [World.cell?, this]
      have hq0 : w.heap.size + 1 + 1 + 1 < wr.heap.size := hls
      have hq1 : w.heap.size + 1 + 1 + 1 < wr.heap.size + 1 := by omega
      have hq2 : w.heap.size + 1 + 1 < wr.heap.size := by omega
      have hq3 : w.heap.size + 1 + 1 < wr.heap.size + 1 := by omega
      have t0 : wr.cell? ⟨w.heap.size + 1 + 1, k * 7, none⟩ = some (.int .u64 0) := by rw [hinv.tiers.cell (by omega)]; simp [tcell, tz]
      have t1 : wr.cell? ⟨w.heap.size + 1 + 1, k * 7 + 1, none⟩ = some (.int .u64 0) := by rw [hinv.tiers.cell (by omega)]; simp [tcell, tz]; omega
      have t2 : wr.cell? ⟨w.heap.size + 1 + 1, k * 7 + 2, none⟩ = some (.int .u64 0) := by rw [hinv.tiers.cell (by omega)]; simp [tcell, tz]; omega
      have t3 : wr.cell? ⟨w.heap.size + 1 + 1, k * 7 + 3, none⟩ = some (.int .u64 0) := by rw [hinv.tiers.cell (by omega)]; simp [tcell, tz]; omega
      have tf : ∀ c, wr.frozen? ⟨w.heap.size + 1 + 1, c, none⟩ = false := fun c => hinv.tiers.frozen c
      have HI : Hid (NInv w n g k v wr) := hinv
      clear hinv a0 a1 a2 a3
      go_wp2
      go_region
      go_wp2
      refine wp_at_world (fun X => NMid w n g k v X) (n_mid HI.out hlt) ?_
      clear p2 p3 t0 t1 t2 t3 tf b0 b1 b2 b3 hq0 hq1 hq2 hq3 hls HI
      intro X hm
      have p2 : X.cell? ⟨w.heap.size + 1 + 1 + 1, 2, none⟩ = some (.slice (some ⟨w.heap.size + 1 + 1, 0, none⟩) n n) := by have := hm.pool; simp [World.cell?, this]
      have p3 : X.cell? ⟨w.heap.size + 1 + 1 + 1, 3, none⟩ = some v := by have := hm.pool; simp [World.cell?, this]
      have hls := lt_of_block hm.pool
      have hq0 : w.heap.size + 1 + 1 + 1 < X.heap.size := hls
      have hq1 : w.heap.size + 1 + 1 + 1 < X.heap.size + 1 := by omega
      have HM : Hid (NMid w n g k v X) := hm
      clear hm
      go_region_law ((refine step_append_lies _ (by rfl) (.tmp 36) (.tmp 43) 48 (by rfl) (w.heap.size + 4) 40 i0 (.pointer none) 1 8 Yba.underlying48 hi hz0 hz1 hz2 rfl (by decide) v k ((List.range k).map fun j => .pointer (some ⟨w.heap.size + 2, j * 7, none⟩)) (by rfl) (n_own HM.out) ⟨X.heap.size, 0, none⟩ 1 1 [.pointer (some ⟨w.heap.size + 1 + 1, k * 7, none⟩)] (by rfl) rfl (n_news X _) (by simp [Value.oneCell']) (by omega) (by unfold maxLen; omega) (by omega) (by simp; omega) (X.heap.size + 1) (by simp) ?_; intro g1 cap1 w1 hown1 hgrow hat hlt1; obtain ⟨e1, e2, hnx⟩ := n_append HM.out hown1 hgrow))
      all_goals have HX : Hid (NInv w n g (k + 1) (.slice (some ⟨g1, 0, none⟩) (k + 1) cap1) (w1.setCell ⟨w.heap.size + 3, 3, none⟩ (.slice (some ⟨g1, 0, none⟩) (k + 1) cap1))) := hnx
      all_goals go_wp2
      all_goals go_roundw
      all_goals first | exact ⟨k + 1, _, by omega, by go_num, HX.out, fun e => by omega⟩ | (simp [intOf]; omega)
    · obtain rfl : k = n := by omega
      have p3 : wr.cell? ⟨w.heap.size + 1 + 1 + 1, 3, none⟩ = some v := by have := hinv.pool; simp [World.cell?, this]
      have hBBp : Hid (∀ pb cap BB, v = .slice pb k cap → (0 < k → pb = some ⟨BB, 0, none⟩) → 0 < k → w.heap.size + 4 ≤ BB) := fun pb cap BB hv hp h0 => by
        have ho := hinv.own
        rw [hv, hp h0] at ho
        exact (ho.lt BB rfl).1
      have hlI : ¬ (k : Int) < (k : Int) := by omega
      have HS : Hid (Calls Yba.prog 22 #[v, .func (.func 23) #[] #[]] wr fun e w' => e = .returned (.tuple #[]) ∧ ∃ pb cap BB, v = .slice pb k cap ∧ NPost w k g rev pb cap BB w') := n_sort rev hinv hn HRK.out
      clear hinv
      go_wp2_with (go_at_call 22; refine HS.out.mono ?_; rintro e w' ⟨rfl, pb, cap, BB, hv, hpo⟩; have HP : Hid (NPost w k g rev pb cap BB w' ∧ (0 < k → w.heap.size + 4 ≤ BB) ∧ (k = 0 → pb = none)) := ⟨hpo, hBBp.out pb cap BB hv hpo.pbs, fun e => by have e1 := HNL.out e; rw [hv] at e1; simp at e1; exact e1.1⟩; clear hpo hv p3)
      clear HS hBBp
      have HIN2 : Hid (∀ j, j < k → w.cell? ⟨IB, j * 4, none⟩ = some (.int .u64 0) ∧ w.cell? ⟨IB, j * 4 + 1, none⟩ = some (.int .u64 (F (pr rev k j) : Int)) ∧ w.cell? ⟨IB, j * 4 + 2, none⟩ = some (.int .u64 0) ∧ w.cell? ⟨IB, j * 4 + 3, none⟩ = some (.int .u64 (Z (pr rev k j) : Int))) := by
        have h1 := HIN.out
        rw [HGG.out.2] at h1
        exact fun j hj => h1 j hj
      have HP2 : Hid (PS w.heap.size k rev F Z pb cap BB 0 (LLm k rev F Z 0) (ccm k rev F Z 0) (fun _ => .slice none 0 0) (fun _ => none) 0 (fun _ => false) 0 0 w' ∧ PK w.heap.size w w' ∧ (k = 0 → pb = none)) := by
        obtain ⟨h1, h2, h3⟩ := HP.out
        refine ⟨ps_start (by rw [← HGG.out.2]; exact h1) h2, PK.of_below h1.below, h3⟩
      clear HP HIN HRK
      go_loopw [55] (fun i wz => ∃ (m : Nat) (vv : Nat → Value) (sz : Nat), m ≤ k ∧ i = .int .i64 m ∧ sz ≤ m * 256 ∧ PS w.heap.size k rev F Z pb cap BB 0 (LLm k rev F Z m) (ccm k rev F Z m) vv (fun _ => none) 0 (fun _ => false) 0 sz wz ∧ PK w.heap.size w wz) (fun i _ => k - (intOf i).toNat)
      case atStart => exact ⟨0, _, 0, Nat.zero_le _, rfl, Nat.le_refl _, HP2.out.1, HP2.out.2.1⟩
      case round =>
        have HPN : Hid (k = 0 → pb = none) := HP2.out.2.2
        clear HP2
        obtain ⟨m, vv, sz, hm, rfl, hsz, hPS, hPK⟩ := hrel
        by_cases hlt : m < k
        · have hxk := HXX.out m hlt
          have hlI : (m : Int) < (k : Int) := by omega
          obtain ⟨a0, a1, a2, a3⟩ := HIN2.out m hlt
          have hB := hPK.below (Nat.le_refl _)
          have hIB := World.block_lt_of_cell? _ _ a0
          have b0 := (hB.cell (p := ⟨IB, m * 4, none⟩) hIB).trans a0
          have b1 := (hB.cell (p := ⟨IB, m * 4 + 1, none⟩) hIB).trans a1
          have b2 := (hB.cell (p := ⟨IB, m * 4 + 2, none⟩) hIB).trans a2
          have b3 := (hB.cell (p := ⟨IB, m * 4 + 3, none⟩) hIB).trans a3
          have HA : Hid (∀ W, Below wr.heap.size wr W → Calls Yba.prog 25 #[.pointer (some ⟨w.heap.size + 3, 0, none⟩), .agg #[.int .u64 0, .int .u64 (F (pr rev k m) : Int), .int .u64 0, .int .u64 (Z (pr rev k m) : Int)]] W fun e w' => e = .returned (.tuple #[]) ∧ ∃ v', PS w.heap.size k rev F Z pb cap BB 0 (LLm k rev F Z (m + 1)) (ccm k rev F Z (m + 1)) (updL vv m v') (fun _ => none) 0 (fun _ => false) 0 (sz + (Z (pr rev k m) - F (pr rev k m) + 1)) w' ∧ PK w.heap.size W w') := fun W hb => by
            have := addP_any HGG.out.1 (hPS.below hb) (pr rev k m) (pr_lt' rev hlt) (by rw [pr_pr' rev hlt]; simp [LLm]) (by rw [pr_pr' rev hlt]; simp [ccm]) (by have := HGG.out.1.le; omega)
            rw [pr_pr' rev hlt, llm_step, ccm_step] at this
            exact this
          have HK : Hid (PK w.heap.size w wr ∧ sz + (Z (pr rev k m) - F (pr rev k m) + 1) ≤ (m + 1) * 256) := ⟨hPK, by have := HGG.out.1.fz _ (pr_lt' rev hlt); omega⟩
          clear hPS hPK hB a0 a1 a2 a3
          go_wp2_with (go_at_call 25; refine (HA.out _ (below_one _)).mono ?_; rintro e w2 ⟨rfl, v', hP2, hK2⟩)
          exact ⟨⟨m + 1, _, _, by omega, by go_num, HK.out.2, hP2, HK.out.1.trans ((PK.of_below (below_one _)).trans hK2)⟩, by simp [intOf]; omega⟩
        · obtain rfl : m = k := by omega
          have hlI : ¬ (m : Int) < (m : Int) := by omega
          have HE : Hid (PS w.heap.size m rev F Z pb cap BB 0 (LLm m rev F Z m) (ccm m rev F Z m) vv (fun _ => none) 0 (fun _ => false) 0 sz wr ∧ PK w.heap.size w wr) := ⟨hPS, hPK⟩
          clear hPS hPK
          go_wp2
          refine bodyPost_ret (results_tmp rfl _ _ _) rfl ⟨rfl, ?_⟩
          exact ⟨_, HPN.out, ⟨_, _, _, _, HE.out.1⟩, HE.out.2⟩

theorem Geo.lt_iff {n : Nat} {F Z : Nat → Nat} (G : Geo n F Z) {i j : Nat} (hi : i < n) (hj : j < n) : F i < F j ↔ i < j := by
  constructor
  · intro h
    refine Nat.lt_of_not_le fun e => ?_
    rcases Nat.lt_or_eq_of_le e with e | e
    · have := G.sep j i e hi; have := (G.fz j hj).1; omega
    · subst e; omega
  · intro h
    have := G.sep i j h hj; have := (G.fz i hi).1; omega

/-- New(tiers, tiers...). -/
theorem newB_any {n IB : Nat} {p : Option Addr} {cp : Nat} (rev : Bool) {F Z : Nat → Nat} (G : Geo n F Z) {w : World}
    (hix : ∀ (k : Nat), k < n → ∀ W, (Instr.indexAt 25 (.slice p n cp) (.int .i64 k)).run Yba.prog W = .ok (.pointer (some ⟨IB, k * 4, none⟩)) W)
    (hin : ∀ j, j < n → w.cell? ⟨IB, j * 4, none⟩ = some (.int .u64 0) ∧ w.cell? ⟨IB, j * 4 + 1, none⟩ = some (.int .u64 (F (pr rev n j) : Int)) ∧ w.cell? ⟨IB, j * 4 + 2, none⟩ = some (.int .u64 0) ∧ w.cell? ⟨IB, j * 4 + 3, none⟩ = some (.int .u64 (Z (pr rev n j) : Int))) :
    Calls Yba.prog 6 #[.slice p n cp, .slice p n cp] w fun e w' => e = .returned (.pointer (some ⟨w.heap.size + 3, 0, none⟩)) ∧ ∃ pb cap BB sz, (n = 0 → pb = none) ∧ PI w.heap.size n rev F Z pb cap BB sz 0 w' ∧ PK w.heap.size w w' := by
  refine (newB_walk n IB p cp (gOf n rev F Z) rev F Z ⟨G, rfl⟩ w (by have := G.le; omega) hix (fun x y hx hy => ?_) (fun j hj => hin j hj)).mono ?_
  · have := G.lt_iff (pr_lt' rev hx) (pr_lt' rev hy)
    rw [← this]
    exact cmp0 _ _
  · rintro e w' ⟨rfl, pb, cap, BB, vv, sz, hN, hP, hK⟩
    refine ⟨rfl, pb, cap, BB, sz, hN, hP.pi ⟨fun t ht => ?_, fun t ht r hr => ?_, fun t ht => ?_, fun s x hs => by cases hs⟩, hK⟩
    · have := G.fz _ (pr_lt' rev ht)
      unfold LLm
      rw [if_pos ht]
      exact ⟨fun r hr => by rw [List.mem_singleton.1 hr]; exact this.1, by simp⟩
    · unfold LLm at hr
      rw [if_pos ht] at hr
      rw [List.mem_singleton.1 hr]
      exact ⟨Nat.le_refl _, Nat.le_refl _⟩
    · have := G.fz _ (pr_lt' rev ht)
      unfold LLm ccm
      rw [if_pos ht, if_pos ht, cntL_cons, cntL_nil]
      simp only
      omega

end Go.Proofs.Ybulkdlic
