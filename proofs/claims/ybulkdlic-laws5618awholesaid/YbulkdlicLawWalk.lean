/-
  DERIVED. alloc.LawS5618AWhole: THE LAW, WALKED.
-/
import Derived.Test.YbulkdlicState7
namespace Go.Proofs.Ybulkdlic
open Go.RowKit Go.Shelf

attribute [local go_sem] Oper.semAt_some wide_fn equal40
attribute [local go_sem ↓] asked_wide neq40
attribute [local go_sem ↓] Go.wp_at_zero Go.wp_at_succ

set_option maxRecDepth 100000 in
set_option maxHeartbeats 40000000 in
theorem law_walk (h : Int) (n cap Bt : Nat) (pt : Option Addr) (ot gap ln : Nat → Nat) (rev : Bool) (rfLo rlLo rfHi rlHi : Int) (sN : Nat) (w : World) (hn : n ≤ 65536) (hsN : sN ≤ 255)
    (hix : ∀ (k : Nat), k < n → ∀ W, (Instr.indexAt 23 (.slice pt n cap) (.int .i64 k)).run Yba.prog W = .ok (.pointer (some ⟨Bt, ot k, none⟩)) W)
    (hts : ∀ k, k < n → w.cell? ⟨Bt, ot k, none⟩ = some (.int .u8 (gap k : Int)) ∧ w.cell? ⟨Bt, ot k + 1, none⟩ = some (.int .u8 (ln k : Int)))
    (hg : ∀ k, gap k ≤ 255) (hl : ∀ k, ln k ≤ 255) :
    Calls Yba.prog 3 #[.int .u64 h, .slice pt n cap, .bool rev, .int .u16 rfLo, .int .u16 rlLo, .int .u8 rfHi, .int .u8 rlHi, .int .u8 (sN : Int)] w fun e w' => e = .returned (.bool true) ∧ Below w.heap.size w w' := by
  have hm3 := make31 n hn
  have HX : Hid (∀ (k : Nat), k < n → ∀ W, (Instr.indexAt 23 (.slice pt n cap) (.int .i64 k)).run Yba.prog W = .ok (.pointer (some ⟨Bt, ot k, none⟩)) W) := hix
  have HT : Hid (∀ k, k < n → w.cell? ⟨Bt, ot k, none⟩ = some (.int .u8 (gap k : Int)) ∧ w.cell? ⟨Bt, ot k + 1, none⟩ = some (.int .u8 (ln k : Int))) := hts
  clear hix hts
  refine (callsIn_wide (n := 3)).1 ?_
  refine callsIn_of_wp_marks Yba.func3 rfl trivial ?_ rfl
  refine wpIn_wide.2 ?_
  refine Code.wp_mono NoPanic.imp ?_
  simp only [Yba.ntmps3, List.size_toArray, List.length_cons, List.length_nil, Nat.reduceAdd, Nat.reduceSub, Array.replicate_succ, Array.replicate_zero, List.push_toArray, List.append_toArray, List.nil_append, List.cons_append]
  go_wp2
  clear hm3
  go_loopw [19, 20, 21, 22] (fun c i _ _ wr => ∃ k : Nat, k ≤ n ∧ i = .int .i64 k ∧ c = .int .u64 (curN gap ln k : Int) ∧ AInv w n rev (sval h gap ln) k wr) (fun _ i _ _ _ => n - (intOf i).toNat)
  case atStart => exact ⟨0, Nat.zero_le _, rfl, rfl, a_start w n rev _⟩
  case round =>
    obtain ⟨k, hk, rfl, rfl, hinv⟩ := hrel
    have hbn : wr.cell? ⟨w.heap.size + 1, 0, none⟩ = some (.int .i64 (n : Int)) := by have := hinv.bn; simp [World.cell?, this]
    by_cases hlt : k < n
    · have hx := HX.out k hlt
      obtain ⟨a0, a1⟩ := HT.out k hlt
      have hBt := World.block_lt_of_cell? _ _ a0
      have b0 : wr.cell? ⟨Bt, ot k, none⟩ = some (.int .u8 (gap k : Int)) := (hinv.below.cell (p := ⟨Bt, ot k, none⟩) hBt).trans a0
      have b1 : wr.cell? ⟨Bt, ot k + 1, none⟩ = some (.int .u8 (ln k : Int)) := (hinv.below.cell (p := ⟨Bt, ot k + 1, none⟩) hBt).trans a1
      have hc := curN_le gap ln hg hl k
      have hgk := hg k
      have hlk := hl k
      have hcI : curN gap ln k ≤ 33488896 := by omega
      have s0 : wr.cell? ⟨w.heap.size + 1 + 1, k * 4, none⟩ = some (.int .u64 0) := by rw [hinv.sorted.cell (by omega)]; simp [scell]
      have s1 : wr.cell? ⟨w.heap.size + 1 + 1, k * 4 + 1, none⟩ = some (.int .u64 0) := by rw [hinv.sorted.cell (by omega)]; simp [scell]; omega
      have s2 : wr.cell? ⟨w.heap.size + 1 + 1, k * 4 + 2, none⟩ = some (.int .u64 0) := by rw [hinv.sorted.cell (by omega)]; simp [scell]; omega
      have s3 : wr.cell? ⟨w.heap.size + 1 + 1, k * 4 + 3, none⟩ = some (.int .u64 0) := by rw [hinv.sorted.cell (by omega)]; simp [scell]; omega
      have sf : ∀ c, wr.frozen? ⟨w.heap.size + 1 + 1, c, none⟩ = false := fun c => hinv.sorted.frozen c
      have HI : Hid (AInv w n rev (sval h gap ln) k wr) := hinv
      clear hinv a0 a1 hc hg hl
      go_wp2
      exact ⟨⟨k + 1, by omega, by go_num, by simp [curN], a_step HI.out _ _ _ _ rfl (by simp [sval, firN]) rfl (by simp [sval, lasN])⟩, by simp [intOf]; omega⟩
    · obtain rfl : k = n := by omega
      have hm3 := make31 k hn
      have hsz := hinv.size
      have HI : Hid (AInv w k rev (sval h gap ln) k wr) := hinv
      clear hinv
      go_wp2
      clear hm3
      go_loopw [24] (fun i wr => ∃ m : Nat, m ≤ k ∧ i = .int .i64 m ∧ BInv w k rev (sval h gap ln) m wr) (fun i _ => k - (intOf i).toNat)
      case atStart => exact ⟨0, Nat.zero_le _, rfl, b_start HI.out⟩
      case round =>
        obtain ⟨m, hm, rfl, hinv⟩ := hrel
        have hbn : wr.cell? ⟨w.heap.size + 1, 0, none⟩ = some (.int .i64 (k : Int)) := by have := hinv.bn; simp [World.cell?, this]
        have hbr : wr.cell? ⟨w.heap.size, 0, none⟩ = some (.bool rev) := by have := hinv.brev; simp [World.cell?, this]
        by_cases hlt : m < k
        · obtain ⟨j, hj⟩ : ∃ j, pr rev k m = j := ⟨_, rfl⟩
          have hjk : j < k := by rw [← hj]; unfold pr; split <;> omega
          have hjj : pr rev k j = m := by rw [← hj]; unfold pr; split <;> omega
          have hap : ∀ W, Calls Yba.prog 5 #[.bool rev, .int .i64 (k : Int), .int .i64 (m : Int)] W fun e w' => e = .returned (.int .i64 (j : Int)) ∧ w' = W := fun W => by
            rw [← hj]; exact apref_nat rev k m hn hlt W
          have s0 : wr.cell? ⟨w.heap.size + 1 + 1, m * 4, none⟩ = some (.int .u64 (sval h gap ln m 0)) := by rw [hinv.sorted.cell (by omega)]; simp [scell]
          have s1 : wr.cell? ⟨w.heap.size + 1 + 1, m * 4 + 1, none⟩ = some (.int .u64 (sval h gap ln m 1)) := by rw [hinv.sorted.cell (by omega)]; simp [scell, show (m * 4 + 1) / 4 = m by omega]
          have s2 : wr.cell? ⟨w.heap.size + 1 + 1, m * 4 + 2, none⟩ = some (.int .u64 (sval h gap ln m 2)) := by rw [hinv.sorted.cell (by omega)]; simp [scell, show (m * 4 + 2) / 4 = m by omega]
          have s3 : wr.cell? ⟨w.heap.size + 1 + 1, m * 4 + 3, none⟩ = some (.int .u64 (sval h gap ln m 3)) := by rw [hinv.sorted.cell (by omega)]; simp [scell, show (m * 4 + 3) / 4 = m by omega]
          have t0 : wr.cell? ⟨w.heap.size + 3, j * 4, none⟩ = some (.int .u64 0) := by rw [hinv.inr.cell (by omega)]; simp [scell, hjj]
          have t1 : wr.cell? ⟨w.heap.size + 3, j * 4 + 1, none⟩ = some (.int .u64 0) := by rw [hinv.inr.cell (by omega)]; simp [scell, show (j * 4 + 1) / 4 = j by omega, hjj]
          have t2 : wr.cell? ⟨w.heap.size + 3, j * 4 + 2, none⟩ = some (.int .u64 0) := by rw [hinv.inr.cell (by omega)]; simp [scell, show (j * 4 + 2) / 4 = j by omega, hjj]
          have t3 : wr.cell? ⟨w.heap.size + 3, j * 4 + 3, none⟩ = some (.int .u64 0) := by rw [hinv.inr.cell (by omega)]; simp [scell, show (j * 4 + 3) / 4 = j by omega, hjj]
          have tf : ∀ c, wr.frozen? ⟨w.heap.size + 3, c, none⟩ = false := fun c => hinv.inr.frozen c
          have HB : Hid (BInv w k rev (sval h gap ln) m wr) := hinv
          have HJ : Hid (pr rev k m = j ∧ pr rev k j = m) := ⟨hj, hjj⟩
          clear hinv hj hjj
          go_wp2
          go_region_with (go_at_call 5; refine (hap _).mono ?_; rintro e w' ⟨rfl, rfl⟩)
          all_goals go_wp2
          all_goals exact ⟨⟨m + 1, by omega, by go_num, b_step HB.out hjk HJ.out.1 HJ.out.2⟩, by simp [intOf]; omega⟩
        · obtain rfl : m = k := by omega
          have hsz4 := hinv.size
          have HB : Hid (BInv w m rev (sval h gap ln) m wr) := hinv
          have hnew : Hid (Calls Yba.prog 6 #[.slice (some ⟨w.heap.size + 3, 0, none⟩) m m, .slice none 0 0] wr fun e w' => e = .returned (.pointer (some ⟨wr.heap.size + 3, 0, none⟩)) ∧ ∃ pb cap BB, NPost wr m (fun j => sval h gap ln (pr rev m j)) rev pb cap BB w') := b_new hinv hn
          clear hinv
          go_wp2_with (go_at_call 6; refine hnew.out.mono ?_; rintro e w' ⟨rfl, pb, cap', BB, hpo⟩; have HP : Hid (NPost wr m (fun j => sval h gap ln (pr rev m j)) rev pb cap' BB w') := hpo; clear hpo)
          generalize IntKind.u64.wrap (IntKind.u64.wrap (h + IntKind.u64.wrap (rfHi.tmod 3)) - 1) = th
          generalize IntKind.u64.wrap (IntKind.u64.wrap (h + IntKind.u64.wrap (rlHi.tmod 3)) - 1) = uh
          generalize IntKind.u64.wrap rfLo = tl
          generalize IntKind.u64.wrap rlLo = ul
          obtain ⟨i0, c, hic, hlo, hhi, hcd⟩ := plain h (firN gap ln) (lasN gap ln) th tl uh ul m (fun i => by unfold firN lasN; omega) (fun i j hij => by have := firN_lt gap ln hij; unfold firN; omega)
          have HPL : Hid ((∀ k, k < i0 → cmp3 h (lasN gap ln k) th tl < 0) ∧ (∀ k, i0 ≤ k → k < m → ¬ cmp3 h (lasN gap ln k) th tl < 0) ∧ ∀ k, k < m → (Cond h (firN gap ln) (lasN gap ln) th tl uh ul k ↔ i0 ≤ k ∧ k < i0 + c)) := ⟨hlo, hhi, hcd⟩
          clear hlo hhi hcd hnew HX HI hsz hg hl hbn hbr
          obtain ⟨M, hM⟩ : ∃ M, w'.heap.size = M := ⟨_, rfl⟩
          rw [hM]
          have HD0 : Hid (DInv w m rev h gap ln pb cap' BB M th tl uh ul i0 (cnt i0 c 0) (cnt i0 c 0) (.slice none 0 0) (.slice none 0 0) ((((w'.alloc (.cells #[.pointer (some ⟨w.heap.size + 4 + 3, 0, none⟩)] 33)).alloc (.cells #[.int .u64 th, .int .u64 tl, .int .u64 uh, .int .u64 ul] 31)).alloc (.cells #[.slice none 0 0] 35)).alloc (.cells #[.slice none 0 0] 25))) := d_start th tl uh ul i0 c hM HB.out HP.out
          clear HB HP hM hsz4 HT
          go_loopw [29, 30, 31, 32] (fun i _ _ _ wr => ∃ (k : Nat) (vi vp : Value), k ≤ m ∧ i = .int .i64 k ∧ DInv w m rev h gap ln pb cap' BB M th tl uh ul i0 (cnt i0 c k) (cnt i0 c k) vi vp wr) (fun i _ _ _ _ => m - (intOf i).toNat)
          case atStart => exact ⟨0, _, _, Nat.zero_le _, rfl, HD0.out⟩
          case round =>
            clear HD0
            obtain ⟨k, vi, vp, hk, rfl, hinv⟩ := hrel
            have hbn := hinv.cb.bn
            by_cases hlt : k < m
            · have s0 : wr.cell? ⟨w.heap.size + 1 + 1, k * 4, none⟩ = some (.int .u64 h) := hinv.cb.sorted k 0 hlt (by omega)
              have s1 : wr.cell? ⟨w.heap.size + 1 + 1, k * 4 + 1, none⟩ = some (.int .u64 (firN gap ln k : Int)) := hinv.cb.sorted k 1 hlt (by omega)
              have s2 : wr.cell? ⟨w.heap.size + 1 + 1, k * 4 + 2, none⟩ = some (.int .u64 h) := hinv.cb.sorted k 2 hlt (by omega)
              have s3 : wr.cell? ⟨w.heap.size + 1 + 1, k * 4 + 3, none⟩ = some (.int .u64 (lasN gap ln k : Int)) := hinv.cb.sorted k 3 hlt (by omega)
              have r0 := hinv.cb.r0
              have r1 := hinv.cb.r1
              have r2 := hinv.cb.r2
              have r3 := hinv.cb.r3
              have lM : M + 1 < wr.heap.size := World.block_lt_of_cell? _ _ r0
              have lM1 : M + 1 < wr.heap.size + 1 := by omega
              have lM2 : M + 1 < wr.heap.size + 1 + 1 := by omega
              have lM3 : M + 1 < wr.heap.size + 1 + 1 + 1 := by omega
              have lM4 : M + 1 < wr.heap.size + 1 + 1 + 1 + 1 := by omega
              have lM5 : M + 1 < wr.heap.size + 1 + 1 + 1 + 1 + 1 := by omega
              have lM6 : M + 1 < wr.heap.size + 1 + 1 + 1 + 1 + 1 + 1 := by omega
              have lM7 : M + 1 < wr.heap.size + 1 + 1 + 1 + 1 + 1 + 1 + 1 := by omega
              have lM8 : M + 1 < wr.heap.size + 1 + 1 + 1 + 1 + 1 + 1 + 1 + 1 := by omega
              have lM9 : M + 1 < wr.heap.size + 1 + 1 + 1 + 1 + 1 + 1 + 1 + 1 + 1 := by omega
              have lM10 : M + 1 < wr.heap.size + 1 + 1 + 1 + 1 + 1 + 1 + 1 + 1 + 1 + 1 := by omega
              have lM11 : M + 1 < wr.heap.size + 1 + 1 + 1 + 1 + 1 + 1 + 1 + 1 + 1 + 1 + 1 := by omega
              have lM12 : M + 1 < wr.heap.size + 1 + 1 + 1 + 1 + 1 + 1 + 1 + 1 + 1 + 1 + 1 + 1 := by omega
              have hcd := HPL.out.2.2 k hlt
              have H1 := acmp_any th tl uh ul
              have H2 := acmp_any h (firN gap ln k) uh ul
              have H3 := acmp_any th tl h (lasN gap ln k)
              have HD : Hid (DInv w m rev h gap ln pb cap' BB M th tl uh ul i0 (cnt i0 c k) (cnt i0 c k) vi vp wr) := hinv
              clear hinv
              by_cases hA : cmp3 th tl uh ul ≤ 0
              · by_cases hBc : cmp3 h (firN gap ln k) uh ul ≤ 0
                · by_cases hC : cmp3 th tl h (lasN gap ln k) ≤ 0
                  · obtain ⟨hs1, hs2⟩ := cnt_take (hcd.1 ⟨hA, hBc, hC⟩)
                    have hkk : Hid (i0 + cnt i0 c k = k) := hs2
                    have HV : Hid (∀ b, vi.ownBlock = some b → b < wr.heap.size) := fun b hb => (HD.out.oi.lt b hb).2
                    have hl3 := lt_of_block HD.out.bq
                    have hqk : cnt i0 c k ≤ 65536 := by unfold cnt; omega
                    have bI : wr.cell? ⟨M + 1 + 1, 0, none⟩ = some vi := by have := HD.out.bi; simp [World.cell?, this]
                    have lN0 : M + 1 + 1 < wr.heap.size := by omega
                    have hcs : cnt i0 c (k + 1) = cnt i0 c k + 1 := hs1
                    clear hcd hs2 hs1
                    have H4 := acmp_any th tl h (firN gap ln k)
                    have H5 := acmp_any uh ul h (lasN gap ln k)
                    have G1 : Hid (∀ W, Calls Yba.prog 7 #[.agg #[.int .u64 th, .int .u64 tl], .agg #[.int .u64 uh, .int .u64 ul]] W _) := H1
                    have G2 : Hid (∀ W, Calls Yba.prog 7 #[.agg #[.int .u64 h, .int .u64 (firN gap ln k : Int)], .agg #[.int .u64 uh, .int .u64 ul]] W _) := H2
                    have G3 : Hid (∀ W, Calls Yba.prog 7 #[.agg #[.int .u64 th, .int .u64 tl], .agg #[.int .u64 h, .int .u64 (lasN gap ln k : Int)]] W _) := H3
                    have G4 : Hid (∀ W, Calls Yba.prog 7 #[.agg #[.int .u64 th, .int .u64 tl], .agg #[.int .u64 h, .int .u64 (firN gap ln k : Int)]] W _) := H4
                    have G5 : Hid (∀ W, Calls Yba.prog 7 #[.agg #[.int .u64 uh, .int .u64 ul], .agg #[.int .u64 h, .int .u64 (lasN gap ln k : Int)]] W _) := H5
                    clear H1 H2 H3 H4 H5
                    by_cases hf : cmp3 th tl h (firN gap ln k) > 0
                    · by_cases hz : cmp3 uh ul h (lasN gap ln k) < 0
                      · have hpc : Hid (pcells (plOf w m rev h gap ln pb cap' BB) th tl uh ul k = [.int .u64 th, .int .u64 tl, .int .u64 uh, .int .u64 ul]) := pc true true k (by simpa using hf) (by simpa using hz)
                        have n1 : ¬ M + 1 + 1 = wr.heap.size + 1 + 1 + 1 + 1 + 1 + 1 + 1 := by omega
                        have n2 : ¬ M + 1 + 1 = wr.heap.size + 1 + 1 + 1 + 1 + 1 + 1 + 1 + 1 + 1 + 1 := by omega
                        have n3 : ¬ wr.heap.size + 1 + 1 + 1 + 1 + 1 + 1 + 1 = M + 1 + 1 := by omega
                        have n4 : ¬ wr.heap.size + 1 + 1 + 1 + 1 + 1 + 1 + 1 + 1 + 1 + 1 = M + 1 + 1 := by omega
                        go_wp2_with (first | (go_at_call_of 7 (Value.agg #[.int .u64 th, .int .u64 tl]); refine (G1.out _).mono ?_; clear G1; rintro e w1 ⟨rfl, rfl⟩) | (go_at_call_of 7 (Value.agg #[.int .u64 h, .int .u64 (firN gap ln k : Int)]); refine (G2.out _).mono ?_; clear G2; rintro e w1 ⟨rfl, rfl⟩) | (go_at_call_of 7 (Value.agg #[.int .u64 th, .int .u64 tl]); refine (G3.out _).mono ?_; clear G3; rintro e w1 ⟨rfl, rfl⟩) | (go_at_call_of 7 (Value.agg #[.int .u64 th, .int .u64 tl]); refine (G4.out _).mono ?_; clear G4; rintro e w1 ⟨rfl, rfl⟩) | (go_at_call_of 7 (Value.agg #[.int .u64 uh, .int .u64 ul]); refine (G5.out _).mono ?_; clear G5; rintro e w1 ⟨rfl, rfl⟩) | (at_builtin; refine app1 (by rfl) k (wr.heap.size + 1 + 1 + 1 + 1 + 1 + 1 + 1 + 1 + 1 + 1 + 1 + 1 + 1) (by rfl) hkk.out (by omega) (HD.out.later (by repeat (first | exact Below.refl _ _ | refine Below.alloc ?_ (by (try simp only [World.size_alloc]); omega) _))) (by simp) (by rfl) (by rfl) ?_; intro g1 cap1 w1 x1 x2 x5 x3 x4; have y0 : w1.cell? ⟨wr.heap.size + 1 + 1 + 1 + 1 + 1 + 1 + 1, 0, none⟩ = some (.int .u64 th) := grow_cell x3 HV.out (by omega) (keepA _ (keepA _ (keepA _ (keepA _ (keepA _ (keepA _ (newAt (by simp) rfl))))))); have y1 : w1.cell? ⟨wr.heap.size + 1 + 1 + 1 + 1 + 1 + 1 + 1, 1, none⟩ = some (.int .u64 tl) := grow_cell x3 HV.out (by omega) (keepA _ (keepA _ (keepA _ (keepA _ (keepA _ (keepA _ (newAt (by simp) rfl))))))); have y2 : w1.cell? ⟨wr.heap.size + 1 + 1 + 1 + 1 + 1 + 1 + 1 + 1 + 1 + 1, 0, none⟩ = some (.int .u64 uh) := grow_cell x3 HV.out (by omega) (keepA _ (keepA _ (keepA _ (newAt (by simp) rfl)))); have y3 : w1.cell? ⟨wr.heap.size + 1 + 1 + 1 + 1 + 1 + 1 + 1 + 1 + 1 + 1, 1, none⟩ = some (.int .u64 ul) := grow_cell x3 HV.out (by omega) (keepA _ (keepA _ (keepA _ (newAt (by simp) rfl)))); have HX4 : Hid (DInv w m rev h gap ln pb cap' BB M th tl uh ul i0 (cnt i0 c k + 1) (cnt i0 c k) (.slice (some ⟨g1, 0, none⟩) (cnt i0 c k + 1) cap1) vp (w1.setCell ⟨M + 1 + 1, 0, none⟩ (.slice (some ⟨g1, 0, none⟩) (cnt i0 c k + 1) cap1))) := x4; clear x3 x4) | (at_builtin; refine app2 (by rfl) k w1.heap.size th tl uh ul (by rfl) hkk.out (by omega) HX4.out (by simp) hpc.out (by rfl) (by rfl) ?_; intro g2 cap2 w2 z1 z2 z3; have HX5 : Hid (DInv w m rev h gap ln pb cap' BB M th tl uh ul i0 (cnt i0 c k + 1) (cnt i0 c k + 1) (.slice (some ⟨g1, 0, none⟩) (cnt i0 c k + 1) cap1) (.slice (some ⟨g2, 0, none⟩) (cnt i0 c k + 1) cap2) (w2.setCell ⟨M + 1 + 1 + 1, 0, none⟩ (.slice (some ⟨g2, 0, none⟩) (cnt i0 c k + 1) cap2))) := z3; clear z3))
                        exact ⟨⟨k + 1, _, _, by omega, by go_num, by rw [hcs]; exact HX5.out⟩, by simp [intOf]; omega⟩
                      · have hpc : Hid (pcells (plOf w m rev h gap ln pb cap' BB) th tl uh ul k = [.int .u64 th, .int .u64 tl, .int .u64 h, .int .u64 (lasN gap ln k : Int)]) := pc true false k (by simpa using hf) (by simpa using hz)
                        have n1 : ¬ M + 1 + 1 = wr.heap.size + 1 + 1 + 1 + 1 + 1 + 1 + 1 := by omega
                        have n2 : ¬ M + 1 + 1 = wr.heap.size + 1 + 1 + 1 + 1 + 1 + 1 + 1 + 1 + 1 + 1 := by omega
                        have n3 : ¬ wr.heap.size + 1 + 1 + 1 + 1 + 1 + 1 + 1 = M + 1 + 1 := by omega
                        have n4 : ¬ wr.heap.size + 1 + 1 + 1 + 1 + 1 + 1 + 1 + 1 + 1 + 1 = M + 1 + 1 := by omega
                        go_wp2_with (first | (go_at_call_of 7 (Value.agg #[.int .u64 th, .int .u64 tl]); refine (G1.out _).mono ?_; clear G1; rintro e w1 ⟨rfl, rfl⟩) | (go_at_call_of 7 (Value.agg #[.int .u64 h, .int .u64 (firN gap ln k : Int)]); refine (G2.out _).mono ?_; clear G2; rintro e w1 ⟨rfl, rfl⟩) | (go_at_call_of 7 (Value.agg #[.int .u64 th, .int .u64 tl]); refine (G3.out _).mono ?_; clear G3; rintro e w1 ⟨rfl, rfl⟩) | (go_at_call_of 7 (Value.agg #[.int .u64 th, .int .u64 tl]); refine (G4.out _).mono ?_; clear G4; rintro e w1 ⟨rfl, rfl⟩) | (go_at_call_of 7 (Value.agg #[.int .u64 uh, .int .u64 ul]); refine (G5.out _).mono ?_; clear G5; rintro e w1 ⟨rfl, rfl⟩) | (at_builtin; refine app1 (by rfl) k (wr.heap.size + 1 + 1 + 1 + 1 + 1 + 1 + 1 + 1 + 1 + 1 + 1 + 1 + 1) (by rfl) hkk.out (by omega) (HD.out.later (by repeat (first | exact Below.refl _ _ | refine Below.alloc ?_ (by (try simp only [World.size_alloc]); omega) _))) (by simp) (by rfl) (by rfl) ?_; intro g1 cap1 w1 x1 x2 x5 x3 x4; have y0 : w1.cell? ⟨wr.heap.size + 1 + 1 + 1 + 1 + 1 + 1 + 1, 0, none⟩ = some (.int .u64 th) := grow_cell x3 HV.out (by omega) (keepA _ (keepA _ (keepA _ (keepA _ (keepA _ (keepA _ (newAt (by simp) rfl))))))); have y1 : w1.cell? ⟨wr.heap.size + 1 + 1 + 1 + 1 + 1 + 1 + 1, 1, none⟩ = some (.int .u64 tl) := grow_cell x3 HV.out (by omega) (keepA _ (keepA _ (keepA _ (keepA _ (keepA _ (keepA _ (newAt (by simp) rfl))))))); have y2 : w1.cell? ⟨wr.heap.size + 1 + 1 + 1 + 1 + 1 + 1 + 1 + 1 + 1 + 1, 0, none⟩ = some (.int .u64 h) := grow_cell x3 HV.out (by omega) (keepA _ (keepA _ (keepA _ (newAt (by simp) rfl)))); have y3 : w1.cell? ⟨wr.heap.size + 1 + 1 + 1 + 1 + 1 + 1 + 1 + 1 + 1 + 1, 1, none⟩ = some (.int .u64 (lasN gap ln k : Int)) := grow_cell x3 HV.out (by omega) (keepA _ (keepA _ (keepA _ (newAt (by simp) rfl)))); have HX4 : Hid (DInv w m rev h gap ln pb cap' BB M th tl uh ul i0 (cnt i0 c k + 1) (cnt i0 c k) (.slice (some ⟨g1, 0, none⟩) (cnt i0 c k + 1) cap1) vp (w1.setCell ⟨M + 1 + 1, 0, none⟩ (.slice (some ⟨g1, 0, none⟩) (cnt i0 c k + 1) cap1))) := x4; clear x3 x4) | (at_builtin; refine app2 (by rfl) k w1.heap.size th tl h (lasN gap ln k : Int) (by rfl) hkk.out (by omega) HX4.out (by simp) hpc.out (by rfl) (by rfl) ?_; intro g2 cap2 w2 z1 z2 z3; have HX5 : Hid (DInv w m rev h gap ln pb cap' BB M th tl uh ul i0 (cnt i0 c k + 1) (cnt i0 c k + 1) (.slice (some ⟨g1, 0, none⟩) (cnt i0 c k + 1) cap1) (.slice (some ⟨g2, 0, none⟩) (cnt i0 c k + 1) cap2) (w2.setCell ⟨M + 1 + 1 + 1, 0, none⟩ (.slice (some ⟨g2, 0, none⟩) (cnt i0 c k + 1) cap2))) := z3; clear z3))
                        exact ⟨⟨k + 1, _, _, by omega, by go_num, by rw [hcs]; exact HX5.out⟩, by simp [intOf]; omega⟩
                    · by_cases hz : cmp3 uh ul h (lasN gap ln k) < 0
                      · have hpc : Hid (pcells (plOf w m rev h gap ln pb cap' BB) th tl uh ul k = [.int .u64 h, .int .u64 (firN gap ln k : Int), .int .u64 uh, .int .u64 ul]) := pc false true k (by simpa using hf) (by simpa using hz)
                        have n1 : ¬ M + 1 + 1 = wr.heap.size + 1 + 1 + 1 + 1 + 1 + 1 + 1 := by omega
                        have n2 : ¬ M + 1 + 1 = wr.heap.size + 1 + 1 + 1 + 1 + 1 + 1 + 1 + 1 + 1 + 1 := by omega
                        have n3 : ¬ wr.heap.size + 1 + 1 + 1 + 1 + 1 + 1 + 1 = M + 1 + 1 := by omega
                        have n4 : ¬ wr.heap.size + 1 + 1 + 1 + 1 + 1 + 1 + 1 + 1 + 1 + 1 = M + 1 + 1 := by omega
                        go_wp2_with (first | (go_at_call_of 7 (Value.agg #[.int .u64 th, .int .u64 tl]); refine (G1.out _).mono ?_; clear G1; rintro e w1 ⟨rfl, rfl⟩) | (go_at_call_of 7 (Value.agg #[.int .u64 h, .int .u64 (firN gap ln k : Int)]); refine (G2.out _).mono ?_; clear G2; rintro e w1 ⟨rfl, rfl⟩) | (go_at_call_of 7 (Value.agg #[.int .u64 th, .int .u64 tl]); refine (G3.out _).mono ?_; clear G3; rintro e w1 ⟨rfl, rfl⟩) | (go_at_call_of 7 (Value.agg #[.int .u64 th, .int .u64 tl]); refine (G4.out _).mono ?_; clear G4; rintro e w1 ⟨rfl, rfl⟩) | (go_at_call_of 7 (Value.agg #[.int .u64 uh, .int .u64 ul]); refine (G5.out _).mono ?_; clear G5; rintro e w1 ⟨rfl, rfl⟩) | (at_builtin; refine app1 (by rfl) k (wr.heap.size + 1 + 1 + 1 + 1 + 1 + 1 + 1 + 1 + 1 + 1 + 1 + 1 + 1) (by rfl) hkk.out (by omega) (HD.out.later (by repeat (first | exact Below.refl _ _ | refine Below.alloc ?_ (by (try simp only [World.size_alloc]); omega) _))) (by simp) (by rfl) (by rfl) ?_; intro g1 cap1 w1 x1 x2 x5 x3 x4; have y0 : w1.cell? ⟨wr.heap.size + 1 + 1 + 1 + 1 + 1 + 1 + 1, 0, none⟩ = some (.int .u64 h) := grow_cell x3 HV.out (by omega) (keepA _ (keepA _ (keepA _ (keepA _ (keepA _ (keepA _ (newAt (by simp) rfl))))))); have y1 : w1.cell? ⟨wr.heap.size + 1 + 1 + 1 + 1 + 1 + 1 + 1, 1, none⟩ = some (.int .u64 (firN gap ln k : Int)) := grow_cell x3 HV.out (by omega) (keepA _ (keepA _ (keepA _ (keepA _ (keepA _ (keepA _ (newAt (by simp) rfl))))))); have y2 : w1.cell? ⟨wr.heap.size + 1 + 1 + 1 + 1 + 1 + 1 + 1 + 1 + 1 + 1, 0, none⟩ = some (.int .u64 uh) := grow_cell x3 HV.out (by omega) (keepA _ (keepA _ (keepA _ (newAt (by simp) rfl)))); have y3 : w1.cell? ⟨wr.heap.size + 1 + 1 + 1 + 1 + 1 + 1 + 1 + 1 + 1 + 1, 1, none⟩ = some (.int .u64 ul) := grow_cell x3 HV.out (by omega) (keepA _ (keepA _ (keepA _ (newAt (by simp) rfl)))); have HX4 : Hid (DInv w m rev h gap ln pb cap' BB M th tl uh ul i0 (cnt i0 c k + 1) (cnt i0 c k) (.slice (some ⟨g1, 0, none⟩) (cnt i0 c k + 1) cap1) vp (w1.setCell ⟨M + 1 + 1, 0, none⟩ (.slice (some ⟨g1, 0, none⟩) (cnt i0 c k + 1) cap1))) := x4; clear x3 x4) | (at_builtin; refine app2 (by rfl) k w1.heap.size h (firN gap ln k : Int) uh ul (by rfl) hkk.out (by omega) HX4.out (by simp) hpc.out (by rfl) (by rfl) ?_; intro g2 cap2 w2 z1 z2 z3; have HX5 : Hid (DInv w m rev h gap ln pb cap' BB M th tl uh ul i0 (cnt i0 c k + 1) (cnt i0 c k + 1) (.slice (some ⟨g1, 0, none⟩) (cnt i0 c k + 1) cap1) (.slice (some ⟨g2, 0, none⟩) (cnt i0 c k + 1) cap2) (w2.setCell ⟨M + 1 + 1 + 1, 0, none⟩ (.slice (some ⟨g2, 0, none⟩) (cnt i0 c k + 1) cap2))) := z3; clear z3))
                        exact ⟨⟨k + 1, _, _, by omega, by go_num, by rw [hcs]; exact HX5.out⟩, by simp [intOf]; omega⟩
                      · have hpc : Hid (pcells (plOf w m rev h gap ln pb cap' BB) th tl uh ul k = [.int .u64 h, .int .u64 (firN gap ln k : Int), .int .u64 h, .int .u64 (lasN gap ln k : Int)]) := pc false false k (by simpa using hf) (by simpa using hz)
                        have n1 : ¬ M + 1 + 1 = wr.heap.size + 1 + 1 + 1 + 1 + 1 + 1 + 1 := by omega
                        have n2 : ¬ M + 1 + 1 = wr.heap.size + 1 + 1 + 1 + 1 + 1 + 1 + 1 + 1 + 1 + 1 := by omega
                        have n3 : ¬ wr.heap.size + 1 + 1 + 1 + 1 + 1 + 1 + 1 = M + 1 + 1 := by omega
                        have n4 : ¬ wr.heap.size + 1 + 1 + 1 + 1 + 1 + 1 + 1 + 1 + 1 + 1 = M + 1 + 1 := by omega
                        go_wp2_with (first | (go_at_call_of 7 (Value.agg #[.int .u64 th, .int .u64 tl]); refine (G1.out _).mono ?_; clear G1; rintro e w1 ⟨rfl, rfl⟩) | (go_at_call_of 7 (Value.agg #[.int .u64 h, .int .u64 (firN gap ln k : Int)]); refine (G2.out _).mono ?_; clear G2; rintro e w1 ⟨rfl, rfl⟩) | (go_at_call_of 7 (Value.agg #[.int .u64 th, .int .u64 tl]); refine (G3.out _).mono ?_; clear G3; rintro e w1 ⟨rfl, rfl⟩) | (go_at_call_of 7 (Value.agg #[.int .u64 th, .int .u64 tl]); refine (G4.out _).mono ?_; clear G4; rintro e w1 ⟨rfl, rfl⟩) | (go_at_call_of 7 (Value.agg #[.int .u64 uh, .int .u64 ul]); refine (G5.out _).mono ?_; clear G5; rintro e w1 ⟨rfl, rfl⟩) | (at_builtin; refine app1 (by rfl) k (wr.heap.size + 1 + 1 + 1 + 1 + 1 + 1 + 1 + 1 + 1 + 1 + 1 + 1 + 1) (by rfl) hkk.out (by omega) (HD.out.later (by repeat (first | exact Below.refl _ _ | refine Below.alloc ?_ (by (try simp only [World.size_alloc]); omega) _))) (by simp) (by rfl) (by rfl) ?_; intro g1 cap1 w1 x1 x2 x5 x3 x4; have y0 : w1.cell? ⟨wr.heap.size + 1 + 1 + 1 + 1 + 1 + 1 + 1, 0, none⟩ = some (.int .u64 h) := grow_cell x3 HV.out (by omega) (keepA _ (keepA _ (keepA _ (keepA _ (keepA _ (keepA _ (newAt (by simp) rfl))))))); have y1 : w1.cell? ⟨wr.heap.size + 1 + 1 + 1 + 1 + 1 + 1 + 1, 1, none⟩ = some (.int .u64 (firN gap ln k : Int)) := grow_cell x3 HV.out (by omega) (keepA _ (keepA _ (keepA _ (keepA _ (keepA _ (keepA _ (newAt (by simp) rfl))))))); have y2 : w1.cell? ⟨wr.heap.size + 1 + 1 + 1 + 1 + 1 + 1 + 1 + 1 + 1 + 1, 0, none⟩ = some (.int .u64 h) := grow_cell x3 HV.out (by omega) (keepA _ (keepA _ (keepA _ (newAt (by simp) rfl)))); have y3 : w1.cell? ⟨wr.heap.size + 1 + 1 + 1 + 1 + 1 + 1 + 1 + 1 + 1 + 1, 1, none⟩ = some (.int .u64 (lasN gap ln k : Int)) := grow_cell x3 HV.out (by omega) (keepA _ (keepA _ (keepA _ (newAt (by simp) rfl)))); have HX4 : Hid (DInv w m rev h gap ln pb cap' BB M th tl uh ul i0 (cnt i0 c k + 1) (cnt i0 c k) (.slice (some ⟨g1, 0, none⟩) (cnt i0 c k + 1) cap1) vp (w1.setCell ⟨M + 1 + 1, 0, none⟩ (.slice (some ⟨g1, 0, none⟩) (cnt i0 c k + 1) cap1))) := x4; clear x3 x4) | (at_builtin; refine app2 (by rfl) k w1.heap.size h (firN gap ln k : Int) h (lasN gap ln k : Int) (by rfl) hkk.out (by omega) HX4.out (by simp) hpc.out (by rfl) (by rfl) ?_; intro g2 cap2 w2 z1 z2 z3; have HX5 : Hid (DInv w m rev h gap ln pb cap' BB M th tl uh ul i0 (cnt i0 c k + 1) (cnt i0 c k + 1) (.slice (some ⟨g1, 0, none⟩) (cnt i0 c k + 1) cap1) (.slice (some ⟨g2, 0, none⟩) (cnt i0 c k + 1) cap2) (w2.setCell ⟨M + 1 + 1 + 1, 0, none⟩ (.slice (some ⟨g2, 0, none⟩) (cnt i0 c k + 1) cap2))) := z3; clear z3))
                        exact ⟨⟨k + 1, _, _, by omega, by go_num, by rw [hcs]; exact HX5.out⟩, by simp [intOf]; omega⟩
                  · have hsk := cnt_skip (fun e => hC (hcd.2 e).2.2)
                    have hC' : decide (cmp3 th tl h (lasN gap ln k) ≤ 0) = false := by simpa using hC
                    clear hcd
                    have G1 : Hid (∀ W, Calls Yba.prog 7 #[.agg #[.int .u64 th, .int .u64 tl], .agg #[.int .u64 uh, .int .u64 ul]] W _) := H1
                    have G2 : Hid (∀ W, Calls Yba.prog 7 #[.agg #[.int .u64 h, .int .u64 (firN gap ln k : Int)], .agg #[.int .u64 uh, .int .u64 ul]] W _) := H2
                    have G3 : Hid (∀ W, Calls Yba.prog 7 #[.agg #[.int .u64 th, .int .u64 tl], .agg #[.int .u64 h, .int .u64 (lasN gap ln k : Int)]] W _) := H3
                    clear H1 H2 H3
                    go_wp2_with (first | (go_at_call_of 7 (Value.agg #[.int .u64 th, .int .u64 tl]); refine (G1.out _).mono ?_; clear G1; rintro e w1 ⟨rfl, rfl⟩) | (go_at_call_of 7 (Value.agg #[.int .u64 h, .int .u64 (firN gap ln k : Int)]); refine (G2.out _).mono ?_; clear G2; rintro e w1 ⟨rfl, rfl⟩) | (go_at_call_of 7 (Value.agg #[.int .u64 th, .int .u64 tl]); refine (G3.out _).mono ?_; clear G3; rintro e w1 ⟨rfl, rfl⟩))
                    exact ⟨⟨k + 1, vi, vp, by omega, by go_num, by rw [hsk]; exact HD.out.later (by repeat (first | exact Below.refl _ _ | refine Below.alloc ?_ (by (try simp only [World.size_alloc]); omega) _))⟩, by simp [intOf]; omega⟩
                · have hsk := cnt_skip (fun e => hBc (hcd.2 e).2.1)
                  have hB' : decide (cmp3 h (firN gap ln k) uh ul ≤ 0) = false := by simpa using hBc
                  clear hcd H3
                  have G1 : Hid (∀ W, Calls Yba.prog 7 #[.agg #[.int .u64 th, .int .u64 tl], .agg #[.int .u64 uh, .int .u64 ul]] W _) := H1
                  have G2 : Hid (∀ W, Calls Yba.prog 7 #[.agg #[.int .u64 h, .int .u64 (firN gap ln k : Int)], .agg #[.int .u64 uh, .int .u64 ul]] W _) := H2
                  clear H1 H2
                  go_wp2_with (first | (go_at_call_of 7 (Value.agg #[.int .u64 th, .int .u64 tl]); refine (G1.out _).mono ?_; clear G1; rintro e w1 ⟨rfl, rfl⟩) | (go_at_call_of 7 (Value.agg #[.int .u64 h, .int .u64 (firN gap ln k : Int)]); refine (G2.out _).mono ?_; clear G2; rintro e w1 ⟨rfl, rfl⟩))
                  exact ⟨⟨k + 1, vi, vp, by omega, by go_num, by rw [hsk]; exact HD.out.later (by repeat (first | exact Below.refl _ _ | refine Below.alloc ?_ (by (try simp only [World.size_alloc]); omega) _))⟩, by simp [intOf]; omega⟩
              · have hsk := cnt_skip (fun e => hA (hcd.2 e).1)
                have hA' : decide (cmp3 th tl uh ul ≤ 0) = false := by simpa using hA
                clear H2 H3 hcd
                have G1 : Hid (∀ W, Calls Yba.prog 7 #[.agg #[.int .u64 th, .int .u64 tl], .agg #[.int .u64 uh, .int .u64 ul]] W _) := H1
                clear H1
                go_wp2_with ((go_at_call_of 7 (Value.agg #[.int .u64 th, .int .u64 tl]); refine (G1.out _).mono ?_; clear G1; rintro e w1 ⟨rfl, rfl⟩))
                exact ⟨⟨k + 1, vi, vp, by omega, by go_num, by rw [hsk]; exact HD.out.later (by repeat (first | exact Below.refl _ _ | refine Below.alloc ?_ (by (try simp only [World.size_alloc]); omega) _))⟩, by simp [intOf]; omega⟩
            · obtain rfl : k = m := by omega
              have hcm : cnt i0 c k = c := cnt_all (by omega)
              rw [hcm] at hinv
              have HD : Hid (DInv w k rev h gap ln pb cap' BB M th tl uh ul i0 c c vi vp wr) := hinv
              have bp := hinv.cb.bp
              have r0 := hinv.cb.r0
              have r1 := hinv.cb.r1
              have r2 := hinv.cb.r2
              have r3 := hinv.cb.r3
              have lM : M + 1 < wr.heap.size := World.block_lt_of_cell? _ _ r0
              have lM1 : M + 1 < wr.heap.size + 1 := by omega
              have lM2 : M < wr.heap.size := by omega
              have lM3 : M < wr.heap.size + 1 := by omega
              clear hinv hcm
              go_wp2_with (go_at_call 8; refine (parts_any (.pointer (some ⟨w.heap.size + 7, 0, none⟩)) rfl th tl uh ul _).mono ?_; rintro e w1 ⟨rfl, rfl⟩)
              have hIt : (plOf w k rev h gap ln pb cap' BB).It (wr.heap.size + 1 + 1) (wr.heap.size + 1 + 1 + 1) th tl uh ul ((((wr.alloc (.cells #[.bool true] 4)).alloc (.cells #[.int .i64 0] 3)).alloc (.cells #[.pointer (some ⟨w.heap.size + 7, 0, none⟩)] 33)).alloc (.cells #[.int .u64 th, .int .u64 tl, .int .u64 uh, .int .u64 ul] 31)) := by
                have h0 := it_start (W := (wr.alloc (.cells #[.bool true] 4)).alloc (.cells #[.int .i64 0] 3)) (th := th) (tl := tl) (uh := uh) (ul := ul) (HD.out.cb.pl.below (((Below.refl _ wr).alloc (Nat.le_refl _) _).alloc (by simp) _))
                simp only [World.size_alloc] at h0
                exact h0
              have hM8 := HD.out.cb.hM
              have lE := lt_of_block HD.out.bq
              refine (wpIn_wide (n := 3)).1 ?_
              refine range2x (F := Fence.wide) (n := 3) rfl (by omega) (gf := 26) (lb := #[.pointer (some ⟨wr.heap.size + 1 + 1, 0, none⟩), .pointer (some ⟨wr.heap.size + 1 + 1 + 1, 0, none⟩)]) rfl trivial (enters_of Yba.func26 (by kernel_rfl) rfl)
                184 185 35 36 (fun x : Fin c => .pointer (some ⟨w.heap.size + 6, pr rev k (i0 + x.1) * 7, none⟩)) (fun x => (plOf w k rev h gap ln pb cap' BB).part th tl uh ul (i0 + x.1)) (fun x => (pcells (plOf w k rev h gap ln pb cap' BB) th tl uh ul (i0 + x.1)).toArray)
                (parts1_stops (plOf w k rev h gap ln pb cap' BB) (wr.heap.size + 1 + 1) (wr.heap.size + 1 + 1 + 1) i0 c th tl uh ul hn ?hix hic ?hlo ?hhi ?hok ?hno (KR wr.heap.size (wr.heap.size + 1) (wr.heap.size + 4)) ?hKp _ hIt) KR.trans ?hKb (Below.refl _ _) rfl
                (fun pre W => KR wr.heap.size (wr.heap.size + 1) (wr.heap.size + 4) ((((wr.alloc (.cells #[.bool true] 4)).alloc (.cells #[.int .i64 0] 3)).alloc (.cells #[.pointer (some ⟨w.heap.size + 7, 0, none⟩)] 33)).alloc (.cells #[.int .u64 th, .int .u64 tl, .int .u64 uh, .int .u64 ul] 31)) W ∧ Boxed W wr.heap.size 4 (.bool true) ∧ Boxed W (wr.heap.size + 1) 3 (.int .i64 ((pre.length : Nat) : Int)))
                (fun _ pre _ => ¬ (pre <+: List.finRange c)) ?hI ?hIx ?h0 (fun W => KR wr.heap.size (wr.heap.size + 1) (wr.heap.size + 4) ((((wr.alloc (.cells #[.bool true] 4)).alloc (.cells #[.int .i64 0] 3)).alloc (.cells #[.pointer (some ⟨w.heap.size + 7, 0, none⟩)] 33)).alloc (.cells #[.int .u64 th, .int .u64 tl, .int .u64 uh, .int .u64 ul] 31)) W ∧ Boxed W wr.heap.size 4 (.bool true) ∧ Boxed W (wr.heap.size + 1) 3 (.int .i64 (c : Int))) ?hR1 6 (fun _ _ hq => by simpa [Exit.inBlock] using hq) ?hR2 ?assign ?body ?done
              case assign =>
                intro l pre x W K hi hK
                simp only [PL.part]
                gi_wp2
                have hZ : wr.heap.size + 4 ≤ W.heap.size := by have := hi.1.size; simp at this; omega
                exact hK _ W.heap.size ((KeepsOthers.alloc _ _).from _) (KR.of_below ((Below.refl _ W).alloc hZ _)) ⟨hi.1.trans (KR.of_below ((Below.refl _ W).alloc hZ _)), hi.2.1.alloc _, hi.2.2.alloc _⟩ (by simp; omega) (heap_alloc_new W _)
              case body =>
                intro l pre x Bx W hi hBx hbx hlt
                obtain ⟨hkr, hbo, hbk⟩ := hi
                have hZ : wr.heap.size + 4 ≤ W.heap.size := by have := hkr.size; simp at this; omega
                have hc0 : 0 < c := by omega
                obtain ⟨gI, gQ, capI, capQ, wf, lI, lQ⟩ := HD.out.wf hc0
                have fx : ∀ {b o : Nat} {v : Value}, wr.cell? ⟨b, o, none⟩ = some v → W.cell? ⟨b, o, none⟩ = some v := fun {b o} {v} hv => by
                  have hb := World.block_lt_of_cell? _ _ hv
                  rw [hkr.cell (by simp at hb; omega) (by simp at hb; omega) (by simp at hb; omega)]
                  exact keepA _ (keepA _ (keepA _ (keepA _ hv)))
                have c1 := hbk.cell
                have c1f := hbk.frozen
                have c2 := hbo.cell
                have c2f := hbo.frozen
                have d1 := fx wf.bi
                have d2 := fx wf.bq
                have d3 := fx HD.out.cb.bp
                have d4 : W.cell? ⟨w.heap.size + 7, 2, none⟩ = _ := fx HD.out.cb.p2
                have d5 := fx HD.out.cb.brev
                have d6 := fx HD.out.cb.bn
                have v0 : W.cell? ⟨Bx, 0, none⟩ = some (.int .u64 ((plOf w k rev h gap ln pb cap' BB).aH th tl (i0 + x.1))) := by simp [World.cell?, hbx, pcells]
                have v1 : W.cell? ⟨Bx, 1, none⟩ = some (.int .u64 ((plOf w k rev h gap ln pb cap' BB).aL th tl (i0 + x.1))) := by simp [World.cell?, hbx, pcells]
                have v2 : W.cell? ⟨Bx, 2, none⟩ = some (.int .u64 ((plOf w k rev h gap ln pb cap' BB).zH uh ul (i0 + x.1))) := by simp [World.cell?, hbx, pcells]
                have v3 : W.cell? ⟨Bx, 3, none⟩ = some (.int .u64 ((plOf w k rev h gap ln pb cap' BB).zL uh ul (i0 + x.1))) := by simp [World.cell?, hbx, pcells]
                obtain ⟨q, hq⟩ : ∃ q, pre.length = q := ⟨_, rfl⟩
                have e0 := fx (wf.ix q (by omega))
                have e1 := fx (wf.q0 q (by omega))
                have e2 := fx (wf.q1 q (by omega))
                have e3 := fx (wf.q2 q (by omega))
                have e4 := fx (wf.q3 q (by omega))
                obtain ⟨J, hJ⟩ : ∃ J, i0 + q = J := ⟨_, rfl⟩
                rw [hJ] at e0 e1 e2 e3 e4
                have hJk : J < k := by omega
                obtain ⟨R, hR⟩ : ∃ R, pr rev k J = R := ⟨_, rfl⟩
                have hRk : R < k := by rw [← hR]; exact pr_lt rev hJk
                have hap : ∀ W, Calls Yba.prog 5 #[.bool rev, .int .i64 (k : Int), .int .i64 (J : Int)] W fun e w' => e = .returned (.int .i64 (R : Int)) ∧ w' = W := fun W => by rw [← hR]; exact apref_nat rev k J hn hJk W
                rw [hq] at c1 hlt
                by_cases hxq : x.1 = q
                · rw [hxq, hJ] at v0 v1 v2 v3 ⊢
                  rw [hR]
                  have hqd : decide ((c : Int) ≤ (q : Int)) = false := by simp; omega
                  have hqd2 : decide (c ≤ q) = false := by simp; omega
                  simp only [bframe, List.setIfInBounds_toArray, List.set_cons_succ, List.set_cons_zero]
                  gi_wp2
                  refine quiet_round l rfl (by kernel_rfl) (by kernel_rfl) (by rfl) ?_
                  have hcl : ∀ a, CallsIn Fence.wide 0 Yba.prog 5 #[.bool rev, .int .i64 (k : Int), .int .i64 (J : Int)] (W.drewN a) fun e w'' => e = .returned (.int .i64 (R : Int)) ∧ ∃ n, w'' = W.drewN n := fun a => callsIn_wide.2 ((hap _).mono fun e w' he => ⟨he.1, a, he.2⟩)
                  have HCL : Hid (∀ a, CallsIn Fence.wide 0 Yba.prog 5 #[.bool rev, .int .i64 (k : Int), .int .i64 (J : Int)] (W.drewN a) fun e w'' => e = .returned (.int .i64 (R : Int)) ∧ ∃ n, w'' = W.drewN n) := hcl
                  clear hcl
                  repeat (gi_big_quiet_step (exact HCL.out _))
                  refine wpQuietIn_nil ?_
                  intro _ hw'
                  obtain ⟨nq, hw''⟩ := hw'
                  subst hw''
                  gi_wp2
                  have hro := round_on (B := 0) (nq := nq) (q := q) (by omega) hkr hbo (show Boxed W (wr.heap.size + 1) 3 (.int .i64 (q : Int)) by rw [← hq]; exact hbk)
                  refine ⟨round_off _, hro.2.1, hro.2.2.1, hro.2.2.2.1, ?_⟩
                  rw [List.length_append, hq]
                  exact hro.2.2.2.2
                · have hne : ¬ pr rev k (i0 + x.1) * 7 = R * 7 := fun e => by
                    have e1 : pr rev k (i0 + x.1) = pr rev k J := by rw [hR]; omega
                    have e2 := congrArg (pr rev k) e1
                    rw [pr_pr rev (by have := x.2; omega), pr_pr rev hJk] at e2
                    omega
                  have hqd : decide ((c : Int) ≤ (q : Int)) = false := by simp; omega
                  have hqd2 : decide (c ≤ q) = false := by simp; omega
                  have hned : decide (pr rev k (i0 + x.1) * 7 = R * 7) = false := by simpa using hne
                  obtain ⟨X7, hX7⟩ : ∃ X7, pr rev k (i0 + x.1) * 7 = X7 := ⟨_, rfl⟩
                  rw [hX7] at hned hne ⊢
                  clear e1 e2 e3 e4 v0 v1 v2 v3 d2
                  simp only [bframe, List.setIfInBounds_toArray, List.set_cons_succ, List.set_cons_zero]
                  gi_wp2
                  refine quiet_round l rfl (by kernel_rfl) (by kernel_rfl) (by rfl) ?_
                  have hcl : ∀ a, CallsIn Fence.wide 0 Yba.prog 5 #[.bool rev, .int .i64 (k : Int), .int .i64 (J : Int)] (W.drewN a) fun e w'' => e = .returned (.int .i64 (R : Int)) ∧ ∃ n, w'' = W.drewN n := fun a => callsIn_wide.2 ((hap _).mono fun e w' he => ⟨he.1, a, he.2⟩)
                  have HCL : Hid (∀ a, CallsIn Fence.wide 0 Yba.prog 5 #[.bool rev, .int .i64 (k : Int), .int .i64 (J : Int)] (W.drewN a) fun e w'' => e = .returned (.int .i64 (R : Int)) ∧ ∃ n, w'' = W.drewN n) := hcl
                  clear hcl
                  repeat (gi_big_quiet_step (exact HCL.out _))
                  refine wpQuietIn_nil ?_
                  intro _ hw'
                  obtain ⟨nq, hw''⟩ := hw'
                  subst hw''
                  gi_wp2
                  refine ⟨round_off _, fun hp => ?_⟩
                  have := pre_next hp
                  omega
              case hix => exact pl_ix HD.out.cb.pbs
              case hlo => exact HPL.out.1
              case hhi => exact fun k h1 h2 => Int.not_lt.2 (HPL.out.2.1 k h1 h2)
              case hok => exact pl_ok HPL.out.2.2 hic
              case hno => exact pl_no HPL.out.2.2
              case hKp => exact fun W W' hk hW => hW.kr (E := wr.heap.size) hk (.inl (Nat.le_refl _)) (by omega) (show w.heap.size + 7 < _ by omega) (show w.heap.size + 6 < _ by omega) (fun hn => by have := HD.out.cb.hB hn; show BB < _; omega) (by omega) ⟨by omega, by omega, by omega⟩ ⟨by omega, by omega, by omega⟩
              case hKb => exact fun W l o o' hl _ _ _ => KR.putObj l o' (by simp at hl; omega)
              case hI =>
                have hz : wr.heap.size + 4 ≤ ((((wr.alloc (.cells #[.bool true] 4)).alloc (.cells #[.int .i64 0] 3)).alloc (.cells #[.pointer (some ⟨w.heap.size + 7, 0, none⟩)] 33)).alloc (.cells #[.int .u64 th, .int .u64 tl, .int .u64 uh, .int .u64 ul] 31)).heap.size := by simp
                exact OwnFrom.and (kr_own _ _ (wr.heap.size + 4) _ _ hz hz) (OwnFrom.and ((boxed_own wr.heap.size 4 (fun _ => .bool true)).from _) ((boxed_own (wr.heap.size + 1) 3 (fun pre : List (Fin c) => .int .i64 ((pre.length : Nat) : Int))).from _))
              case hIx => exact fun _ => ownFrom_pure _ _
              case h0 => exact ⟨KR.refl _ _ _ _, ((((Boxed.new wr 4 (.bool true)).alloc _).alloc _).alloc _), (by have := ((Boxed.new (wr.alloc (.cells #[.bool true] 4)) 3 (.int .i64 0)).alloc (.cells #[.pointer (some ⟨w.heap.size + 7, 0, none⟩)] 33)).alloc (.cells #[.int .u64 th, .int .u64 tl, .int .u64 uh, .int .u64 ul] 31); simp only [World.size_alloc] at this; exact this)⟩
              case hR1 =>
                intro xs W hS hi
                refine ⟨hi.1, hi.2.1, ?_⟩
                have := hi.2.2
                rw [hS, List.length_finRange] at this
                exact this
              case hR2 =>
                intro cc pre W hsp hix2
                exact absurd hsp hix2
              case done =>
                intro D W hD hR hdf
                obtain ⟨hkr, hbo, hbk⟩ := hR
                have hBW : Below wr.heap.size wr W := (((((Below.refl _ wr).alloc (Nat.le_refl _) _).alloc (by simp) _).alloc (by simp; omega) _).alloc (by simp; omega) _).trans (hkr.below _ (Nat.le_refl _) (by omega) (by omega))
                have HD1 : Hid (DInv w k rev h gap ln pb cap' BB M th tl uh ul i0 c c vi vp W) := HD.out.later hBW
                have hZ : wr.heap.size + 4 ≤ W.heap.size := by have := hkr.size; simp at this; omega
                obtain ⟨E, hE⟩ : ∃ E, wr.heap.size = E := ⟨_, rfl⟩
                rw [hE] at hZ hbo hbk lE
                have lD : E + 4 ≤ D := by have := hD; simp at this; omega
                clear hD hkr hIt
                have hwE : wr.heap.size = E := hE
                simp only [hE]
                clear hE
                obtain ⟨pI, cpI, rfl⟩ := HD1.out.vi_form
                have bI : W.cell? ⟨M + 1 + 1, 0, none⟩ = some (.slice pI c cpI) := by have := HD1.out.bi; simp [World.cell?, this]
                have ho := hbo.cell
                have hk1 := hbk.cell
                have bp := HD1.out.cb.bp
                have r0 := HD1.out.cb.r0
                have r1 := HD1.out.cb.r1
                have r2 := HD1.out.cb.r2
                have r3 := HD1.out.cb.r3
                have lM1 : M + 1 < W.heap.size := World.block_lt_of_cell? _ _ r0
                have lM2 : M < W.heap.size := by omega
                have lM3 : M + 1 < W.heap.size + 1 := by omega
                have lM4 : M < W.heap.size + 1 := by omega
                have lM5 : M + 1 < W.heap.size + 1 + 1 := by omega
                have lM6 : M < W.heap.size + 1 + 1 := by omega
                go_wp2_with (go_at_call 8; refine (parts_any (.pointer (some ⟨w.heap.size + 7, 0, none⟩)) rfl th tl uh ul _).mono ?_; rintro e w1 ⟨rfl, rfl⟩)
                have hDG := lt_of_block hdf
                have hEG : E < W.heap.size := hbo.lt
                have lE1 := hbk.lt
                obtain ⟨G, hG⟩ : ∃ G, W.heap.size = G := ⟨_, rfl⟩
                have hIt : (plOf w k rev h gap ln pb cap' BB).It (G + 1 + 1) (G + 1 + 1 + 1) th tl uh ul ((((W.alloc (.cells #[.int .i64 (sN : Int)] 3)).alloc (.cells #[.int .i64 0] 3)).alloc (.cells #[.pointer (some ⟨w.heap.size + 7, 0, none⟩)] 33)).alloc (.cells #[.int .u64 th, .int .u64 tl, .int .u64 uh, .int .u64 ul] 31)) := by
                  have h0 := it_start (W := (W.alloc (.cells #[.int .i64 (sN : Int)] 3)).alloc (.cells #[.int .i64 0] 3)) (th := th) (tl := tl) (uh := uh) (ul := ul) (HD1.out.cb.pl.below (((Below.refl _ W).alloc (Nat.le_refl _) _).alloc (by simp) _))
                  simp only [World.size_alloc, hG] at h0
                  exact h0
                have hz : ((((W.alloc (.cells #[.int .i64 (sN : Int)] 3)).alloc (.cells #[.int .i64 0] 3)).alloc (.cells #[.pointer (some ⟨w.heap.size + 7, 0, none⟩)] 33)).alloc (.cells #[.int .u64 th, .int .u64 tl, .int .u64 uh, .int .u64 ul] 31)).heap.size = G + 4 := by simp [hG]
                rw [hG] at hDG hEG lM1 lM2 lM3 lM4 lM5 lM6 lE1
                simp only [hG]
                clear bI ho hk1 bp r0 r1 r2 r3
                refine (wpIn_wide (n := 3)).1 ?_
                refine range2x (F := Fence.wide) (n := 3) rfl (by omega) (gf := 26) (lb := #[.pointer (some ⟨G + 1 + 1, 0, none⟩), .pointer (some ⟨G + 1 + 1 + 1, 0, none⟩)]) rfl trivial (enters_of Yba.func26 (by kernel_rfl) rfl)
                  229 230 39 40 (fun x : Fin c => .pointer (some ⟨w.heap.size + 6, pr rev k (i0 + x.1) * 7, none⟩)) (fun x => (plOf w k rev h gap ln pb cap' BB).part th tl uh ul (i0 + x.1)) (fun x => (pcells (plOf w k rev h gap ln pb cap' BB) th tl uh ul (i0 + x.1)).toArray)
                  (parts1_stops (plOf w k rev h gap ln pb cap' BB) (G + 1 + 1) (G + 1 + 1 + 1) i0 c th tl uh ul hn ?hix hic ?hlo ?hhi ?hok ?hno (KR E (G + 1) (G + 4)) ?hKp _ hIt) KR.trans ?hKb (Below.refl _ _) rfl
                  (fun pre W2 => KR E (G + 1) (G + 4) ((((W.alloc (.cells #[.int .i64 (sN : Int)] 3)).alloc (.cells #[.int .i64 0] 3)).alloc (.cells #[.pointer (some ⟨w.heap.size + 7, 0, none⟩)] 33)).alloc (.cells #[.int .u64 th, .int .u64 tl, .int .u64 uh, .int .u64 ul] 31)) W2 ∧ Boxed W2 E 4 (.bool true) ∧ Boxed W2 (G + 1) 3 (.int .i64 ((pre.length : Nat) : Int)) ∧ (sN = 0 ∨ pre.length < sN))
                  (fun cc pre W2 => pre <+: List.finRange c → (cc = .exit 8 ∧ 0 < sN ∧ pre.length = sN) ∧ KR E (G + 1) (G + 4) ((((W.alloc (.cells #[.int .i64 (sN : Int)] 3)).alloc (.cells #[.int .i64 0] 3)).alloc (.cells #[.pointer (some ⟨w.heap.size + 7, 0, none⟩)] 33)).alloc (.cells #[.int .u64 th, .int .u64 tl, .int .u64 uh, .int .u64 ul] 31)) W2 ∧ Boxed W2 E 4 (.bool true) ∧ Boxed W2 (G + 1) 3 (.int .i64 ((pre.length : Nat) : Int))) ?hI ?hIx ?h0
                  (fun W2 => KR E (G + 1) (G + 4) ((((W.alloc (.cells #[.int .i64 (sN : Int)] 3)).alloc (.cells #[.int .i64 0] 3)).alloc (.cells #[.pointer (some ⟨w.heap.size + 7, 0, none⟩)] 33)).alloc (.cells #[.int .u64 th, .int .u64 tl, .int .u64 uh, .int .u64 ul] 31)) W2 ∧ Boxed W2 E 4 (.bool true) ∧ Boxed W2 (G + 1) 3 (.int .i64 (wm sN c : Int))) ?hR1 8 (fun _ _ hq => by simpa [Exit.inBlock] using hq) ?hR2 ?assign ?body ?done
                case assign =>
                  intro l pre x W2 K hi hK
                  simp only [PL.part]
                  gi_wp2
                  have hZ2 : G + 4 ≤ W2.heap.size := by have := hi.1.size; rw [hz] at this; exact this
                  exact hK _ W2.heap.size ((KeepsOthers.alloc _ _).from _) (KR.of_below ((Below.refl _ W2).alloc hZ2 _)) ⟨hi.1.trans (KR.of_below ((Below.refl _ W2).alloc hZ2 _)), hi.2.1.alloc _, hi.2.2.1.alloc _, hi.2.2.2⟩ (by rw [hz]; exact hZ2) (heap_alloc_new W2 _)
                case body =>
                  intro l pre x Bx W2 hi hBx hbx hlt
                  obtain ⟨hkr, hbo2, hbm, hsl⟩ := hi
                  have hZ2 : G + 4 ≤ W2.heap.size := by have := hkr.size; rw [hz] at this; exact this
                  have hc0 : 0 < c := by omega
                  obtain ⟨gI, gQ, capI, capQ, wf, lI, lQ⟩ := HD.out.wf hc0
                  have fx : ∀ {b o : Nat} {v : Value}, wr.cell? ⟨b, o, none⟩ = some v → W2.cell? ⟨b, o, none⟩ = some v := fun {b o} {v} hv => by
                    have hb := World.block_lt_of_cell? _ _ hv
                    have hb' : b < E := by rw [← hwE]; exact hb
                    rw [hkr.cell (by omega) (by omega) (by omega)]
                    exact keepA _ (keepA _ (keepA _ (keepA _ (cell_below hv hBW))))
                  have c1 := hbm.cell
                  have c1f := hbm.frozen
                  have c2 := hbo2.cell
                  have c2f := hbo2.frozen
                  have c3 : W2.cell? ⟨G, 0, none⟩ = some (.int .i64 (sN : Int)) := by
                    rw [hkr.cell (by omega) (by omega) (by omega)]
                    exact keepA _ (keepA _ (keepA _ (newAt hG rfl)))
                  have d1 := fx wf.bi
                  have d2 := fx wf.bq
                  have d3 := fx HD.out.cb.bp
                  have d4 : W2.cell? ⟨w.heap.size + 7, 2, none⟩ = _ := fx HD.out.cb.p2
                  have d5 := fx HD.out.cb.brev
                  have d6 := fx HD.out.cb.bn
                  have v0 : W2.cell? ⟨Bx, 0, none⟩ = some (.int .u64 ((plOf w k rev h gap ln pb cap' BB).aH th tl (i0 + x.1))) := by simp [World.cell?, hbx, pcells]
                  have v1 : W2.cell? ⟨Bx, 1, none⟩ = some (.int .u64 ((plOf w k rev h gap ln pb cap' BB).aL th tl (i0 + x.1))) := by simp [World.cell?, hbx, pcells]
                  have v2 : W2.cell? ⟨Bx, 2, none⟩ = some (.int .u64 ((plOf w k rev h gap ln pb cap' BB).zH uh ul (i0 + x.1))) := by simp [World.cell?, hbx, pcells]
                  have v3 : W2.cell? ⟨Bx, 3, none⟩ = some (.int .u64 ((plOf w k rev h gap ln pb cap' BB).zL uh ul (i0 + x.1))) := by simp [World.cell?, hbx, pcells]
                  obtain ⟨q, hq⟩ : ∃ q, pre.length = q := ⟨_, rfl⟩
                  have e0 := fx (wf.ix q (by omega))
                  have e1 := fx (wf.q0 q (by omega))
                  have e2 := fx (wf.q1 q (by omega))
                  have e3 := fx (wf.q2 q (by omega))
                  have e4 := fx (wf.q3 q (by omega))
                  obtain ⟨J, hJ⟩ : ∃ J, i0 + q = J := ⟨_, rfl⟩
                  rw [hJ] at e0 e1 e2 e3 e4
                  have hJk : J < k := by omega
                  obtain ⟨R, hR⟩ : ∃ R, pr rev k J = R := ⟨_, rfl⟩
                  have hRk : R < k := by rw [← hR]; exact pr_lt rev hJk
                  have hap : ∀ W, Calls Yba.prog 5 #[.bool rev, .int .i64 (k : Int), .int .i64 (J : Int)] W fun e w' => e = .returned (.int .i64 (R : Int)) ∧ w' = W := fun W => by rw [← hR]; exact apref_nat rev k J hn hJk W
                  rw [hq] at c1 hlt hsl
                  have hqd : decide ((c : Int) ≤ (q : Int)) = false := by simp; omega
                  have hqd2 : decide (c ≤ q) = false := by simp; omega
                  have HRO : Hid (∀ nq, KR E (G + 1) (G + 4) W2 ((W2.drewN nq).setCell ⟨G + 1, 0, none⟩ (.int .i64 ((q : Int) + 1))) ∧
      KR E (G + 1) (G + 4) _ ((W2.drewN nq).setCell ⟨G + 1, 0, none⟩ (.int .i64 ((q : Int) + 1))) ∧ Boxed ((W2.drewN nq).setCell ⟨G + 1, 0, none⟩ (.int .i64 ((q : Int) + 1))) E 4 (.bool true) ∧ Boxed ((W2.drewN nq).setCell ⟨G + 1, 0, none⟩ (.int .i64 ((q : Int) + 1))) (G + 1) 3 (.int .i64 (((q + 1 : Nat)) : Int))) := fun nq => (round_on (B := 0) (nq := nq) (q := q) (by omega) hkr hbo2 (show Boxed W2 (G + 1) 3 (.int .i64 (q : Int)) by rw [← hq]; exact hbm)).2
                  clear hbm hbx hbo2 hkr hbo hbk
                  by_cases hxq : x.1 = q
                  · rw [hxq, hJ] at v0 v1 v2 v3 ⊢
                    rw [hR]
                    simp only [bframe, List.setIfInBounds_toArray, List.set_cons_succ, List.set_cons_zero]
                    by_cases hqs : q + 1 = sN
                    · have hqsI : decide ((q : Int) + 1 = (sN : Int)) = true := by simp; omega
                      have hqsJ : (q : Int) + 1 = (sN : Int) := by omega
                      gi_wp2
                      refine quiet_round l rfl (by kernel_rfl) (by kernel_rfl) (by rfl) ?_
                      have hcl : ∀ a, CallsIn Fence.wide 0 Yba.prog 5 #[.bool rev, .int .i64 (k : Int), .int .i64 (J : Int)] (W2.drewN a) fun e w'' => e = .returned (.int .i64 (R : Int)) ∧ ∃ n, w'' = W2.drewN n := fun a => callsIn_wide.2 ((hap _).mono fun e w' he => ⟨he.1, a, he.2⟩)
                      have HCL : Hid (∀ a, CallsIn Fence.wide 0 Yba.prog 5 #[.bool rev, .int .i64 (k : Int), .int .i64 (J : Int)] (W2.drewN a) fun e w'' => e = .returned (.int .i64 (R : Int)) ∧ ∃ n, w'' = W2.drewN n) := hcl
                      clear hcl
                      repeat (gi_big_quiet_step (exact HCL.out _))
                      refine wpQuietIn_nil ?_
                      intro _ hw'
                      obtain ⟨nq, hw''⟩ := hw'
                      subst hw''
                      gi_wp2
                      have hr := HRO.out nq
                      rw [hqsJ] at hr
                      refine ⟨round_off _, fun _ => ⟨⟨rfl, by omega, ?_⟩, hr.2.1, hr.2.2.1, ?_⟩⟩
                      · rw [List.length_append, hq]; exact hqs
                      · rw [List.length_append, hq]; exact hr.2.2.2
                    · have hqsI : decide ((q : Int) + 1 = (sN : Int)) = false := by simp; omega
                      have hqsJ : ¬ (q : Int) + 1 = (sN : Int) := by omega
                      gi_wp2
                      refine quiet_round l rfl (by kernel_rfl) (by kernel_rfl) (by rfl) ?_
                      have hcl : ∀ a, CallsIn Fence.wide 0 Yba.prog 5 #[.bool rev, .int .i64 (k : Int), .int .i64 (J : Int)] (W2.drewN a) fun e w'' => e = .returned (.int .i64 (R : Int)) ∧ ∃ n, w'' = W2.drewN n := fun a => callsIn_wide.2 ((hap _).mono fun e w' he => ⟨he.1, a, he.2⟩)
                      have HCL : Hid (∀ a, CallsIn Fence.wide 0 Yba.prog 5 #[.bool rev, .int .i64 (k : Int), .int .i64 (J : Int)] (W2.drewN a) fun e w'' => e = .returned (.int .i64 (R : Int)) ∧ ∃ n, w'' = W2.drewN n) := hcl
                      clear hcl
                      repeat (gi_big_quiet_step (exact HCL.out _))
                      refine wpQuietIn_nil ?_
                      intro _ hw'
                      obtain ⟨nq, hw''⟩ := hw'
                      subst hw''
                      gi_wp2
                      have hr := HRO.out nq
                      refine ⟨round_off _, hr.1, hr.2.1, hr.2.2.1, ?_, ?_⟩
                      · rw [List.length_append, hq]; exact hr.2.2.2
                      · rw [List.length_append, hq]; show sN = 0 ∨ q + 1 < sN; omega
                  · have hne : ¬ pr rev k (i0 + x.1) * 7 = R * 7 := fun e => by
                      have e1 : pr rev k (i0 + x.1) = pr rev k J := by rw [hR]; omega
                      have e2 := congrArg (pr rev k) e1
                      rw [pr_pr rev (by have := x.2; omega), pr_pr rev hJk] at e2
                      omega
                    have hned : decide (pr rev k (i0 + x.1) * 7 = R * 7) = false := by simpa using hne
                    obtain ⟨X7, hX7⟩ : ∃ X7, pr rev k (i0 + x.1) * 7 = X7 := ⟨_, rfl⟩
                    rw [hX7] at hned hne ⊢
                    clear e1 e2 e3 e4 v0 v1 v2 v3 d2
                    simp only [bframe, List.setIfInBounds_toArray, List.set_cons_succ, List.set_cons_zero]
                    gi_wp2
                    refine quiet_round l rfl (by kernel_rfl) (by kernel_rfl) (by rfl) ?_
                    have hcl : ∀ a, CallsIn Fence.wide 0 Yba.prog 5 #[.bool rev, .int .i64 (k : Int), .int .i64 (J : Int)] (W2.drewN a) fun e w'' => e = .returned (.int .i64 (R : Int)) ∧ ∃ n, w'' = W2.drewN n := fun a => callsIn_wide.2 ((hap _).mono fun e w' he => ⟨he.1, a, he.2⟩)
                    have HCL : Hid (∀ a, CallsIn Fence.wide 0 Yba.prog 5 #[.bool rev, .int .i64 (k : Int), .int .i64 (J : Int)] (W2.drewN a) fun e w'' => e = .returned (.int .i64 (R : Int)) ∧ ∃ n, w'' = W2.drewN n) := hcl
                    clear hcl
                    repeat (gi_big_quiet_step (exact HCL.out _))
                    refine wpQuietIn_nil ?_
                    intro _ hw'
                    obtain ⟨nq, hw''⟩ := hw'
                    subst hw''
                    gi_wp2
                    refine ⟨round_off _, fun hp => ?_⟩
                    have := pre_next hp
                    omega
                case hix => exact pl_ix HD1.out.cb.pbs
                case hlo => exact HPL.out.1
                case hhi => exact fun k h1 h2 => Int.not_lt.2 (HPL.out.2.1 k h1 h2)
                case hok => exact pl_ok HPL.out.2.2 hic
                case hno => exact pl_no HPL.out.2.2
                case hKp => exact fun _ _ hk hW => hW.kr (E := E) hk (.inl (Nat.le_refl _)) (by omega) (show w.heap.size + 7 < _ by omega) (show w.heap.size + 6 < _ by omega) (fun hn => by have := HD1.out.cb.hB hn; show BB < _; omega) (by omega) ⟨by omega, by omega, by omega⟩ ⟨by omega, by omega, by omega⟩
                case hKb => exact fun _ l o o' hl _ _ _ => KR.putObj l o' (by rw [hz] at hl; exact hl)
                case hI => exact OwnFrom.and (kr_own _ _ (G + 4) _ _ (by rw [hz]; exact Nat.le_refl _) (by rw [hz]; exact Nat.le_refl _)) (OwnFrom.and ((boxed_own E 4 (fun _ => .bool true)).from _) (OwnFrom.and ((boxed_own (G + 1) 3 (fun pre : List (Fin c) => .int .i64 ((pre.length : Nat) : Int))).from _) (ownFrom_pure _ _)))
                case hIx => exact fun _ => ownFrom_imp (OwnFrom.and (ownFrom_pure _ _) (OwnFrom.and (kr_own _ _ (G + 4) _ _ (by rw [hz]; exact Nat.le_refl _) (by rw [hz]; exact Nat.le_refl _)) (OwnFrom.and ((boxed_own E 4 (fun _ => .bool true)).from _) ((boxed_own (G + 1) 3 (fun pre : List (Fin c) => .int .i64 ((pre.length : Nat) : Int))).from _))))
                case h0 => exact ⟨KR.refl _ _ _ _, ((((hbo.alloc _).alloc _).alloc _).alloc _), (by have := ((Boxed.new (W.alloc (.cells #[.int .i64 (sN : Int)] 3)) 3 (.int .i64 0)).alloc (.cells #[.pointer (some ⟨w.heap.size + 7, 0, none⟩)] 33)).alloc (.cells #[.int .u64 th, .int .u64 tl, .int .u64 uh, .int .u64 ul] 31); simp only [World.size_alloc, hG] at this; exact this), Nat.eq_zero_or_pos sN⟩
                case hR1 =>
                  intro xs W2 hS hi
                  have hl : xs.length = c := by rw [hS, List.length_finRange]
                  refine ⟨hi.1, hi.2.1, ?_⟩
                  have h3 := hi.2.2.1
                  have h4 := hi.2.2.2
                  rw [hl] at h3 h4
                  rw [wm_all h4]
                  exact h3
                case hR2 =>
                  intro cc pre W2 hsp hix2
                  obtain ⟨⟨h1, h2, h3⟩, h4, h5, h6⟩ := hix2 hsp
                  have h7 := hsp.length_le
                  rw [List.length_finRange] at h7
                  refine ⟨h1, h4, h5, ?_⟩
                  rw [wm_stop h2 (by omega), ← h3]
                  exact h6
                case done =>
                  intro D2 W2 hD2 hR2 hdf2
                  obtain ⟨hkr, hbo2, hbm⟩ := hR2
                  have hBW2 : Below W.heap.size W W2 := (((((Below.refl _ W).alloc (Nat.le_refl _) _).alloc (by simp) _).alloc (by simp; omega) _).alloc (by simp; omega) _).trans (hkr.below_same ((show W2.heap[E]? = some (.cells #[.bool true] 4 (0, 0)) from hbo2).trans (Eq.symm (show _ = some (Obj.cells #[.bool true] 4 (0, 0)) from ((((hbo.alloc _).alloc _).alloc _).alloc _)))) _ (by rw [hG]; omega) (by rw [hG]; omega))
                  have HD2 : Hid (DInv w k rev h gap ln pb cap' BB M th tl uh ul i0 c c (.slice pI c cpI) vp W2) := HD1.out.later hBW2
                  have hdf1 : W2.heap[D]? = some (.deferred (some [])) := (hBW2.block _ (lt_of_block hdf)).trans hdf
                  have c3 : W2.cell? ⟨G, 0, none⟩ = some (.int .i64 (sN : Int)) := by
                    rw [hkr.cell (by omega) (by omega) (by omega)]
                    exact keepA _ (keepA _ (keepA _ (newAt hG rfl)))
                  have bI : W2.cell? ⟨M + 1 + 1, 0, none⟩ = some (.slice pI c cpI) := by have := HD2.out.bi; simp [World.cell?, this]
                  have ho := hbo2.cell
                  have hm1 := hbm.cell
                  have HDF : Hid (W2.heap[D]? = some (.deferred (some [])) ∧ W2.heap[D2]? = some (.deferred (some [])) ∧ D ≠ D2 ∧ E + 4 ≤ D ∧ E + 4 ≤ D2) := ⟨hdf1, hdf2, by rw [hz] at hD2; omega, lD, by rw [hz] at hD2; omega⟩
                  have bp := HD2.out.cb.bp
                  have p0 := HD2.out.cb.p0
                  have p1 := HD2.out.cb.p1
                  have p2 := HD2.out.cb.p2
                  have p3 := HD2.out.cb.p3
                  have p4 := HD2.out.cb.p4
                  have p5 := HD2.out.cb.p5
                  have m0 := HD2.out.cb.m0
                  have m1 := HD2.out.cb.m1
                  have l45 := len45 m0
                  have l46 := len46 m1
                  have g4 := get_map m0
                  have g5 := get_map m1
                  have bn := HD2.out.cb.bn
                  have brev := HD2.out.cb.brev
                  clear hdf1 hdf2 hdf hbo2 hbm hBW2 hD2 hkr hbo hbk HD HD1 hBW hwE hIt hz
                  by_cases hs0 : sN = 0
                  · rw [wm_all (.inl hs0)] at hm1
                    go_wp2
                    clear hs0
                    as_aux_lemma =>
                      go_quiet (fail)
                      clear l45 l46 g4 g5 m0 m1 p0 p1 c3 bI ho hm1 brev
                      go_wp2
                      clear bn bp p2 p3 p4 p5
                      go_loopw [42, 43] (fun i _ wr => ∃ i4 : Nat, i4 ≤ k ∧ i = .int .i64 i4 ∧ DInv w k rev h gap ln pb cap' BB M th tl uh ul i0 c c (.slice pI c cpI) vp wr ∧ wr.heap[D]? = some (.deferred (some [])) ∧ wr.heap[D2]? = some (.deferred (some []))) (fun i _ _ => k - (intOf i).toNat)
                      case atStart => exact ⟨0, Nat.zero_le _, rfl, HD2.out.later (below_drewN (Below.refl _ _) _), HDF.out.1, HDF.out.2.1⟩
                      case round =>
                        clear HD2
                        obtain ⟨i4, hi4, rfl, hinv, hd1, hd2⟩ := hrel
                        have bn := hinv.cb.bn
                        by_cases hlt : i4 < k
                        · obtain ⟨R, hR⟩ : ∃ R, pr rev k i4 = R := ⟨_, rfl⟩
                          have hRk : R < k := by rw [← hR]; exact pr_lt rev hlt
                          have hap : ∀ W, Calls Yba.prog 5 #[.bool rev, .int .i64 (k : Int), .int .i64 (i4 : Int)] W fun e w' => e = .returned (.int .i64 (R : Int)) ∧ w' = W := fun W => by rw [← hR]; exact apref_nat rev k i4 hn hlt W
                          have hx := pl_ix hinv.cb.pbs (cap := cap') i4 hlt
                          have brev := hinv.cb.brev
                          have bp := hinv.cb.bp
                          have p2 := hinv.cb.p2
                          have p3 := hinv.cb.p3
                          have rw0 := hinv.cb.row i4 hlt
                          have t0 : wr.cell? ⟨w.heap.size + 6, pr rev k i4 * 7, none⟩ = some (.int .u64 h) := hinv.cb.tiers i4 0 hlt (by omega)
                          have t1 : wr.cell? ⟨w.heap.size + 6, pr rev k i4 * 7 + 1, none⟩ = some (.int .u64 (firN gap ln i4 : Int)) := hinv.cb.tiers i4 1 hlt (by omega)
                          have t2 : wr.cell? ⟨w.heap.size + 6, pr rev k i4 * 7 + 2, none⟩ = some (.int .u64 h) := hinv.cb.tiers i4 2 hlt (by omega)
                          have t3 : wr.cell? ⟨w.heap.size + 6, pr rev k i4 * 7 + 3, none⟩ = some (.int .u64 (lasN gap ln i4 : Int)) := hinv.cb.tiers i4 3 hlt (by omega)
                          have t4 : wr.cell? ⟨w.heap.size + 6, pr rev k i4 * 7 + 4, none⟩ = some (.slice none 0 0) := hinv.cb.free i4 4 hlt (by omega) (by omega)
                          have t5 : wr.cell? ⟨w.heap.size + 6, pr rev k i4 * 7 + 5, none⟩ = some (.int .u64 0) := hinv.cb.free i4 5 hlt (by omega) (by omega)
                          have t6 : wr.cell? ⟨w.heap.size + 6, pr rev k i4 * 7 + 6, none⟩ = some (.int .u64 0) := hinv.cb.free i4 6 hlt (by omega) (by omega)
                          have s0 : wr.cell? ⟨w.heap.size + 1 + 1, i4 * 4, none⟩ = some (.int .u64 h) := hinv.cb.sorted i4 0 hlt (by omega)
                          have s1 : wr.cell? ⟨w.heap.size + 1 + 1, i4 * 4 + 1, none⟩ = some (.int .u64 (firN gap ln i4 : Int)) := hinv.cb.sorted i4 1 hlt (by omega)
                          have s2 : wr.cell? ⟨w.heap.size + 1 + 1, i4 * 4 + 2, none⟩ = some (.int .u64 h) := hinv.cb.sorted i4 2 hlt (by omega)
                          have s3 : wr.cell? ⟨w.heap.size + 1 + 1, i4 * 4 + 3, none⟩ = some (.int .u64 (lasN gap ln i4 : Int)) := hinv.cb.sorted i4 3 hlt (by omega)
                          rw [hR] at rw0 t0 t1 t2 t3 t4 t5 t6
                          have HI : Hid (DInv w k rev h gap ln pb cap' BB M th tl uh ul i0 c c (.slice pI c cpI) vp wr ∧ wr.heap[D]? = some (.deferred (some [])) ∧ wr.heap[D2]? = some (.deferred (some []))) := ⟨hinv, hd1, hd2⟩
                          clear hinv hd1 hd2 hR
                          go_wp2_with (go_at_call 5; refine (hap _).mono ?_; rintro e w' ⟨rfl, rfl⟩)
                          go_quiet (fail)
                          go_wp2
                          exact ⟨⟨i4 + 1, by omega, by go_num, HI.out.1.later (below_drewN (Below.refl _ _) _), HI.out.2.1, HI.out.2.2⟩, by simp [intOf]; omega⟩
                        · obtain rfl : i4 = k := by omega
                          have HI : Hid (DInv w i4 rev h gap ln pb cap' BB M th tl uh ul i0 c c (.slice pI c cpI) vp wr ∧ wr.heap[D]? = some (.deferred (some [])) ∧ wr.heap[D2]? = some (.deferred (some []))) := ⟨hinv, hd1, hd2⟩
                          clear hinv hd1 hd2
                          go_wp2
                          obtain ⟨hinv, hd1, hd2⟩ := HI.out
                          refine ⟨by simp, .inl ⟨_, _, rfl, run_takeDeferred hd2, ?_⟩⟩
                          refine ⟨by simp, .inl ⟨_, _, rfl, run_takeDeferred ((World.putObj_heap_other (by have := HDF.out.2.2.1; omega)).trans hd1), ?_⟩⟩
                          exact ⟨_, results_tmp rfl _ _ _, rfl, below_put (below_put hinv.cb.below _ _ (by have := HDF.out.2.2.2; omega)) _ _ (by have := HDF.out.2.2.2; omega)⟩
                  · by_cases hsc : sN < c
                    · rw [wm_stop (by omega) (by omega)] at hm1
                      have hsb : ((sN : Int) != 0) = true := by simp; omega
                      go_wp2
                      clear hs0 hsc hsb
                      as_aux_lemma =>
                        go_quiet (fail)
                        clear l45 l46 g4 g5 m0 m1 p0 p1 c3 bI ho hm1 brev
                        go_wp2
                        clear bn bp p2 p3 p4 p5
                        go_loopw [42, 43] (fun i _ wr => ∃ i4 : Nat, i4 ≤ k ∧ i = .int .i64 i4 ∧ DInv w k rev h gap ln pb cap' BB M th tl uh ul i0 c c (.slice pI c cpI) vp wr ∧ wr.heap[D]? = some (.deferred (some [])) ∧ wr.heap[D2]? = some (.deferred (some []))) (fun i _ _ => k - (intOf i).toNat)
                        case atStart => exact ⟨0, Nat.zero_le _, rfl, HD2.out.later (below_drewN (Below.refl _ _) _), HDF.out.1, HDF.out.2.1⟩
                        case round =>
                          clear HD2
                          obtain ⟨i4, hi4, rfl, hinv, hd1, hd2⟩ := hrel
                          have bn := hinv.cb.bn
                          by_cases hlt : i4 < k
                          · obtain ⟨R, hR⟩ : ∃ R, pr rev k i4 = R := ⟨_, rfl⟩
                            have hRk : R < k := by rw [← hR]; exact pr_lt rev hlt
                            have hap : ∀ W, Calls Yba.prog 5 #[.bool rev, .int .i64 (k : Int), .int .i64 (i4 : Int)] W fun e w' => e = .returned (.int .i64 (R : Int)) ∧ w' = W := fun W => by rw [← hR]; exact apref_nat rev k i4 hn hlt W
                            have hx := pl_ix hinv.cb.pbs (cap := cap') i4 hlt
                            have brev := hinv.cb.brev
                            have bp := hinv.cb.bp
                            have p2 := hinv.cb.p2
                            have p3 := hinv.cb.p3
                            have rw0 := hinv.cb.row i4 hlt
                            have t0 : wr.cell? ⟨w.heap.size + 6, pr rev k i4 * 7, none⟩ = some (.int .u64 h) := hinv.cb.tiers i4 0 hlt (by omega)
                            have t1 : wr.cell? ⟨w.heap.size + 6, pr rev k i4 * 7 + 1, none⟩ = some (.int .u64 (firN gap ln i4 : Int)) := hinv.cb.tiers i4 1 hlt (by omega)
                            have t2 : wr.cell? ⟨w.heap.size + 6, pr rev k i4 * 7 + 2, none⟩ = some (.int .u64 h) := hinv.cb.tiers i4 2 hlt (by omega)
                            have t3 : wr.cell? ⟨w.heap.size + 6, pr rev k i4 * 7 + 3, none⟩ = some (.int .u64 (lasN gap ln i4 : Int)) := hinv.cb.tiers i4 3 hlt (by omega)
                            have t4 : wr.cell? ⟨w.heap.size + 6, pr rev k i4 * 7 + 4, none⟩ = some (.slice none 0 0) := hinv.cb.free i4 4 hlt (by omega) (by omega)
                            have t5 : wr.cell? ⟨w.heap.size + 6, pr rev k i4 * 7 + 5, none⟩ = some (.int .u64 0) := hinv.cb.free i4 5 hlt (by omega) (by omega)
                            have t6 : wr.cell? ⟨w.heap.size + 6, pr rev k i4 * 7 + 6, none⟩ = some (.int .u64 0) := hinv.cb.free i4 6 hlt (by omega) (by omega)
                            have s0 : wr.cell? ⟨w.heap.size + 1 + 1, i4 * 4, none⟩ = some (.int .u64 h) := hinv.cb.sorted i4 0 hlt (by omega)
                            have s1 : wr.cell? ⟨w.heap.size + 1 + 1, i4 * 4 + 1, none⟩ = some (.int .u64 (firN gap ln i4 : Int)) := hinv.cb.sorted i4 1 hlt (by omega)
                            have s2 : wr.cell? ⟨w.heap.size + 1 + 1, i4 * 4 + 2, none⟩ = some (.int .u64 h) := hinv.cb.sorted i4 2 hlt (by omega)
                            have s3 : wr.cell? ⟨w.heap.size + 1 + 1, i4 * 4 + 3, none⟩ = some (.int .u64 (lasN gap ln i4 : Int)) := hinv.cb.sorted i4 3 hlt (by omega)
                            rw [hR] at rw0 t0 t1 t2 t3 t4 t5 t6
                            have HI : Hid (DInv w k rev h gap ln pb cap' BB M th tl uh ul i0 c c (.slice pI c cpI) vp wr ∧ wr.heap[D]? = some (.deferred (some [])) ∧ wr.heap[D2]? = some (.deferred (some []))) := ⟨hinv, hd1, hd2⟩
                            clear hinv hd1 hd2 hR
                            go_wp2_with (go_at_call 5; refine (hap _).mono ?_; rintro e w' ⟨rfl, rfl⟩)
                            go_quiet (fail)
                            go_wp2
                            exact ⟨⟨i4 + 1, by omega, by go_num, HI.out.1.later (below_drewN (Below.refl _ _) _), HI.out.2.1, HI.out.2.2⟩, by simp [intOf]; omega⟩
                          · obtain rfl : i4 = k := by omega
                            have HI : Hid (DInv w i4 rev h gap ln pb cap' BB M th tl uh ul i0 c c (.slice pI c cpI) vp wr ∧ wr.heap[D]? = some (.deferred (some [])) ∧ wr.heap[D2]? = some (.deferred (some []))) := ⟨hinv, hd1, hd2⟩
                            clear hinv hd1 hd2
                            go_wp2
                            obtain ⟨hinv, hd1, hd2⟩ := HI.out
                            refine ⟨by simp, .inl ⟨_, _, rfl, run_takeDeferred hd2, ?_⟩⟩
                            refine ⟨by simp, .inl ⟨_, _, rfl, run_takeDeferred ((World.putObj_heap_other (by have := HDF.out.2.2.1; omega)).trans hd1), ?_⟩⟩
                            exact ⟨_, results_tmp rfl _ _ _, rfl, below_put (below_put hinv.cb.below _ _ (by have := HDF.out.2.2.2; omega)) _ _ (by have := HDF.out.2.2.2; omega)⟩
                    · have hwm : wm sN c = c := by unfold wm; rw [if_neg (by omega)]
                      rw [hwm] at hm1
                      have hsb : ((sN : Int) != 0) = true := by simp; omega
                      go_wp2
                      clear hs0 hsc hwm hsb
                      as_aux_lemma =>
                        go_quiet (fail)
                        clear l45 l46 g4 g5 m0 m1 p0 p1 c3 bI ho hm1 brev
                        go_wp2
                        clear bn bp p2 p3 p4 p5
                        go_loopw [42, 43] (fun i _ wr => ∃ i4 : Nat, i4 ≤ k ∧ i = .int .i64 i4 ∧ DInv w k rev h gap ln pb cap' BB M th tl uh ul i0 c c (.slice pI c cpI) vp wr ∧ wr.heap[D]? = some (.deferred (some [])) ∧ wr.heap[D2]? = some (.deferred (some []))) (fun i _ _ => k - (intOf i).toNat)
                        case atStart => exact ⟨0, Nat.zero_le _, rfl, HD2.out.later (below_drewN (Below.refl _ _) _), HDF.out.1, HDF.out.2.1⟩
                        case round =>
                          clear HD2
                          obtain ⟨i4, hi4, rfl, hinv, hd1, hd2⟩ := hrel
                          have bn := hinv.cb.bn
                          by_cases hlt : i4 < k
                          · obtain ⟨R, hR⟩ : ∃ R, pr rev k i4 = R := ⟨_, rfl⟩
                            have hRk : R < k := by rw [← hR]; exact pr_lt rev hlt
                            have hap : ∀ W, Calls Yba.prog 5 #[.bool rev, .int .i64 (k : Int), .int .i64 (i4 : Int)] W fun e w' => e = .returned (.int .i64 (R : Int)) ∧ w' = W := fun W => by rw [← hR]; exact apref_nat rev k i4 hn hlt W
                            have hx := pl_ix hinv.cb.pbs (cap := cap') i4 hlt
                            have brev := hinv.cb.brev
                            have bp := hinv.cb.bp
                            have p2 := hinv.cb.p2
                            have p3 := hinv.cb.p3
                            have rw0 := hinv.cb.row i4 hlt
                            have t0 : wr.cell? ⟨w.heap.size + 6, pr rev k i4 * 7, none⟩ = some (.int .u64 h) := hinv.cb.tiers i4 0 hlt (by omega)
                            have t1 : wr.cell? ⟨w.heap.size + 6, pr rev k i4 * 7 + 1, none⟩ = some (.int .u64 (firN gap ln i4 : Int)) := hinv.cb.tiers i4 1 hlt (by omega)
                            have t2 : wr.cell? ⟨w.heap.size + 6, pr rev k i4 * 7 + 2, none⟩ = some (.int .u64 h) := hinv.cb.tiers i4 2 hlt (by omega)
                            have t3 : wr.cell? ⟨w.heap.size + 6, pr rev k i4 * 7 + 3, none⟩ = some (.int .u64 (lasN gap ln i4 : Int)) := hinv.cb.tiers i4 3 hlt (by omega)
                            have t4 : wr.cell? ⟨w.heap.size + 6, pr rev k i4 * 7 + 4, none⟩ = some (.slice none 0 0) := hinv.cb.free i4 4 hlt (by omega) (by omega)
                            have t5 : wr.cell? ⟨w.heap.size + 6, pr rev k i4 * 7 + 5, none⟩ = some (.int .u64 0) := hinv.cb.free i4 5 hlt (by omega) (by omega)
                            have t6 : wr.cell? ⟨w.heap.size + 6, pr rev k i4 * 7 + 6, none⟩ = some (.int .u64 0) := hinv.cb.free i4 6 hlt (by omega) (by omega)
                            have s0 : wr.cell? ⟨w.heap.size + 1 + 1, i4 * 4, none⟩ = some (.int .u64 h) := hinv.cb.sorted i4 0 hlt (by omega)
                            have s1 : wr.cell? ⟨w.heap.size + 1 + 1, i4 * 4 + 1, none⟩ = some (.int .u64 (firN gap ln i4 : Int)) := hinv.cb.sorted i4 1 hlt (by omega)
                            have s2 : wr.cell? ⟨w.heap.size + 1 + 1, i4 * 4 + 2, none⟩ = some (.int .u64 h) := hinv.cb.sorted i4 2 hlt (by omega)
                            have s3 : wr.cell? ⟨w.heap.size + 1 + 1, i4 * 4 + 3, none⟩ = some (.int .u64 (lasN gap ln i4 : Int)) := hinv.cb.sorted i4 3 hlt (by omega)
                            rw [hR] at rw0 t0 t1 t2 t3 t4 t5 t6
                            have HI : Hid (DInv w k rev h gap ln pb cap' BB M th tl uh ul i0 c c (.slice pI c cpI) vp wr ∧ wr.heap[D]? = some (.deferred (some [])) ∧ wr.heap[D2]? = some (.deferred (some []))) := ⟨hinv, hd1, hd2⟩
                            clear hinv hd1 hd2 hR
                            go_wp2_with (go_at_call 5; refine (hap _).mono ?_; rintro e w' ⟨rfl, rfl⟩)
                            go_quiet (fail)
                            go_wp2
                            exact ⟨⟨i4 + 1, by omega, by go_num, HI.out.1.later (below_drewN (Below.refl _ _) _), HI.out.2.1, HI.out.2.2⟩, by simp [intOf]; omega⟩
                          · obtain rfl : i4 = k := by omega
                            have HI : Hid (DInv w i4 rev h gap ln pb cap' BB M th tl uh ul i0 c c (.slice pI c cpI) vp wr ∧ wr.heap[D]? = some (.deferred (some [])) ∧ wr.heap[D2]? = some (.deferred (some []))) := ⟨hinv, hd1, hd2⟩
                            clear hinv hd1 hd2
                            go_wp2
                            obtain ⟨hinv, hd1, hd2⟩ := HI.out
                            refine ⟨by simp, .inl ⟨_, _, rfl, run_takeDeferred hd2, ?_⟩⟩
                            refine ⟨by simp, .inl ⟨_, _, rfl, run_takeDeferred ((World.putObj_heap_other (by have := HDF.out.2.2.1; omega)).trans hd1), ?_⟩⟩
                            exact ⟨_, results_tmp rfl _ _ _, rfl, below_put (below_put hinv.cb.below _ _ (by have := HDF.out.2.2.2; omega)) _ _ (by have := HDF.out.2.2.2; omega)⟩

end Go.Proofs.Ybulkdlic
