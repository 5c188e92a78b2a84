/-
  DERIVED. octocell.LawS5616CWhole: THE WALK, at every input. (One long walk: minutes; each arm behind 'as_aux_lemma', so that the kernel gives its memory back.)
-/
import Derived.Test.YbulkdlhaState
namespace Go.Proofs.Ybulkdlha
open Go.RowKit

set_option maxRecDepth 100000 in
set_option maxHeartbeats 4000000 in
theorem walk (a0 : Int) (a1 : Int) (a2 : Int) (a3 : Int) (h0 : 0 ≤ a0) (h0' : a0 ≤ 255) (h1 : 0 ≤ a1) (h1' : a1 ≤ 255) (w : World) (cnt sl half : Nat)
    (ec : wrap64 (2 ^ (a1 % 5).toNat) = (cnt : Int)) (es : wrap64 (2 ^ (a0 % 4).toNat) = (sl : Int)) (hc16 : cnt ≤ 16) (hc1 : 1 ≤ cnt) (hs8 : sl ≤ 8) (hs1 : 1 ≤ sl) (hhalf : half = cnt / 2) (hpar : cnt = 1 ∨ cnt = half + half)
    (J I O : Nat) (eJ : wrap64 (a3.tmod ((cnt : Int) * (sl : Int))) = (J : Int)) (hJ : J < 128) (eI : (J : Int) / (sl : Int) = (I : Int)) (eO : (J : Int) % (sl : Int) = (O : Int)) (hI : I < cnt) (hO : O < sl)
    (pw : (J : Int) / 2 ^ (a0 % 4).toNat = (I : Int)) (bw : bits .and .i64 (J : Int) ((sl : Int) - 1) = (O : Int)) :
    Calls Yba.prog 3 #[.int .u8 a0, .int .u8 a1, .int .u16 a2, .int .u64 a3] w fun e w' => e = .returned (.bool true) ∧ Below w.heap.size w w' := by
  have mk25 := run_make_row' (P := Yba.prog) 25 3 (.int .i64 0) 8 Yba.underlying25 info3 rfl .i64 .i64 cnt (by omega) (by omega)
  have mk26 := run_make_row' (P := Yba.prog) 26 27 (.slice none 0 0) 24 Yba.underlying26 info27 rfl .i64 .i64 cnt (by omega) (by omega)
  have mk31 := run_make_row' (P := Yba.prog) 31 32 (.pointer none) 8 Yba.underlying31 info32 rfl .i64 .i64 cnt (by omega) (by omega)
  have mk27 := make30 sl hs8
  have eh : (cnt : Int) / 2 = (half : Int) := by omega
  have HH : Hid (half = cnt / 2) := hhalf
  have PW : Hid ((J : Int) / 2 ^ (a0 % 4).toNat = (I : Int)) := pw
  have BW : Hid (bits .and .i64 (J : Int) ((sl : Int) - 1) = (O : Int)) := bw
  have ES : Hid (wrap64 (2 ^ (a0 % 4).toNat) = (sl : Int)) := es
  clear hhalf pw bw
  go_enter Yba.func3, Yba.ntmps3
  go_wp2_with fail
  simp only [ec, es]
  go_loopw [15, 16, 17] (fun i _ _ wr => ∃ (k : Nat) (own G : Nat → Nat), k ≤ cnt ∧ i = .int .i64 k ∧ TInv w cnt sl half k own G wr) (fun i _ _ _ => cnt - (intOf i).toNat)
  case atStart => exact ⟨0, _, _, Nat.zero_le _, rfl, t_start w cnt sl half⟩
  case round =>
    obtain ⟨k, own, G, hk, rfl, hinv⟩ := hrel
    obtain ⟨wo, rfl⟩ : ∃ wo : World, wo = wr := ⟨_, rfl⟩
    by_cases hlt : k < cnt
    · have ho0 : wo.cell? ⟨w.heap.size, k, none⟩ = some (.int .i64 0) := by rw [hinv.owner.cell hlt]; simp
      have ho1 : wo.frozen? ⟨w.heap.size, k, none⟩ = false := hinv.owner.frozen k
      have hs0 : wo.cell? ⟨w.heap.size + 1, k, none⟩ = some (.slice none 0 0) := by rw [hinv.segs.cell hlt]; simp
      have hsf : wo.frozen? ⟨w.heap.size + 1, k, none⟩ = false := hinv.segs.frozen k
      have hsz : w.heap.size + 1 < wo.heap.size := hinv.segs.lt
      have hsz0 : w.heap.size < wo.heap.size := by omega
      by_cases hsh : (0 < half ∧ half ≤ k) ∧ (bits BinOp.and IntKind.u16 (a2 / 2 ^ (k - half)) 1 == 1) = true
      · as_aux_lemma =>
          obtain ⟨⟨hp, hhk⟩, hbit⟩ := hsh
          have hst : wo.cell? ⟨w.heap.size + 1, k - half, none⟩ = some (.slice (some ⟨G (own (k - half)), 0, none⟩) sl sl) := by rw [hinv.segs.cell (by omega), if_pos (by omega)]
          have HI' := t_shared (sl := sl) hinv hp hhk (by omega)
          have HJ : Hid (TInv w cnt sl half (k + 1) (fun j => if j = k then k - half else own j) G ((wo.setCell ⟨w.heap.size, k, none⟩ (.int .i64 ((k : Int) - half))).setCell ⟨w.heap.size + 1, k, none⟩ (.slice (some ⟨G (own (k - half)), 0, none⟩) sl sl))) := HI'
          clear hinv HI'
          go_wp2
          go_roundw
          case rel => exact ⟨k + 1, _, _, by omega, by go_num, HJ.out⟩
          case measure => simp [intOf]; omega
      · have HF : Hid (FInv w cnt sl half k (fun j => if j = k then k else own j) (fun j => if j = k then wo.heap.size else G j) 0 ((wo.setCell ⟨w.heap.size, k, none⟩ (.int .i64 (k : Int))).alloc (.cells (madeCells zeros (sl * 18)) 30))) := f_start hinv hlt
        clear hinv
        have hprod : 0 ≤ (k : Int) * (sl : Int) ∧ (k : Int) * (sl : Int) ≤ 128 := by
          have h1 : k * sl ≤ 16 * 8 := Nat.mul_le_mul (by omega) hs8
          have h2 : ((k * sl : Nat) : Int) = (k : Int) * (sl : Int) := Int.natCast_mul k sl
          omega
        obtain ⟨hpr0, hpr1⟩ := hprod
        have hways : (¬ 0 < half) ∨ (0 < half ∧ ¬ half ≤ k) ∨ (0 < half ∧ half ≤ k ∧ (bits BinOp.and IntKind.u16 (a2 / 2 ^ (k - half)) 1 == 1) = false) := by
          by_cases e1 : 0 < half
          · by_cases e2 : half ≤ k
            · refine Or.inr (Or.inr ⟨e1, e2, ?_⟩)
              cases hb : (bits BinOp.and IntKind.u16 (a2 / 2 ^ (k - half)) 1 == 1)
              · rfl
              · exact absurd ⟨⟨e1, e2⟩, hb⟩ hsh
            · exact Or.inr (Or.inl ⟨e1, e2⟩)
          · exact Or.inl e1
        clear hsh
        rcases hways with hw1 | ⟨hw1, hw2⟩ | ⟨hw1, hw2, hw3⟩
        all_goals
          as_aux_lemma =>
            go_wp2
            go_loopw [17] (fun i wr => ∃ m : Nat, m ≤ sl ∧ i = .int .i64 m ∧ FInv w cnt sl half k (fun j => if j = k then k else own j) (fun j => if j = k then wo.heap.size else G j) m wr) (fun i _ => sl - (intOf i).toNat)
            case atStart => exact ⟨0, Nat.zero_le _, rfl, HF.out⟩
            case round =>
              obtain ⟨m, hm, rfl, hfin⟩ := hrel
              by_cases hml : m < sl
              · as_aux_lemma =>
                  have hseg := hfin.seg
                  simp only [if_pos] at hseg
                  obtain ⟨x0, c0⟩ : ∃ x, wr.cell? ⟨wo.heap.size, m * 18, none⟩ = some x := ⟨_, hseg.cell (by omega)⟩
                  obtain ⟨x1, c1⟩ : ∃ x, wr.cell? ⟨wo.heap.size, m * 18 + 1, none⟩ = some x := ⟨_, hseg.cell (by omega)⟩
                  obtain ⟨x2, c2⟩ : ∃ x, wr.cell? ⟨wo.heap.size, m * 18 + 2, none⟩ = some x := ⟨_, hseg.cell (by omega)⟩
                  have f0 : wr.frozen? ⟨wo.heap.size, m * 18, none⟩ = false := hseg.frozen _
                  have f1 : wr.frozen? ⟨wo.heap.size, m * 18 + 1, none⟩ = false := hseg.frozen _
                  have f2 : wr.frozen? ⟨wo.heap.size, m * 18 + 2, none⟩ = false := hseg.frozen _
                  have HI' := f_step hfin
                  simp only [if_pos] at HI'
                  have HJ : Hid (FInv w cnt sl half k (fun j => if j = k then k else own j) (fun j => if j = k then wo.heap.size else G j) (m + 1) (((wr.setCell ⟨wo.heap.size, m * 18, none⟩ (.int .u64 ((k : Int) * sl + m + 1))).setCell ⟨wo.heap.size, m * 18 + 1, none⟩ (.int .i64 (k : Int))).setCell ⟨wo.heap.size, m * 18 + 2, none⟩ (.int .i64 (m : Int)))) := HI'
                  clear HI' hseg hfin
                  go_wp2
                  go_roundw
                  case rel => exact ⟨m + 1, by omega, by go_num, HJ.out⟩
                  case measure => simp [intOf]; omega
              · as_aux_lemma =>
                  obtain rfl : sl = m := by omega
                  have q0 : wr.cell? ⟨w.heap.size + 1, k, none⟩ = some (.slice none 0 0) := by rw [hfin.segs.cell hlt]; simp
                  have q1 : wr.frozen? ⟨w.heap.size + 1, k, none⟩ = false := hfin.segs.frozen k
                  have HE := f_end hfin
                  simp only [if_pos] at HE
                  have HJ : Hid (TInv w cnt sl half (k + 1) (fun j => if j = k then k else own j) (fun j => if j = k then wo.heap.size else G j) (wr.setCell ⟨w.heap.size + 1, k, none⟩ (.slice (some ⟨wo.heap.size, 0, none⟩) sl sl))) := HE
                  clear HE hfin
                  go_wp2
                  go_roundw
                  case rel => exact ⟨k + 1, _, _, by omega, by go_num, HJ.out⟩
                  case measure => simp [intOf]; omega
    · obtain rfl : cnt = k := by omega
      have HI : Hid (TInv w cnt sl half cnt own G wo) := hinv
      have hwo : w.heap.size + 1 < wo.heap.size := hinv.segs.lt
      clear hinv mk25 mk26
      go_wp2_with fail
      clear mk31
      go_loopw [19] (fun i wr => ∃ m : Nat, m ≤ cnt ∧ i = .int .i64 m ∧ wr.rowIs wo.heap.size 32 cnt (fun j => if j < m then .pointer (some ⟨G (own j), 0, none⟩) else .pointer none) ∧ Below wo.heap.size wo wr) (fun i _ => cnt - (intOf i).toNat)
      case atStart => exact ⟨0, Nat.zero_le _, rfl, (World.rowIs_made wo (.pointer none) cnt 32).congr fun j hj => by simp, (Below.refl _ _).alloc (Nat.le_refl _) _⟩
      case round =>
        obtain ⟨m, hm, rfl, hrow, hbel⟩ := hrel
        by_cases hml : m < cnt
        · as_aux_lemma =>
            have c0 : wr.cell? ⟨w.heap.size + 1, m, none⟩ = some (.slice (some ⟨G (own m), 0, none⟩) sl sl) := by rw [(HI.out.later hbel).segs.cell hml, if_pos hml]
            have c1 : wr.cell? ⟨wo.heap.size, m, none⟩ = some (.pointer none) := by rw [hrow.cell hml, if_neg (by omega)]
            have f1 : wr.frozen? ⟨wo.heap.size, m, none⟩ = false := hrow.frozen m
            have hne : ¬ w.heap.size + 1 = wo.heap.size := by omega
            have hs0 : 0 < sl := by omega
            have HJ : Hid ((wr.setCell ⟨wo.heap.size, m, none⟩ (.pointer (some ⟨G (own m), 0, none⟩))).rowIs wo.heap.size 32 cnt (fun j => if j < m + 1 then .pointer (some ⟨G (own j), 0, none⟩) else .pointer none)) := by
              refine (hrow.set m _).congr fun j hj => ?_
              by_cases e : j = m
              · subst e; simp
              · rw [if_neg e]
                by_cases e2 : j < m
                · rw [if_pos e2, if_pos (by omega)]
                · rw [if_neg e2, if_neg (by omega)]
            have HK : Hid (Below wo.heap.size wo (wr.setCell ⟨wo.heap.size, m, none⟩ (.pointer (some ⟨G (own m), 0, none⟩)))) := hbel.setCell (p := ⟨wo.heap.size, m, none⟩) (Nat.le_refl _) _
            clear hrow hbel
            go_wp2
            go_roundw
            case rel => exact ⟨m + 1, by omega, by go_num, HJ.out, HK.out⟩
            case measure => simp [intOf]; omega
        · obtain rfl : cnt = m := by omega
          have hpr : 0 < (cnt : Int) * (sl : Int) ∧ (cnt : Int) * (sl : Int) ≤ 128 := by
            have h1 : cnt * sl ≤ 16 * 8 := Nat.mul_le_mul hc16 hs8
            have h2 : ((cnt * sl : Nat) : Int) = (cnt : Int) * (sl : Int) := Int.natCast_mul cnt sl
            have h3 : 1 * 1 ≤ cnt * sl := Nat.mul_le_mul hc1 hs1
            omega
          obtain ⟨hpr0, hpr1⟩ := hpr
          obtain ⟨w3, rfl⟩ : ∃ w3 : World, w3 = wr := ⟨_, rfl⟩
          have hwr : w.heap.size + 1 < w3.heap.size := Nat.lt_of_lt_of_le hwo hbel.size
          have hwF : wo.heap.size < w3.heap.size := hrow.lt
          have HR : Hid ((w3.alloc (.cells #[.slice (some ⟨w.heap.size + 1, 0, none⟩) cnt cnt, .int .u64 (a0 % 4), .int .i64 ((cnt : Int) * (sl : Int)), .pointer none, .int .i64 3, .slice none 0 0] 37)).rowIs wo.heap.size 32 cnt (fun j => if j < cnt then .pointer (some ⟨G (own j), 0, none⟩) else .pointer none)) := hrow.alloc _
          have HT : Hid (TInv w cnt sl half cnt own G (w3.alloc (.cells #[.slice (some ⟨w.heap.size + 1, 0, none⟩) cnt cnt, .int .u64 (a0 % 4), .int .i64 ((cnt : Int) * (sl : Int)), .pointer none, .int .i64 3, .slice none 0 0] 37))) := HI.out.later (hbel.alloc hbel.size _)
          have HB : Hid ((w3.alloc (.cells #[.slice (some ⟨w.heap.size + 1, 0, none⟩) cnt cnt, .int .u64 (a0 % 4), .int .i64 ((cnt : Int) * (sl : Int)), .pointer none, .int .i64 3, .slice none 0 0] 37)).heap[w3.heap.size]? = some (.cells #[.slice (some ⟨w.heap.size + 1, 0, none⟩) cnt cnt, .int .u64 (a0 % 4), .int .i64 ((cnt : Int) * (sl : Int)), .pointer none, .int .i64 3, .slice none 0 0] 37 (0, 0))) := heap_alloc_new w3 _
          have hco : w3.cell? ⟨w.heap.size, I, none⟩ = some (.int .i64 ((own I : Nat) : Int)) := by rw [(HI.out.later hbel).owner.cell hI, if_pos hI]
          have hwl : w.heap.size < w3.heap.size := by omega
          have hIc : (I : Int) < (cnt : Int) := by omega
          have q34 : ∀ W, (binOp .neq 35 (.slice none 0 0) (.slice none 0 0)).run Yba.prog W = .ok (.bool false) W := fun W => run_neq_slice_nil_any W _ _ none 0 0 0 0 Yba.underlying35
          clear hrow hbel
          go_wp2_with fail
          simp only [eJ, eO]
          have hun := un_any HT.out w3.heap.size I (by simp) hc16 eh hI hs1 hpar
          by_cases hoI : own I = I
          · as_aux_lemma =>
              have hd : decide (own I ≠ I) = false := by simp [hoI]
              rw [hd] at hun
              have hb : ((own I : Int) != (I : Int)) = false := by simp [hoI]
              simp only [hb]
              refine (claim_own w3.heap.size (w.heap.size + 1) cnt sl J I O (G (own I)) (a0 % 4) _ (by simp) (by simp) (by omega) (by omega) PW.out ES.out BW.out hs8 hO hI ?hseg hun).mono ?_
              case hseg => rw [HT.out.segs.cell hI, if_pos hI]
              rintro e W4 ⟨rfl, n4, hW4⟩
              have HC : Hid (CInv w cnt sl own G wo.heap.size w3.heap.size I 0 false ((cnt : Int) * (sl : Int)) (a0 % 4) W4) := by
                have h := c_own (I := I) (N := 0) HT.out HR.out HB.out
                rw [hW4]; exact h.later ⟨rfl, rfl, rfl, Nat.le_refl _, fun _ _ => rfl⟩

              have t0 : W4.cell? ⟨w3.heap.size, 0, none⟩ = some (.slice (some ⟨w.heap.size + 1, 0, none⟩) cnt cnt) := by simp [World.cell?, HC.out.tab]
              have t1 : W4.cell? ⟨w3.heap.size, 1, none⟩ = some (.int .u64 (a0 % 4)) := by simp [World.cell?, HC.out.tab]
              have t2 : W4.cell? ⟨w3.heap.size, 2, none⟩ = some (.int .i64 ((cnt : Int) * (sl : Int))) := by simp [World.cell?, HC.out.tab]
              have t3 : W4.cell? ⟨w3.heap.size, 3, none⟩ = some (.pointer none) := by simp [World.cell?, HC.out.tab]
              have t4 : W4.cell? ⟨w3.heap.size, 4, none⟩ = some (.int .i64 3) := by simp [World.cell?, HC.out.tab]
              have t5 : W4.cell? ⟨w3.heap.size, 5, none⟩ = some (.slice none 0 0) := by simp [World.cell?, HC.out.tab]
              have q32 := neq32_same
              have q32e := eql32_same
              have q30 := neq30_zero
              clear hW4 hun hd
              go_wp2_with fail
              clear t0 t1 t2 t3 t4 t5 q34
              go_loopw [27] (fun i wr => ∃ m : Nat, m ≤ cnt ∧ i = .int .i64 m ∧ CInv w cnt sl own G wo.heap.size w3.heap.size I 0 false ((cnt : Int) * (sl : Int)) (a0 % 4) wr) (fun i _ => cnt - (intOf i).toNat)
              case atStart => exact ⟨0, Nat.zero_le _, rfl, HC.out⟩
              case round =>
                clear HC
                obtain ⟨m, hm, rfl, hcin⟩ := hrel
                have u0 : wr.cell? ⟨w3.heap.size, 0, none⟩ = some (.slice (some ⟨w.heap.size + 1, 0, none⟩) cnt cnt) := by simp [World.cell?, hcin.tab]
                have HCm : Hid (CInv w cnt sl own G wo.heap.size w3.heap.size I 0 false ((cnt : Int) * (sl : Int)) (a0 % 4) wr) := hcin
                have hsl0 : 0 < sl := by omega
                have hslI : (0 : Int) < (sl : Int) := by omega
                by_cases hml : m < cnt
                · have u1 : wr.cell? ⟨w.heap.size + 1, m, none⟩ = some (.slice (some ⟨G (own m), 0, none⟩) sl sl) := by rw [hcin.segs.cell hml]; simp
                  have u2 : wr.cell? ⟨wo.heap.size, m, none⟩ = some (.pointer (some ⟨G (own m), 0, none⟩)) := hcin.firsts.cell hml
                  have u3 : wr.cell? ⟨w.heap.size, m, none⟩ = some (.int .i64 ((own m : Nat) : Int)) := hcin.owner.cell hml
                  have hmlI : (m : Int) < (cnt : Int) := by omega
                  clear hcin
                  have hmb : ((m : Int) == (I : Int)) = true ∨ ((m : Int) == (I : Int)) = false := by cases ((m : Int) == (I : Int)) <;> simp
                  rcases hmb with hmb | hmb
                  all_goals
                    as_aux_lemma =>
                      go_wp2
                      go_region
                      all_goals go_wp2
                      all_goals
                        as_aux_lemma =>
                          obtain ⟨wc, rfl⟩ : ∃ wc : World, wc = wr := ⟨_, rfl⟩
                          have hpm : 0 ≤ ((own m : Nat) : Int) * (sl : Int) ∧ ((own m : Nat) : Int) * (sl : Int) ≤ 128 := by
                            have h0 := (HI.out.own_ok m hml).le
                            have h1 : own m * sl ≤ 16 * 8 := Nat.mul_le_mul (by omega) hs8
                            have h2 : ((own m * sl : Nat) : Int) = ((own m : Nat) : Int) * (sl : Int) := Int.natCast_mul (own m) sl
                            omega
                          obtain ⟨hpm0, hpm1⟩ := hpm
                          go_loopw [31] (fun i wr => ∃ k : Nat, k ≤ sl ∧ i = .int .i64 k ∧ CInv w cnt sl own G wo.heap.size w3.heap.size I 0 false ((cnt : Int) * (sl : Int)) (a0 % 4) wr) (fun i _ => sl - (intOf i).toNat)
                          case atStart => exact ⟨0, Nat.zero_le _, rfl, HCm.out.later ⟨rfl, rfl, rfl, Nat.le_refl _, fun _ _ => rfl⟩⟩
                          case round =>
                            obtain ⟨k, hk6, rfl, hcin6⟩ := hrel
                            have HC6 : Hid (CInv w cnt sl own G wo.heap.size w3.heap.size I 0 false ((cnt : Int) * (sl : Int)) (a0 % 4) wr) := hcin6
                            by_cases hkl : k < sl
                            · as_aux_lemma =>
                                have hld := load_marked (hcin6.marked m hml) k hkl
                                have HLD : Hid ((Instr.loadAt 30 (.pointer (some ⟨G (own m), k * 18, none⟩))).run Yba.prog wr = _) := hld
                                clear hcin6 hld
                                go_wp2_with (refine wpList_load30 _ rfl (.tmp 266) rfl _ _ rfl _ HLD.out ?_)
                                go_roundw
                                case rel => exact ⟨k + 1, by omega, by go_num, HC6.out.later ((Below.refl _ _).alloc (Nat.le_refl _) _)⟩
                                case measure => simp [intOf]; omega
                            · as_aux_lemma =>
                                clear hcin6
                                go_wp2
                                go_roundw
                                case rel => exact ⟨m + 1, by omega, by go_num, HC6.out⟩
                                case measure => simp [intOf]; omega
                · as_aux_lemma =>
                    have u1 : wr.cell? ⟨w.heap.size + 1, I, none⟩ = some (.slice (some ⟨G (own I), 0, none⟩) sl sl) := by rw [hcin.segs.cell hI]; simp
                    have hOs : (O : Int) < (sl : Int) := by omega
                    clear hcin
                    go_wp2
                    go_ret
                    exact ⟨rfl, HCm.out.below⟩
          · as_aux_lemma =>
              have hd : decide (own I ≠ I) = true := by simp [hoI]
              rw [hd] at hun
              have hb : ((own I : Int) != (I : Int)) = true := by simp; omega
              simp only [hb]
              refine (claim_new w3.heap.size (w.heap.size + 1) cnt sl J I O (.slice (some ⟨G (own I), 0, none⟩) sl sl) (a0 % 4) _ (by simp) (by simp) (by omega) (by omega) PW.out ES.out BW.out hs8 hO hI ?hseg (HT.out.segs.frozen I) (by omega) (by simp) (by simp; omega) hun).mono ?_
              case hseg => rw [HT.out.segs.cell hI, if_pos hI]
              rintro e W4 ⟨rfl, n4, hW4⟩
              have HC : Hid (CInv w cnt sl own G wo.heap.size w3.heap.size I (w3.heap.size + 1) true ((cnt : Int) * (sl : Int)) (a0 % 4) W4) := by
                have h := c_new (I := I) HT.out HR.out HB.out (by omega) (by omega)
                rw [hW4, ← show (w3.alloc (.cells #[.slice (some ⟨w.heap.size + 1, 0, none⟩) cnt cnt, .int .u64 (a0 % 4), .int .i64 ((cnt : Int) * (sl : Int)), .pointer none, .int .i64 3, .slice none 0 0] 37)).heap.size = w3.heap.size + 1 from World.size_alloc _ _]; exact h.later ⟨rfl, rfl, rfl, Nat.le_refl _, fun _ _ => rfl⟩

              have t0 : W4.cell? ⟨w3.heap.size, 0, none⟩ = some (.slice (some ⟨w.heap.size + 1, 0, none⟩) cnt cnt) := by simp [World.cell?, HC.out.tab]
              have t1 : W4.cell? ⟨w3.heap.size, 1, none⟩ = some (.int .u64 (a0 % 4)) := by simp [World.cell?, HC.out.tab]
              have t2 : W4.cell? ⟨w3.heap.size, 2, none⟩ = some (.int .i64 ((cnt : Int) * (sl : Int))) := by simp [World.cell?, HC.out.tab]
              have t3 : W4.cell? ⟨w3.heap.size, 3, none⟩ = some (.pointer none) := by simp [World.cell?, HC.out.tab]
              have t4 : W4.cell? ⟨w3.heap.size, 4, none⟩ = some (.int .i64 3) := by simp [World.cell?, HC.out.tab]
              have t5 : W4.cell? ⟨w3.heap.size, 5, none⟩ = some (.slice none 0 0) := by simp [World.cell?, HC.out.tab]
              have q32 := neq32_same
              have q32e := eql32_same
              have q30 := neq30_zero
              clear hW4 hun hd
              go_wp2_with fail
              clear t0 t1 t2 t3 t4 t5 q34
              go_loopw [27] (fun i wr => ∃ m : Nat, m ≤ cnt ∧ i = .int .i64 m ∧ CInv w cnt sl own G wo.heap.size w3.heap.size I (w3.heap.size + 1) true ((cnt : Int) * (sl : Int)) (a0 % 4) wr) (fun i _ => cnt - (intOf i).toNat)
              case atStart => exact ⟨0, Nat.zero_le _, rfl, HC.out⟩
              case round =>
                clear HC
                obtain ⟨m, hm, rfl, hcin⟩ := hrel
                have u0 : wr.cell? ⟨w3.heap.size, 0, none⟩ = some (.slice (some ⟨w.heap.size + 1, 0, none⟩) cnt cnt) := by simp [World.cell?, hcin.tab]
                have HCm : Hid (CInv w cnt sl own G wo.heap.size w3.heap.size I (w3.heap.size + 1) true ((cnt : Int) * (sl : Int)) (a0 % 4) wr) := hcin
                have hsl0 : 0 < sl := by omega
                have hslI : (0 : Int) < (sl : Int) := by omega
                by_cases hml : m < cnt
                · have u2 : wr.cell? ⟨wo.heap.size, m, none⟩ = some (.pointer (some ⟨G (own m), 0, none⟩)) := hcin.firsts.cell hml
                  have hmlI : (m : Int) < (cnt : Int) := by omega
                  by_cases hmI : m = I
                  · as_aux_lemma =>
                      subst hmI
                      have u1 : wr.cell? ⟨w.heap.size + 1, m, none⟩ = some (.slice (some ⟨(w3.heap.size + 1), 0, none⟩) sl sl) := by rw [hcin.segs.cell hml]; simp
                      have hq : (binOp .eql 32 (.pointer (some ⟨(w3.heap.size + 1), 0, none⟩)) (.pointer (some ⟨G (own m), 0, none⟩))).run Yba.prog wr.drew = .ok (.bool false) wr.drew :=
                        eql32_other (w := wr.drew) (hcin.fresh rfl).1 (hcin.marked m hml) (fun e => (hcin.fresh rfl).2 m hml e.symm)
                      clear hcin q32e
                      go_wp2
                      go_region
                      all_goals go_wp2
                      all_goals
                        as_aux_lemma =>
                          obtain ⟨wc, rfl⟩ : ∃ wc : World, wc = wr := ⟨_, rfl⟩
                          go_loopw [29] (fun i wr => ∃ k : Nat, k ≤ sl ∧ i = .int .i64 k ∧ CInv w cnt sl own G wo.heap.size w3.heap.size m (w3.heap.size + 1) true ((cnt : Int) * (sl : Int)) (a0 % 4) wr) (fun i _ => sl - (intOf i).toNat)
                          case atStart => exact ⟨0, Nat.zero_le _, rfl, HCm.out.later ⟨rfl, rfl, rfl, Nat.le_refl _, fun _ _ => rfl⟩⟩
                          case round =>
                            obtain ⟨k, hk6, rfl, hcin6⟩ := hrel
                            have HC6 : Hid (CInv w cnt sl own G wo.heap.size w3.heap.size m (w3.heap.size + 1) true ((cnt : Int) * (sl : Int)) (a0 % 4) wr) := hcin6
                            by_cases hkl : k < sl
                            · as_aux_lemma =>
                                have hld := load_zero (hcin6.fresh rfl).1 k hkl
                                have HLD : Hid ((Instr.loadAt 30 (.pointer (some ⟨(w3.heap.size + 1), k * 18, none⟩))).run Yba.prog wr = _) := hld
                                clear hcin6 hld
                                go_wp2_with (refine wpList_load30 _ rfl (.tmp 244) rfl _ _ rfl _ HLD.out ?_)
                                go_roundw
                                case rel => exact ⟨k + 1, by omega, by go_num, HC6.out⟩
                                case measure => simp [intOf]; omega
                            · as_aux_lemma =>
                                clear hcin6
                                go_wp2
                                go_roundw
                                case rel => exact ⟨m + 1, by omega, by go_num, HC6.out⟩
                                case measure => simp [intOf]; omega
                  · as_aux_lemma =>
                      have u1 : wr.cell? ⟨w.heap.size + 1, m, none⟩ = some (.slice (some ⟨G (own m), 0, none⟩) sl sl) := by rw [hcin.segs.cell hml]; simp [hmI]
                      have u3 : wr.cell? ⟨w.heap.size, m, none⟩ = some (.int .i64 ((own m : Nat) : Int)) := hcin.owner.cell hml
                      have hmb : ((m : Int) == (I : Int)) = false := by simp; omega
                      clear hcin
                      go_wp2
                      go_region
                      all_goals go_wp2
                      all_goals
                        as_aux_lemma =>
                          obtain ⟨wc, rfl⟩ : ∃ wc : World, wc = wr := ⟨_, rfl⟩
                          have hpm : 0 ≤ ((own m : Nat) : Int) * (sl : Int) ∧ ((own m : Nat) : Int) * (sl : Int) ≤ 128 := by
                            have h0 := (HI.out.own_ok m hml).le
                            have h1 : own m * sl ≤ 16 * 8 := Nat.mul_le_mul (by omega) hs8
                            have h2 : ((own m * sl : Nat) : Int) = ((own m : Nat) : Int) * (sl : Int) := Int.natCast_mul (own m) sl
                            omega
                          obtain ⟨hpm0, hpm1⟩ := hpm
                          go_loopw [31] (fun i wr => ∃ k : Nat, k ≤ sl ∧ i = .int .i64 k ∧ CInv w cnt sl own G wo.heap.size w3.heap.size I (w3.heap.size + 1) true ((cnt : Int) * (sl : Int)) (a0 % 4) wr) (fun i _ => sl - (intOf i).toNat)
                          case atStart => exact ⟨0, Nat.zero_le _, rfl, HCm.out.later ⟨rfl, rfl, rfl, Nat.le_refl _, fun _ _ => rfl⟩⟩
                          case round =>
                            obtain ⟨k, hk6, rfl, hcin6⟩ := hrel
                            have HC6 : Hid (CInv w cnt sl own G wo.heap.size w3.heap.size I (w3.heap.size + 1) true ((cnt : Int) * (sl : Int)) (a0 % 4) wr) := hcin6
                            by_cases hkl : k < sl
                            · as_aux_lemma =>
                                have hld := load_marked (hcin6.marked m hml) k hkl
                                have HLD : Hid ((Instr.loadAt 30 (.pointer (some ⟨G (own m), k * 18, none⟩))).run Yba.prog wr = _) := hld
                                clear hcin6 hld
                                go_wp2_with (refine wpList_load30 _ rfl (.tmp 266) rfl _ _ rfl _ HLD.out ?_)
                                go_roundw
                                case rel => exact ⟨k + 1, by omega, by go_num, HC6.out.later ((Below.refl _ _).alloc (Nat.le_refl _) _)⟩
                                case measure => simp [intOf]; omega
                            · as_aux_lemma =>
                                clear hcin6
                                go_wp2
                                go_roundw
                                case rel => exact ⟨m + 1, by omega, by go_num, HC6.out⟩
                                case measure => simp [intOf]; omega
                · as_aux_lemma =>
                    have u1 : wr.cell? ⟨w.heap.size + 1, I, none⟩ = some (.slice (some ⟨(w3.heap.size + 1), 0, none⟩) sl sl) := by rw [hcin.segs.cell hI]; simp
                    have hOs : (O : Int) < (sl : Int) := by omega
                    clear hcin
                    go_wp2
                    go_ret
                    exact ⟨rfl, HCm.out.below⟩

end Go.Proofs.Ybulkdlha
