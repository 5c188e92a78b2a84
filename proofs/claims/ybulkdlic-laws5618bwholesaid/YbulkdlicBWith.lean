/-
  DERIVED. alloc.LawS5618BWhole: zzs5618bwith WHERE x IS IN NO RUN.
-/
import Derived.Test.YbulkdlicBPlain2
import Derived.Laws.MakeOwn
import Derived.Test.YbulkdlicBClone
namespace Go.Proofs.Ybulkdlic
open Go.RowKit

attribute [local go_sem ↓] Go.wp_at_zero Go.wp_at_succ

/-- An append onto an own row keeps what lies below the row's base. -/
theorem app_keeps {wr w1 : World} {B n nq : Nat} {v : Value} {G : List Value} {o : Obj} (hrow : wr.ownsRow B 31 4 v n G) (hl : B ≤ wr.heap.size) (hg : ((wr.drewN nq).alloc o).grownBy w1 v.ownBlock) : Below B wr w1 :=
  ((below_drewN (Below.refl B wr) nq).alloc hl o).grown hg (by simp; omega) (fun j hj => (hrow.lt j hj).1)


theorem drop_at' {L : List (Nat × Nat)} {m : Nat} (h : m < L.length) : L.drop m = (fst L m, lst L m) :: L.drop (m + 1) := by
  have hat := getD_at h
  rw [List.drop_eq_getElem_cons h]
  congr 1
  exact Option.some.inj ((List.getElem?_eq_getElem h).symm.trans hat)
theorem mfold_app {O : List (Nat × Nat)} {p : Nat × Nat} {t : List (Nat × Nat)} (h : ∀ j, O.length = j + 1 → lst O j + 1 ≠ p.1) : mfold O (p :: t) = mfold (O ++ [p]) t := by
  rw [mfold]
  cases hO : O.getLast? with
  | none => rfl
  | some a =>
    simp only
    have hne : O ≠ [] := fun e => by rw [e] at hO; simp at hO
    obtain ⟨j, hj⟩ : ∃ j, O.length = j + 1 := ⟨O.length - 1, by have := List.length_pos_iff.2 hne; omega⟩
    have h1 : O[j]? = some a := by rw [List.getLast?_eq_getElem?, hj] at hO; simpa using hO
    have h2 : lst O j = a.2 := by have := getD_at (L := O) (k := j) (by omega); rw [h1] at this; exact (congrArg Prod.snd (Option.some.inj this)).symm
    rw [if_neg (by rw [← h2]; exact h j hj)]
theorem mfold_join {O : List (Nat × Nat)} {p : Nat × Nat} {t : List (Nat × Nat)} {j : Nat} (hj : O.length = j + 1) (h : lst O j + 1 = p.1) : mfold O (p :: t) = mfold (O.set j (fst O j, p.2)) t := by
  have h1 := getD_at (L := O) (k := j) (by omega)
  have hO : O.getLast? = some (fst O j, lst O j) := by rw [List.getLast?_eq_getElem?, hj]; simpa using h1
  rw [mfold, hO]
  simp only
  rw [if_pos h]
  congr 1
  rw [List.set_eq_take_append_cons_drop, if_pos (by omega), List.drop_eq_nil_of_le (by omega), List.dropLast_eq_take, hj]
  rfl
theorem own_base {w : World} {b b' n : Nat} {v : Value} {G : List Value} (h : w.ownsRow b 31 4 v n G) (hb : b' ≤ b) : w.ownsRow b' 31 4 v n G := by
  obtain ⟨h0, h⟩ := h
  refine ⟨h0, h.imp id ?_⟩
  rintro ⟨g, cp, cur, h1, h2, h3⟩
  exact ⟨g, cp, cur, h1, Nat.le_trans hb h2, h3⟩
theorem own_last {w : World} {base g n cp j : Nat} {L : List (Nat × Nat)} (hn : L.length = n) (h : w.ownsRow base 31 4 (.slice (some ⟨g, 0, none⟩) n cp) n (flat L)) (hj : j < n) (x : Nat) :
    ((w.setCell ⟨g, j * 4 + 2, none⟩ (.int .u64 0)).setCell ⟨g, j * 4 + 3, none⟩ (.int .u64 (x : Int))).ownsRow base 31 4 (.slice (some ⟨g, 0, none⟩) n cp) n (flat (L.set j (fst L j, x))) ∧ w.grownBy ((w.setCell ⟨g, j * 4 + 2, none⟩ (.int .u64 0)).setCell ⟨g, j * 4 + 3, none⟩ (.int .u64 (x : Int))) (some g) := by
  have ha := getD_at (L := L) (k := j) (by omega)
  have := own_setCells (o := j * 4 + 2) (vs := [.int .u64 0, .int .u64 (x : Int)]) h (by simp; omega)
  rw [show j * 4 + 2 + [Value.int .u64 0, Value.int .u64 (x : Int)].length = j * 4 + 2 + 2 from rfl, flat_set_last ha x] at this
  exact ⟨this, grown_setCells w g (j * 4 + 2) [.int .u64 0, .int .u64 (x : Int)]⟩

theorem insP_length (x : Nat) : ∀ (A : List (Nat × Nat)), (insP x A).length = A.length + 1
  | [] => rfl
  | a :: A => by
    rw [insP]
    split
    · rfl
    · rw [List.length_cons, insP_length x A, List.length_cons]

theorem insP_mem (x : Nat) : ∀ (A : List (Nat × Nat)) (r : Nat × Nat), r ∈ insP x A → r = (x, x) ∨ r ∈ A
  | [], r, h => by simp [insP] at h; exact .inl h
  | a :: A, r, h => by
    rw [insP] at h
    split at h
    · rcases List.mem_cons.1 h with h | h
      · exact .inl h
      · exact .inr h
    · rcases List.mem_cons.1 h with h | h
      · exact .inr (by rw [h]; simp)
      · rcases insP_mem x A r h with h | h
        · exact .inl h
        · exact .inr (by simp [h])

set_option maxRecDepth 100000 in
set_option maxHeartbeats 4000000 in
theorem with_new (base : Nat) (v : Value) (L : List (Nat × Nat)) (n x : Nat) (w : World) (hn : L.length = n) (hL : n ≤ 65000) (hv : w.ownsRow base 31 4 v n (flat L)) (hx : ∀ k, k < n → ¬ (fst L k ≤ x ∧ x ≤ lst L k)) (hbd : ∀ r ∈ L, r.2 + 1 < 18446744073709551616) (hx1 : x + 1 < 18446744073709551616) :
    Calls Yba.prog 18 #[v, .agg #[.int .u64 0, .int .u64 (x : Int)]] w fun e w' => ∃ v', e = .returned (.tuple #[v', .bool true]) ∧ w'.ownsRow w.heap.size 31 4 v' (mrg (insP x L)).length (flat (mrg (insP x L))) ∧ Below w.heap.size w w' := by
  obtain ⟨g, p, cp, rfl, hix, hcs⟩ := row_view hv hn
  have HC : Hid (∀ k, k < n → w.cell? ⟨g, k * 4, none⟩ = some (.int .u64 0) ∧ w.cell? ⟨g, k * 4 + 1, none⟩ = some (.int .u64 (fst L k : Int)) ∧ w.cell? ⟨g, k * 4 + 2, none⟩ = some (.int .u64 0) ∧ w.cell? ⟨g, k * 4 + 3, none⟩ = some (.int .u64 (lst L k : Int))) := hcs
  have HX : Hid (∀ (k : Nat), k < n → ∀ W, (Instr.indexAt 25 (.slice p n cp) (.int .i64 k)).run Yba.prog W = .ok (.pointer (some ⟨g, k * 4, none⟩)) W) := hix
  have HN : Hid (∀ k, k < n → ¬ (fst L k ≤ x ∧ x ≤ lst L k)) := hx
  have HBD : Hid (∀ r ∈ insP x L, r.2 + 1 < 18446744073709551616) := fun r hr => (insP_mem x L r hr).elim (fun e => by rw [e]; exact hx1) (hbd r)
  have HPL : (insP x L).length = n + 1 := by rw [insP_length, hn]
  obtain ⟨Pt, hPt⟩ : ∃ Pt, Pt = insP x L := ⟨_, rfl⟩
  rw [← hPt] at HBD HPL ⊢
  clear hv hcs hix hx hbd hx1
  go_enter Yba.func18, Yba.ntmps18
  go_wp2
  go_loopw [6] (fun i wr => ∃ k : Nat, k ≤ n ∧ i = .int .i64 k ∧ wr.cell? ⟨w.heap.size, 0, none⟩ = some (.int .u64 0) ∧ wr.cell? ⟨w.heap.size, 1, none⟩ = some (.int .u64 (x : Int)) ∧ Below w.heap.size w wr) (fun i _ => n - (intOf i).toNat)
  case atStart => exact ⟨0, Nat.zero_le _, rfl, newAt rfl rfl, newAt rfl rfl, (Below.refl _ w).alloc (Nat.le_refl _) _⟩
  case round =>
    obtain ⟨k, hk, rfl, c0, c1, hB⟩ := hrel
    by_cases hlt : k < n
    · have hxk := HX.out k hlt
      obtain ⟨a0, a1, a2, a3⟩ := HC.out k hlt
      have z0 := cell_below a0 hB
      have z1 := cell_below a1 hB
      have z2 := cell_below a2 hB
      have z3 := cell_below a3 hB
      have H := bin_nat (fst L k) (lst L k) x
      rw [show decide (fst L k ≤ x ∧ x ≤ lst L k) = false from decide_eq_false (HN.out k hlt)] at H
      have hlI : (k : Int) < (n : Int) := by omega
      have hS : ∀ W, Below wr.heap.size wr W → W.cell? ⟨g, k * 4, none⟩ = some (.int .u64 0) ∧ W.cell? ⟨g, k * 4 + 1, none⟩ = some (.int .u64 (fst L k : Int)) ∧ W.cell? ⟨g, k * 4 + 2, none⟩ = some (.int .u64 0) ∧ W.cell? ⟨g, k * 4 + 3, none⟩ = some (.int .u64 (lst L k : Int)) ∧ W.cell? ⟨w.heap.size, 0, none⟩ = some (.int .u64 0) ∧ W.cell? ⟨w.heap.size, 1, none⟩ = some (.int .u64 (x : Int)) ∧ Below wr.heap.size wr W := fun W hb => ⟨cell_below z0 hb, cell_below z1 hb, cell_below z2 hb, cell_below z3 hb, cell_below c0 hb, cell_below c1 hb, hb⟩
      have HB : Hid (Below w.heap.size w wr) := hB
      clear a0 a1 a2 a3 hB
      go_wp2
      go_region_held3 (fun W => W.cell? ⟨g, k * 4, none⟩ = some (.int .u64 0) ∧ W.cell? ⟨g, k * 4 + 1, none⟩ = some (.int .u64 (fst L k : Int)) ∧ W.cell? ⟨g, k * 4 + 2, none⟩ = some (.int .u64 0) ∧ W.cell? ⟨g, k * 4 + 3, none⟩ = some (.int .u64 (lst L k : Int)) ∧ W.cell? ⟨w.heap.size, 0, none⟩ = some (.int .u64 0) ∧ W.cell? ⟨w.heap.size, 1, none⟩ = some (.int .u64 (x : Int)) ∧ Below wr.heap.size wr W)
        (first | exact hS _ (Below.refl _ _).drew | exact hS _ (((Below.refl _ _).drew).trans hB'))
        (first | (go_at_call 17; refine (H _).mono ?_; rintro e w' ⟨rfl, hB'⟩))
      rename_i hHeld
      obtain ⟨-, -, -, -, d0, d1, e2⟩ := id hHeld
      clear hHeld hB' hS
      go_wp2
      exact ⟨⟨k + 1, by omega, by go_num, d0, d1, HB.out.trans (e2.mono HB.out.size)⟩, by simp [intOf]; omega⟩
    · obtain rfl : k = n := by omega
      have hlI : ¬ (k : Int) < (k : Int) := by omega
      obtain ⟨i3, hi, hz0, hz1, hz2⟩ := info_parts info31b
      have l0 := World.block_lt_of_cell? _ _ c0
      obtain ⟨wm, hmk, hmo, hmg⟩ := run_makeSlice_owned (P := Yba.prog) wr (w.heap.size + 1) 25 31 i3 _ 4 Yba.underlying25 hi hz0 hz1 .i64 .i64 (k + 1) (by omega) (by rw [hz2]; omega) (by unfold maxLen; omega) (by simp at l0; omega)
      rw [show (((k + 1 : Nat)) : Int) = (k : Int) + 1 by omega] at hmk
      have hBm : Below w.heap.size w wm := hB.trans ⟨hmg.os, hmg.tape, hmg.output, hmg.size, fun b hb => hmg.block b (Nat.lt_of_lt_of_le hb hB.size) (by simp)⟩
      have c0m : wm.cell? ⟨w.heap.size, 0, none⟩ = some (.int .u64 0) := (World.cell?_of_block (w := wr) (hmg.block _ l0 (by simp))).trans c0
      have c1m : wm.cell? ⟨w.heap.size, 1, none⟩ = some (.int .u64 (x : Int)) := (World.cell?_of_block (a := ⟨w.heap.size, 1, none⟩) (w := wr) (hmg.block w.heap.size l0 (by simp))).trans c1
      have HM : Hid (wm.ownsRow (w.heap.size + 1) 31 4 (.slice (some ⟨wr.heap.size, 0, none⟩) 0 (k + 1)) 0 [] ∧ Below w.heap.size w wm) := ⟨hmo, hBm⟩
      clear hmo hmg hBm hB c0 c1
      go_wp2
      clear hmk
      go_loopw [7, 8, 9] (fun P pl i wr => ∃ (q : Nat) (vp : Value), q ≤ k ∧ P = vp ∧ pl = .bool (plc x L q) ∧ i = .int .i64 q ∧ wr.ownsRow (w.heap.size + 1) 31 4 vp (ptsK x L q).length (flat (ptsK x L q)) ∧ wr.cell? ⟨w.heap.size, 0, none⟩ = some (.int .u64 0) ∧ wr.cell? ⟨w.heap.size, 1, none⟩ = some (.int .u64 (x : Int)) ∧ Below w.heap.size w wr) (fun _ _ i _ => k - (intOf i).toNat)
      case atStart => exact ⟨0, _, Nat.zero_le _, rfl, by simp [plc], rfl, by rw [pts_zero]; exact HM.out.1, c0m, c1m, HM.out.2⟩
      case round =>
        clear HM c0m c1m l0
        obtain ⟨q, vp, hq, rfl, rfl, rfl, hown, c0, c1, hB⟩ := hrel
        by_cases hlt : q < k
        · have hxk := HX.out q hlt
          obtain ⟨a0, a1, a2, a3⟩ := HC.out q hlt
          have z0 := cell_below a0 hB
          have z1 := cell_below a1 hB
          have z2 := cell_below a2 hB
          have z3 := cell_below a3 hB
          have hlI : (q : Int) < (k : Int) := by omega
          have hat : L[q]? = some (fst L q, lst L q) := getD_at (by omega)
          have HO : Hid (wr.ownsRow (w.heap.size + 1) 31 4 u7 (ptsK x L q).length (flat (ptsK x L q)) ∧ Below w.heap.size w wr) := ⟨hown, hB⟩
          clear a0 a1 a2 a3 hown hB
          cases hpl : plc x L q with
          | true =>
            have hls : w.heap.size + 1 ≤ wr.heap.size := World.block_lt_of_cell? _ _ c0
            have hpl2 : (ptsK x L q).length ≤ 65001 := by rw [ptsK, if_pos hpl, insP_length, List.length_take]; omega
            go_wp2
            go_quiet (fail)
            have hD0 : (wr.drewN nq).ownsRow (w.heap.size + 1) 31 4 u7 (ptsK x L q).length (flat (ptsK x L q)) := HO.out.1
            have HD0 : Hid ((wr.drewN nq).ownsRow (w.heap.size + 1) 31 4 u7 (ptsK x L q).length (flat (ptsK x L q))) := hD0
            clear hD0
            go_wp2_with (at_builtin; refine wpList_append_lies _ (by rfl) (.tmp 54) (.tmp 59) 25 (by rfl) (w.heap.size + 1) 31 i3 _ 4 32 Yba.underlying25 hi hz0 hz1 hz2 rfl (by decide) u7 (ptsK x L q).length (flat (ptsK x L q)) (by rfl) (HD0.out.alloc _) ⟨wr.heap.size, 0, none⟩ 1 1 (rc (fst L q, lst L q)) (by rfl) rfl (news_rc (heap_alloc_new (wr.drewN nq) _)) (flat_one (fst L q, lst L q) ▸ flat_cells [_]) (by omega) (by unfold maxLen; omega) (by omega) (by simp; omega) _ rfl ?_; intro g1 cap1 w1 hown1 hgrow hat1 hlt1)
            have hk1 := app_keeps HO.out.1 hls hgrow
            have hpa := pts_after hat hpl
            refine ⟨⟨q + 1, _, by omega, rfl, by rw [plc_succ hat, hpl]; rfl, by go_num, ?_, (hk1.cell (p := ⟨w.heap.size, 0, none⟩) (by simp)).trans c0, (hk1.cell (p := ⟨w.heap.size, 1, none⟩) (by simp)).trans c1, HO.out.2.trans (hk1.mono (by omega))⟩, by simp [intOf]; omega⟩
            rw [hpa, List.length_append, flat_append, flat_one]
            exact hown1
          | false =>
            have hls : w.heap.size + 1 ≤ wr.heap.size := World.block_lt_of_cell? _ _ c0
            have hpl2 : (ptsK x L q).length ≤ 65001 := by rw [ptsK, if_neg (by rw [hpl]; simp), List.length_take]; omega
            have H34 := blt_nat x (fst L q)
            have hS : ∀ W, Below wr.heap.size wr W → W.cell? ⟨g, q * 4, none⟩ = some (.int .u64 0) ∧ W.cell? ⟨g, q * 4 + 1, none⟩ = some (.int .u64 (fst L q : Int)) ∧ W.cell? ⟨w.heap.size, 0, none⟩ = some (.int .u64 0) ∧ W.cell? ⟨w.heap.size, 1, none⟩ = some (.int .u64 (x : Int)) ∧ Below wr.heap.size wr W := fun W hb => ⟨cell_below z0 hb, cell_below z1 hb, cell_below c0 hb, cell_below c1 hb, hb⟩
            by_cases hxf : x < fst L q
            · rw [show decide (x < fst L q) = true from decide_eq_true hxf] at H34
              go_wp2
              go_region_held3 (fun W => W.cell? ⟨g, q * 4, none⟩ = some (.int .u64 0) ∧ W.cell? ⟨g, q * 4 + 1, none⟩ = some (.int .u64 (fst L q : Int)) ∧ W.cell? ⟨w.heap.size, 0, none⟩ = some (.int .u64 0) ∧ W.cell? ⟨w.heap.size, 1, none⟩ = some (.int .u64 (x : Int)) ∧ Below wr.heap.size wr W)
                (first | exact hS _ (Below.refl _ _).drew | exact hS _ (((Below.refl _ _).drew).trans hB'))
                (first | (go_at_call 34; refine (H34 _).mono ?_; rintro e w' ⟨rfl, hB'⟩))
              rename_i hHeld
              obtain ⟨-, -, d0, d1, e2⟩ := id hHeld
              clear hHeld hB' hS
              have y0 := cell_below z0 e2
              have y1 := cell_below z1 e2
              have y2 := cell_below z2 e2
              have y3 := cell_below z3 e2
              have hO2 : w'.ownsRow (w.heap.size + 1) 31 4 u7 (ptsK x L q).length (flat (ptsK x L q)) := HO.out.1.kept ⟨e2.os, e2.tape, e2.output, e2.size, fun k hk _ => e2.block k hk⟩ (row := none) (by cases u7.ownBlock <;> simp)
              have hls2 : w.heap.size + 1 ≤ w'.heap.size := Nat.le_trans hls e2.size
              have HO2 : Hid (w'.ownsRow (w.heap.size + 1) 31 4 u7 (ptsK x L q).length (flat (ptsK x L q)) ∧ Below w.heap.size w w') := ⟨hO2, HO.out.2.trans (e2.mono HO.out.2.size)⟩
              clear hO2 HO e2 z0 z1 z2 z3 c0 c1 H34
              have lg : g < w.heap.size + 1 := by have := World.block_lt_of_cell? _ _ (HC.out q hlt).1; simp at this; omega
              go_wp2_with (first | (at_builtin; refine wpList_append_lies _ (by rfl) (.tmp 48) (.tmp 52) 25 (by rfl) (w.heap.size + 1) 31 i3 _ 4 32 Yba.underlying25 hi hz0 hz1 hz2 rfl (by decide) u7 (ptsK x L q).length (flat (ptsK x L q)) (by rfl) (HO2.out.1.alloc _) ⟨w'.heap.size, 0, none⟩ 1 1 (rc (x, x)) (by rfl) rfl (news_rc (heap_alloc_new w' _)) (flat_one (x, x) ▸ flat_cells [_]) (by omega) (by unfold maxLen; omega) (by omega) (by simp; omega) _ rfl ?_; intro g1 cap1 w1 hown1 hgrow hat1 hlt1; have hk1 := app_keeps (nq := 0) HO2.out.1 hls2 hgrow; have x0 := (hk1.cell (p := ⟨g, q * 4, none⟩) lg).trans y0; have x1 := (hk1.cell (p := ⟨g, q * 4 + 1, none⟩) lg).trans y1; have x2 := (hk1.cell (p := ⟨g, q * 4 + 2, none⟩) lg).trans y2; have x3 := (hk1.cell (p := ⟨g, q * 4 + 3, none⟩) lg).trans y3; have hls3 : w.heap.size + 1 ≤ w1.heap.size := Nat.le_trans hls2 hk1.size; have HO3 : Hid (w1.ownsRow (w.heap.size + 1) 31 4 (.slice (some ⟨g1, 0, none⟩) ((ptsK x L q).length + 1) cap1) ((ptsK x L q).length + 1) (flat (ptsK x L q) ++ rc (x, x)) ∧ Below (w.heap.size + 1) w' w1) := ⟨hown1, hk1⟩; clear hown1 hk1 hgrow) | (at_builtin; refine wpList_append_lies _ (by rfl) (.tmp 54) (.tmp 59) 25 (by rfl) (w.heap.size + 1) 31 i3 _ 4 32 Yba.underlying25 hi hz0 hz1 hz2 rfl (by decide) (.slice (some ⟨g1, 0, none⟩) ((ptsK x L q).length + 1) cap1) ((ptsK x L q).length + 1) (flat (ptsK x L q) ++ rc (x, x)) (by rfl) (HO3.out.1.alloc _) ⟨w1.heap.size, 0, none⟩ 1 1 (rc (fst L q, lst L q)) (by rfl) rfl (news_rc (heap_alloc_new w1 _)) (flat_one (fst L q, lst L q) ▸ flat_cells [_]) (by omega) (by unfold maxLen; omega) (by omega) (by simp; omega) _ rfl ?_; intro g2 cap2 w2 hown2 hgrow2 hat2 hlt2))
              have hk2 := HO3.out.2.trans (app_keeps (nq := 0) HO3.out.1 hls3 hgrow2)
              have hpa := pts_here hat hpl hxf
              refine ⟨⟨q + 1, _, by omega, rfl, by rw [plc_succ hat, hpl, decide_eq_true hxf]; rfl, by go_num, ?_, (hk2.cell (p := ⟨w.heap.size, 0, none⟩) (by simp)).trans d0, (hk2.cell (p := ⟨w.heap.size, 1, none⟩) (by simp)).trans d1, HO2.out.2.trans (hk2.mono (by omega))⟩, by simp [intOf]; omega⟩
              rw [hpa, List.length_append, List.length_append, flat_append, flat_append, flat_one, flat_one]
              exact hown2
            · rw [show decide (x < fst L q) = false from decide_eq_false hxf] at H34
              go_wp2
              go_region_held3 (fun W => W.cell? ⟨g, q * 4, none⟩ = some (.int .u64 0) ∧ W.cell? ⟨g, q * 4 + 1, none⟩ = some (.int .u64 (fst L q : Int)) ∧ W.cell? ⟨w.heap.size, 0, none⟩ = some (.int .u64 0) ∧ W.cell? ⟨w.heap.size, 1, none⟩ = some (.int .u64 (x : Int)) ∧ Below wr.heap.size wr W)
                (first | exact hS _ (Below.refl _ _).drew | exact hS _ (((Below.refl _ _).drew).trans hB'))
                (first | (go_at_call 34; refine (H34 _).mono ?_; rintro e w' ⟨rfl, hB'⟩))
              rename_i hHeld
              obtain ⟨-, -, d0, d1, e2⟩ := id hHeld
              clear hHeld hB' hS
              have y0 := cell_below z0 e2
              have y1 := cell_below z1 e2
              have y2 := cell_below z2 e2
              have y3 := cell_below z3 e2
              have hO2 : w'.ownsRow (w.heap.size + 1) 31 4 u7 (ptsK x L q).length (flat (ptsK x L q)) := HO.out.1.kept ⟨e2.os, e2.tape, e2.output, e2.size, fun k hk _ => e2.block k hk⟩ (row := none) (by cases u7.ownBlock <;> simp)
              have hls2 : w.heap.size + 1 ≤ w'.heap.size := Nat.le_trans hls e2.size
              have HO2 : Hid (w'.ownsRow (w.heap.size + 1) 31 4 u7 (ptsK x L q).length (flat (ptsK x L q)) ∧ Below w.heap.size w w') := ⟨hO2, HO.out.2.trans (e2.mono HO.out.2.size)⟩
              clear hO2 HO e2 z0 z1 z2 z3 c0 c1 H34
              go_wp2_with (at_builtin; refine wpList_append_lies _ (by rfl) (.tmp 54) (.tmp 59) 25 (by rfl) (w.heap.size + 1) 31 i3 _ 4 32 Yba.underlying25 hi hz0 hz1 hz2 rfl (by decide) u7 (ptsK x L q).length (flat (ptsK x L q)) (by rfl) (HO2.out.1.alloc _) ⟨w'.heap.size, 0, none⟩ 1 1 (rc (fst L q, lst L q)) (by rfl) rfl (news_rc (heap_alloc_new w' _)) (flat_one (fst L q, lst L q) ▸ flat_cells [_]) (by omega) (by unfold maxLen; omega) (by omega) (by simp; omega) _ rfl ?_; intro g1 cap1 w1 hown1 hgrow hat1 hlt1)
              have hk1 := app_keeps (nq := 0) HO2.out.1 hls2 hgrow
              have hpa := pts_before hat hpl hxf
              refine ⟨⟨q + 1, _, by omega, rfl, by rw [plc_succ hat, hpl, decide_eq_false hxf]; rfl, by go_num, ?_, (hk1.cell (p := ⟨w.heap.size, 0, none⟩) (by simp)).trans d0, (hk1.cell (p := ⟨w.heap.size, 1, none⟩) (by simp)).trans d1, HO2.out.2.trans (hk1.mono (by omega))⟩, by simp [intOf]; omega⟩
              rw [hpa, List.length_append, flat_append, flat_one]
              exact hown1
        · obtain rfl : q = k := by omega
          have hlI : ¬ (q : Int) < (q : Int) := by omega
          have hpe := @pts_end x L
          rw [hn] at hpe
          cases hpl : plc x L q with
          | true =>
            obtain ⟨N, hN⟩ : ∃ N, Pt.length = N := ⟨_, rfl⟩
            have hNb : N ≤ 65001 := by omega
            have hP : Pt = ptsK x L q := by rw [hPt, hpe, if_pos hpl]
            clear hPt hpe
            have hownP : wr.ownsRow (w.heap.size + 1) 31 4 u7 Pt.length (flat Pt) := by rw [hP]; exact hown
            clear hP
            have hBX := hB
            clear hown hB
            obtain ⟨w1, ew1⟩ : ∃ W, W = wr := ⟨wr, rfl⟩
            subst ew1
            rw [hN] at hownP
            obtain ⟨gP, pP, cP, hvP, hixP, hcP⟩ := row_view hownP hN
            subst hvP
            have HXP : Hid (∀ (k : Nat), k < N → ∀ W, (Instr.indexAt 25 (.slice pP N cP) (.int .i64 k)).run Yba.prog W = .ok (.pointer (some ⟨gP, k * 4, none⟩)) W) := hixP
            have HCP : Hid (∀ k, k < N → w1.cell? ⟨gP, k * 4, none⟩ = some (.int .u64 0) ∧ w1.cell? ⟨gP, k * 4 + 1, none⟩ = some (.int .u64 (fst Pt k : Int)) ∧ w1.cell? ⟨gP, k * 4 + 2, none⟩ = some (.int .u64 0) ∧ w1.cell? ⟨gP, k * 4 + 3, none⟩ = some (.int .u64 (lst Pt k : Int))) := hcP
            have HBX : Hid (Below w.heap.size w w1) := hBX
            obtain ⟨wm, hmk, hmo, hmg⟩ := run_makeSlice_owned (P := Yba.prog) w1 w1.heap.size 25 31 i3 _ 4 Yba.underlying25 hi hz0 hz1 .i64 .i64 N (by omega) (by rw [hz2]; omega) (by unfold maxLen; omega) (Nat.le_refl _)
            have hBm : Below w1.heap.size w1 wm := ⟨hmg.os, hmg.tape, hmg.output, hmg.size, fun b hb => hmg.block b hb (by simp)⟩
            have HMM : Hid (wm.ownsRow w1.heap.size 31 4 (.slice (some ⟨w1.heap.size, 0, none⟩) 0 N) 0 [] ∧ Below w1.heap.size w1 wm) := ⟨hmo, hBm⟩
            clear hmo hmg hBm hBX hixP hcP hownP
            try clear c0
            try clear c1
            try clear hP
            try clear hpl
            go_wp2
            try clear hmk
            go_loopw [10, 11, 12] (fun o i _ wz => ∃ (m : Nat) (O : List (Nat × Nat)) (vo : Value), m ≤ N ∧ O.length ≤ m ∧ o = vo ∧ i = .int .i64 m ∧ wz.ownsRow w1.heap.size 31 4 vo O.length (flat O) ∧ mfold O (Pt.drop m) = mrg Pt ∧ (∀ r ∈ O, r.2 + 1 < 18446744073709551616) ∧ Below w1.heap.size w1 wz) (fun _ i _ _ => N - (intOf i).toNat)
            case atStart => exact ⟨0, [], _, Nat.zero_le _, Nat.le_refl _, rfl, rfl, HMM.out.1, mfold_nil Pt, by simp, HMM.out.2⟩
            case round =>
              clear HMM
              obtain ⟨m, O, vo, hm, hOm, rfl, rfl, hown, hfold, hOb, hB⟩ := hrel
              obtain ⟨nO, hnO⟩ : ∃ nO, O.length = nO := ⟨_, rfl⟩
              rw [hnO] at hown hOm
              obtain ⟨g2, po, co, hvo, hpo, hix2, hcs2⟩ := row_view2 hown hnO
              subst hvo
              by_cases hlt : m < N
              · have hxk := HXP.out m hlt
                obtain ⟨a0, a1, a2, a3⟩ := HCP.out m hlt
                have z0 := cell_below a0 hB
                have z1 := cell_below a1 hB
                have z2 := cell_below a2 hB
                have z3 := cell_below a3 hB
                have hlI : (m : Int) < (N : Int) := by omega
                have hdr := drop_at' (L := Pt) (m := m) (by omega)
                have hms : w1.heap.size ≤ wr.heap.size := hB.size
                have lgP : gP < w1.heap.size := by have := World.block_lt_of_cell? _ _ a0; simpa using this
                have hPm : lst Pt m + 1 < 18446744073709551616 := HBD.out (fst Pt m, lst Pt m) (List.mem_of_getElem? (getD_at (by omega)))
                have HF : Hid (mfold O ((fst Pt m, lst Pt m) :: Pt.drop (m + 1)) = mrg Pt ∧ (∀ r ∈ O, r.2 + 1 < 18446744073709551616) ∧ lst Pt m + 1 < 18446744073709551616) := ⟨by rw [← hdr]; exact hfold, hOb, hPm⟩
                clear a0 a1 a2 a3 hfold hdr hPm
                by_cases hz : nO = 0
                · have hO : O = [] := List.length_eq_zero_iff.1 (by omega)
                  have hq1 : ¬ (0 : Int) < (nO : Int) := by omega
                  have hq2 : ¬ 0 < nO := by omega
                  have hq3 : decide ((0 : Int) < (nO : Int)) = false := decide_eq_false hq1
                  have HO : Hid (wr.ownsRow w1.heap.size 31 4 (.slice po nO co) nO (flat O) ∧ Below w1.heap.size w1 wr ∧ nO = 0) := ⟨hown, hB, hz⟩
                  clear hown hB hz hix2 hcs2 hOb hpo
                  go_wp2
                  go_quiet (fail)
                  have hD0 : (wr.drewN nq).ownsRow w1.heap.size 31 4 (.slice po nO co) nO (flat O) := HO.out.1
                  have HD0 : Hid ((wr.drewN nq).ownsRow w1.heap.size 31 4 (.slice po nO co) nO (flat O)) := hD0
                  clear hD0
                  go_wp2_with (at_builtin; refine wpList_append_lies _ (by rfl) (.tmp 107) (.tmp 112) 25 (by rfl) w1.heap.size 31 i3 _ 4 32 Yba.underlying25 hi hz0 hz1 hz2 rfl (by decide) (.slice po nO co) nO (flat O) (by rfl) (HD0.out.alloc _) ⟨wr.heap.size, 0, none⟩ 1 1 (rc (fst Pt m, lst Pt m)) (by rfl) rfl (news_rc (heap_alloc_new (wr.drewN nq) _)) (flat_one (fst Pt m, lst Pt m) ▸ flat_cells [_]) (by omega) (by unfold maxLen; omega) (by omega) (by simp; omega) _ rfl ?_; intro g3 cap3 w3 hown3 hgrow3 hat3 hlt3)
                  have hk3 := app_keeps HO.out.1 hms hgrow3
                  refine ⟨⟨m + 1, O ++ [(fst Pt m, lst Pt m)], _, by omega, by rw [List.length_append, hnO]; simp; omega, rfl, by go_num, ?_, ?_, ?_, HO.out.2.1.trans hk3⟩, by simp [intOf]; omega⟩
                  · rw [List.length_append, hnO, flat_append, flat_one]; exact hown3
                  · rw [← mfold_app (fun j hj => by have := HO.out.2.2; omega)]; exact HF.out.1
                  · intro r hr; rcases List.mem_append.1 hr with hr | hr; exact HF.out.2.1 r hr; rw [List.mem_singleton.1 hr]; exact HF.out.2.2
                · obtain ⟨j, hj⟩ : ∃ j, nO = j + 1 := ⟨nO - 1, by omega⟩
                  obtain rfl := hpo (by omega)
                  have hxo := hix2 j (by omega)
                  obtain ⟨b0, b1, b2, b3⟩ := hcs2 j (by omega)
                  have hq1 : (0 : Int) < (nO : Int) := by omega
                  have hq2 : 0 < nO := by omega
                  have hq3 : decide ((0 : Int) < (nO : Int)) = true := decide_eq_true hq1
                  have hwj : IntKind.i64.wrap ((nO : Int) - 1) = (j : Int) := by rw [IntKind.wrap_i64]; omega
                  have H19 := binc_nat (lst O j) (hOb (fst O j, lst O j) (List.mem_of_getElem? (getD_at (by omega))))
                  have hS : ∀ W, Below wr.heap.size wr W → W.cell? ⟨g2, j * 4 + 2, none⟩ = some (.int .u64 0) ∧ W.cell? ⟨g2, j * 4 + 2 + 1, none⟩ = some (.int .u64 (lst O j : Int)) ∧ W.cell? ⟨gP, m * 4, none⟩ = some (.int .u64 0) ∧ W.cell? ⟨gP, m * 4 + 1, none⟩ = some (.int .u64 (fst Pt m : Int)) ∧ Below wr.heap.size wr W := fun W hb => ⟨cell_below b2 hb, cell_below b3 hb, cell_below z0 hb, cell_below z1 hb, hb⟩
                  have HO : Hid (wr.ownsRow w1.heap.size 31 4 (.slice (some ⟨g2, 0, none⟩) nO co) nO (flat O) ∧ Below w1.heap.size w1 wr ∧ nO = j + 1) := ⟨hown, hB, hj⟩
                  clear hown hB hz hix2 hcs2 hOb hpo hj
                  by_cases he : lst O j + 1 = fst Pt m
                  · have hE : (lst O j : Int) + 1 = (fst Pt m : Int) := by omega
                    go_wp2
                    go_region_held3 (fun W => W.cell? ⟨g2, j * 4 + 2, none⟩ = some (.int .u64 0) ∧ W.cell? ⟨g2, j * 4 + 2 + 1, none⟩ = some (.int .u64 (lst O j : Int)) ∧ W.cell? ⟨gP, m * 4, none⟩ = some (.int .u64 0) ∧ W.cell? ⟨gP, m * 4 + 1, none⟩ = some (.int .u64 (fst Pt m : Int)) ∧ Below wr.heap.size wr W)
                      (first | exact hS _ (Below.refl _ _).drew | exact hS _ (((Below.refl _ _).drew).trans hB'))
                      (first | (go_at_call 19; refine (H19 _).mono ?_; rintro e w' ⟨rfl, hB'⟩))
                    rename_i hHeld
                    obtain ⟨x2, x3, -, -, e2⟩ := id hHeld
                    clear hHeld hB' hS
                    have y0 := cell_below z0 e2
                    have y1 := cell_below z1 e2
                    have y2 := cell_below z2 e2
                    have y3 := cell_below z3 e2
                    have hO2 : w'.ownsRow w1.heap.size 31 4 (.slice (some ⟨g2, 0, none⟩) nO co) nO (flat O) := HO.out.1.kept ⟨e2.os, e2.tape, e2.output, e2.size, fun k hk _ => e2.block k hk⟩ (row := none) (by simp [Value.ownBlock])
                    have hms2 : w1.heap.size ≤ w'.heap.size := Nat.le_trans hms e2.size
                    have hfz := own_frozen hO2
                    have HO2 : Hid (w'.ownsRow w1.heap.size 31 4 (.slice (some ⟨g2, 0, none⟩) nO co) nO (flat O) ∧ Below w1.heap.size w1 w') := ⟨hO2, HO.out.2.1.trans (e2.mono hms)⟩
                    have lg2 : w1.heap.size ≤ g2 := (hO2.lt g2 rfl).1
                    have lgn : ¬ g2 = gP := by omega
                    clear hO2 e2
                    go_wp2
                    have hjn := HO.out.2.2
                    obtain ⟨q1, q2⟩ := own_last hnO HO2.out.1 (j := j) (by omega) (lst Pt m)
                    refine ⟨⟨m + 1, O.set j (fst O j, lst Pt m), _, by omega, by rw [List.length_set]; omega, rfl, by go_num, ?_, ?_, ?_, HO2.out.2.grown q2 hms2 (fun r hr => by cases hr; exact lg2)⟩, by simp [intOf]; omega⟩
                    · rw [List.length_set, hnO]; exact q1
                    · rw [← mfold_join (p := (fst Pt m, lst Pt m)) (by omega) he]; exact HF.out.1
                    · intro r hr
                      rcases List.mem_or_eq_of_mem_set hr with hr | hr
                      · exact HF.out.2.1 r hr
                      · rw [hr]; exact HF.out.2.2
                  · have hE : ((lst O j : Int) + 1 == (fst Pt m : Int)) = false := by simp; omega
                    have hE2 : ¬ (lst O j : Int) + 1 = (fst Pt m : Int) := by omega
                    go_wp2
                    go_region_held3 (fun W => W.cell? ⟨g2, j * 4 + 2, none⟩ = some (.int .u64 0) ∧ W.cell? ⟨g2, j * 4 + 2 + 1, none⟩ = some (.int .u64 (lst O j : Int)) ∧ W.cell? ⟨gP, m * 4, none⟩ = some (.int .u64 0) ∧ W.cell? ⟨gP, m * 4 + 1, none⟩ = some (.int .u64 (fst Pt m : Int)) ∧ Below wr.heap.size wr W)
                      (first | exact hS _ (Below.refl _ _).drew | exact hS _ (((Below.refl _ _).drew).trans hB'))
                      (first | (go_at_call 19; refine (H19 _).mono ?_; rintro e w' ⟨rfl, hB'⟩))
                    rename_i hHeld
                    obtain ⟨x2, x3, -, -, e2⟩ := id hHeld
                    clear hHeld hB' hS
                    have y0 := cell_below z0 e2
                    have y1 := cell_below z1 e2
                    have y2 := cell_below z2 e2
                    have y3 := cell_below z3 e2
                    have hO2 : w'.ownsRow w1.heap.size 31 4 (.slice (some ⟨g2, 0, none⟩) nO co) nO (flat O) := HO.out.1.kept ⟨e2.os, e2.tape, e2.output, e2.size, fun k hk _ => e2.block k hk⟩ (row := none) (by simp [Value.ownBlock])
                    have hms2 : w1.heap.size ≤ w'.heap.size := Nat.le_trans hms e2.size
                    have hfz := own_frozen hO2
                    have HO2 : Hid (w'.ownsRow w1.heap.size 31 4 (.slice (some ⟨g2, 0, none⟩) nO co) nO (flat O) ∧ Below w1.heap.size w1 w') := ⟨hO2, HO.out.2.1.trans (e2.mono hms)⟩
                    have lg2 : w1.heap.size ≤ g2 := (hO2.lt g2 rfl).1
                    clear hO2 e2
                    go_wp2_with (at_builtin; refine wpList_append_lies _ (by rfl) (.tmp 107) (.tmp 112) 25 (by rfl) w1.heap.size 31 i3 _ 4 32 Yba.underlying25 hi hz0 hz1 hz2 rfl (by decide) (.slice (some ⟨g2, 0, none⟩) nO co) nO (flat O) (by rfl) (HO2.out.1.alloc _) ⟨w'.heap.size, 0, none⟩ 1 1 (rc (fst Pt m, lst Pt m)) (by rfl) rfl (news_rc (heap_alloc_new w' _)) (flat_one (fst Pt m, lst Pt m) ▸ flat_cells [_]) (by omega) (by unfold maxLen; omega) (by omega) (by simp; omega) _ rfl ?_; intro g3 cap3 w3 hown3 hgrow3 hat3 hlt3)
                    have hk3 := app_keeps (nq := 0) HO2.out.1 hms2 hgrow3
                    refine ⟨⟨m + 1, O ++ [(fst Pt m, lst Pt m)], _, by omega, by rw [List.length_append, hnO]; simp; omega, rfl, by go_num, ?_, ?_, ?_, HO2.out.2.trans hk3⟩, by simp [intOf]; omega⟩
                    · rw [List.length_append, hnO, flat_append, flat_one]; exact hown3
                    · rw [← mfold_app (fun i hi => by have := HO.out.2.2; have e : i = j := by { omega }; rw [e]; exact he)]; exact HF.out.1
                    · intro r hr; rcases List.mem_append.1 hr with hr | hr; exact HF.out.2.1 r hr; rw [List.mem_singleton.1 hr]; exact HF.out.2.2
              · obtain rfl : m = N := by omega
                have hlI : ¬ (m : Int) < (m : Int) := by omega
                have hend : O = mrg Pt := by rw [List.drop_eq_nil_of_le (by omega)] at hfold; rw [← hfold]; cases O <;> rfl
                have HE : Hid (wr.ownsRow w.heap.size 31 4 (.slice po nO co) (mrg Pt).length (flat (mrg Pt)) ∧ Below w.heap.size w wr) := by
                  refine ⟨?_, HBX.out.trans (hB.mono HBX.out.size)⟩
                  rw [← hend, hnO]
                  exact own_base hown HBX.out.size
                clear hown hB hix2 hcs2 hOb hpo hfold hend
                go_wp2
                exact bodyPost_ret (results_tmp2 rfl _ _ _) rfl ⟨_, rfl, HE.out.1, HE.out.2⟩
          | false =>
            obtain ⟨N, hN⟩ : ∃ N, Pt.length = N := ⟨_, rfl⟩
            have hNb : N ≤ 65001 := by omega
            have hP : Hid (Pt = ptsK x L q ++ [(x, x)]) := by rw [hPt, hpe, if_neg (by rw [hpl]; simp)]; exact rfl
            clear hPt hpe
            have hls : w.heap.size + 1 ≤ wr.heap.size := World.block_lt_of_cell? _ _ c0
            have hpl2 : (ptsK x L q).length ≤ 65001 := by rw [ptsK, if_neg (by rw [hpl]; simp), List.length_take]; omega
            have HO : Hid (wr.ownsRow (w.heap.size + 1) 31 4 u7 (ptsK x L q).length (flat (ptsK x L q)) ∧ Below w.heap.size w wr) := ⟨hown, hB⟩
            clear hown hB
            go_wp2_with (at_builtin; refine wpList_append_lies _ (by rfl) (.tmp 63) (.tmp 67) 25 (by rfl) (w.heap.size + 1) 31 i3 _ 4 32 Yba.underlying25 hi hz0 hz1 hz2 rfl (by decide) u7 (ptsK x L q).length (flat (ptsK x L q)) (by rfl) (HO.out.1.alloc _) ⟨wr.heap.size, 0, none⟩ 1 1 (rc (x, x)) (by rfl) rfl (news_rc (heap_alloc_new wr _)) (flat_one (x, x) ▸ flat_cells [_]) (by omega) (by unfold maxLen; omega) (by omega) (by simp; omega) _ rfl ?_; intro g1 cap1 w1 hown1 hgrow hat1 hlt1; have hk1 := app_keeps (nq := 0) HO.out.1 hls hgrow; have hownP : w1.ownsRow (w.heap.size + 1) 31 4 (.slice (some ⟨g1, 0, none⟩) ((ptsK x L q).length + 1) cap1) Pt.length (flat Pt) := by { rw [hP.out, List.length_append, flat_append, flat_one]; exact hown1 }; have hBX : Below w.heap.size w w1 := HO.out.2.trans (hk1.mono (by omega)); clear hown1 hk1 hgrow HO; rw [hN] at hownP; obtain ⟨gP, pP, cP, hvP, hixP, hcP⟩ := row_view hownP hN; rw [hvP]; clear hvP; have HXP : Hid (∀ (k : Nat), k < N → ∀ W, (Instr.indexAt 25 (.slice pP N cP) (.int .i64 k)).run Yba.prog W = .ok (.pointer (some ⟨gP, k * 4, none⟩)) W) := hixP; have HCP : Hid (∀ k, k < N → w1.cell? ⟨gP, k * 4, none⟩ = some (.int .u64 0) ∧ w1.cell? ⟨gP, k * 4 + 1, none⟩ = some (.int .u64 (fst Pt k : Int)) ∧ w1.cell? ⟨gP, k * 4 + 2, none⟩ = some (.int .u64 0) ∧ w1.cell? ⟨gP, k * 4 + 3, none⟩ = some (.int .u64 (lst Pt k : Int))) := hcP; have HBX : Hid (Below w.heap.size w w1) := hBX; obtain ⟨wm, hmk, hmo, hmg⟩ := run_makeSlice_owned (P := Yba.prog) w1 w1.heap.size 25 31 i3 _ 4 Yba.underlying25 hi hz0 hz1 .i64 .i64 N (by omega) (by rw [hz2]; omega) (by unfold maxLen; omega) (Nat.le_refl _); have hBm : Below w1.heap.size w1 wm := ⟨hmg.os, hmg.tape, hmg.output, hmg.size, fun b hb => hmg.block b hb (by simp)⟩; have HMM : Hid (wm.ownsRow w1.heap.size 31 4 (.slice (some ⟨w1.heap.size, 0, none⟩) 0 N) 0 [] ∧ Below w1.heap.size w1 wm) := ⟨hmo, hBm⟩; clear hmo hmg hBm hBX hixP hcP hownP; try clear c0; try clear c1; try clear hP; try clear hpl)
            skip
            try clear hmk
            go_loopw [10, 11, 12] (fun o i _ wz => ∃ (m : Nat) (O : List (Nat × Nat)) (vo : Value), m ≤ N ∧ O.length ≤ m ∧ o = vo ∧ i = .int .i64 m ∧ wz.ownsRow w1.heap.size 31 4 vo O.length (flat O) ∧ mfold O (Pt.drop m) = mrg Pt ∧ (∀ r ∈ O, r.2 + 1 < 18446744073709551616) ∧ Below w1.heap.size w1 wz) (fun _ i _ _ => N - (intOf i).toNat)
            case atStart => exact ⟨0, [], _, Nat.zero_le _, Nat.le_refl _, rfl, rfl, HMM.out.1, mfold_nil Pt, by simp, HMM.out.2⟩
            case round =>
              clear HMM
              obtain ⟨m, O, vo, hm, hOm, rfl, rfl, hown, hfold, hOb, hB⟩ := hrel
              obtain ⟨nO, hnO⟩ : ∃ nO, O.length = nO := ⟨_, rfl⟩
              rw [hnO] at hown hOm
              obtain ⟨g2, po, co, hvo, hpo, hix2, hcs2⟩ := row_view2 hown hnO
              subst hvo
              by_cases hlt : m < N
              · have hxk := HXP.out m hlt
                obtain ⟨a0, a1, a2, a3⟩ := HCP.out m hlt
                have z0 := cell_below a0 hB
                have z1 := cell_below a1 hB
                have z2 := cell_below a2 hB
                have z3 := cell_below a3 hB
                have hlI : (m : Int) < (N : Int) := by omega
                have hdr := drop_at' (L := Pt) (m := m) (by omega)
                have hms : w1.heap.size ≤ wr.heap.size := hB.size
                have lgP : gP < w1.heap.size := by have := World.block_lt_of_cell? _ _ a0; simpa using this
                have hPm : lst Pt m + 1 < 18446744073709551616 := HBD.out (fst Pt m, lst Pt m) (List.mem_of_getElem? (getD_at (by omega)))
                have HF : Hid (mfold O ((fst Pt m, lst Pt m) :: Pt.drop (m + 1)) = mrg Pt ∧ (∀ r ∈ O, r.2 + 1 < 18446744073709551616) ∧ lst Pt m + 1 < 18446744073709551616) := ⟨by rw [← hdr]; exact hfold, hOb, hPm⟩
                clear a0 a1 a2 a3 hfold hdr hPm
                by_cases hz : nO = 0
                · have hO : O = [] := List.length_eq_zero_iff.1 (by omega)
                  have hq1 : ¬ (0 : Int) < (nO : Int) := by omega
                  have hq2 : ¬ 0 < nO := by omega
                  have hq3 : decide ((0 : Int) < (nO : Int)) = false := decide_eq_false hq1
                  have HO : Hid (wr.ownsRow w1.heap.size 31 4 (.slice po nO co) nO (flat O) ∧ Below w1.heap.size w1 wr ∧ nO = 0) := ⟨hown, hB, hz⟩
                  clear hown hB hz hix2 hcs2 hOb hpo
                  go_wp2
                  go_quiet (fail)
                  have hD0 : (wr.drewN nq).ownsRow w1.heap.size 31 4 (.slice po nO co) nO (flat O) := HO.out.1
                  have HD0 : Hid ((wr.drewN nq).ownsRow w1.heap.size 31 4 (.slice po nO co) nO (flat O)) := hD0
                  clear hD0
                  go_wp2_with (at_builtin; refine wpList_append_lies _ (by rfl) (.tmp 107) (.tmp 112) 25 (by rfl) w1.heap.size 31 i3 _ 4 32 Yba.underlying25 hi hz0 hz1 hz2 rfl (by decide) (.slice po nO co) nO (flat O) (by rfl) (HD0.out.alloc _) ⟨wr.heap.size, 0, none⟩ 1 1 (rc (fst Pt m, lst Pt m)) (by rfl) rfl (news_rc (heap_alloc_new (wr.drewN nq) _)) (flat_one (fst Pt m, lst Pt m) ▸ flat_cells [_]) (by omega) (by unfold maxLen; omega) (by omega) (by simp; omega) _ rfl ?_; intro g3 cap3 w3 hown3 hgrow3 hat3 hlt3)
                  have hk3 := app_keeps HO.out.1 hms hgrow3
                  refine ⟨⟨m + 1, O ++ [(fst Pt m, lst Pt m)], _, by omega, by rw [List.length_append, hnO]; simp; omega, rfl, by go_num, ?_, ?_, ?_, HO.out.2.1.trans hk3⟩, by simp [intOf]; omega⟩
                  · rw [List.length_append, hnO, flat_append, flat_one]; exact hown3
                  · rw [← mfold_app (fun j hj => by have := HO.out.2.2; omega)]; exact HF.out.1
                  · intro r hr; rcases List.mem_append.1 hr with hr | hr; exact HF.out.2.1 r hr; rw [List.mem_singleton.1 hr]; exact HF.out.2.2
                · obtain ⟨j, hj⟩ : ∃ j, nO = j + 1 := ⟨nO - 1, by omega⟩
                  obtain rfl := hpo (by omega)
                  have hxo := hix2 j (by omega)
                  obtain ⟨b0, b1, b2, b3⟩ := hcs2 j (by omega)
                  have hq1 : (0 : Int) < (nO : Int) := by omega
                  have hq2 : 0 < nO := by omega
                  have hq3 : decide ((0 : Int) < (nO : Int)) = true := decide_eq_true hq1
                  have hwj : IntKind.i64.wrap ((nO : Int) - 1) = (j : Int) := by rw [IntKind.wrap_i64]; omega
                  have H19 := binc_nat (lst O j) (hOb (fst O j, lst O j) (List.mem_of_getElem? (getD_at (by omega))))
                  have hS : ∀ W, Below wr.heap.size wr W → W.cell? ⟨g2, j * 4 + 2, none⟩ = some (.int .u64 0) ∧ W.cell? ⟨g2, j * 4 + 2 + 1, none⟩ = some (.int .u64 (lst O j : Int)) ∧ W.cell? ⟨gP, m * 4, none⟩ = some (.int .u64 0) ∧ W.cell? ⟨gP, m * 4 + 1, none⟩ = some (.int .u64 (fst Pt m : Int)) ∧ Below wr.heap.size wr W := fun W hb => ⟨cell_below b2 hb, cell_below b3 hb, cell_below z0 hb, cell_below z1 hb, hb⟩
                  have HO : Hid (wr.ownsRow w1.heap.size 31 4 (.slice (some ⟨g2, 0, none⟩) nO co) nO (flat O) ∧ Below w1.heap.size w1 wr ∧ nO = j + 1) := ⟨hown, hB, hj⟩
                  clear hown hB hz hix2 hcs2 hOb hpo hj
                  by_cases he : lst O j + 1 = fst Pt m
                  · have hE : (lst O j : Int) + 1 = (fst Pt m : Int) := by omega
                    go_wp2
                    go_region_held3 (fun W => W.cell? ⟨g2, j * 4 + 2, none⟩ = some (.int .u64 0) ∧ W.cell? ⟨g2, j * 4 + 2 + 1, none⟩ = some (.int .u64 (lst O j : Int)) ∧ W.cell? ⟨gP, m * 4, none⟩ = some (.int .u64 0) ∧ W.cell? ⟨gP, m * 4 + 1, none⟩ = some (.int .u64 (fst Pt m : Int)) ∧ Below wr.heap.size wr W)
                      (first | exact hS _ (Below.refl _ _).drew | exact hS _ (((Below.refl _ _).drew).trans hB'))
                      (first | (go_at_call 19; refine (H19 _).mono ?_; rintro e w' ⟨rfl, hB'⟩))
                    rename_i hHeld
                    obtain ⟨x2, x3, -, -, e2⟩ := id hHeld
                    clear hHeld hB' hS
                    have y0 := cell_below z0 e2
                    have y1 := cell_below z1 e2
                    have y2 := cell_below z2 e2
                    have y3 := cell_below z3 e2
                    have hO2 : w'.ownsRow w1.heap.size 31 4 (.slice (some ⟨g2, 0, none⟩) nO co) nO (flat O) := HO.out.1.kept ⟨e2.os, e2.tape, e2.output, e2.size, fun k hk _ => e2.block k hk⟩ (row := none) (by simp [Value.ownBlock])
                    have hms2 : w1.heap.size ≤ w'.heap.size := Nat.le_trans hms e2.size
                    have hfz := own_frozen hO2
                    have HO2 : Hid (w'.ownsRow w1.heap.size 31 4 (.slice (some ⟨g2, 0, none⟩) nO co) nO (flat O) ∧ Below w1.heap.size w1 w') := ⟨hO2, HO.out.2.1.trans (e2.mono hms)⟩
                    have lg2 : w1.heap.size ≤ g2 := (hO2.lt g2 rfl).1
                    have lgn : ¬ g2 = gP := by omega
                    clear hO2 e2
                    go_wp2
                    have hjn := HO.out.2.2
                    obtain ⟨q1, q2⟩ := own_last hnO HO2.out.1 (j := j) (by omega) (lst Pt m)
                    refine ⟨⟨m + 1, O.set j (fst O j, lst Pt m), _, by omega, by rw [List.length_set]; omega, rfl, by go_num, ?_, ?_, ?_, HO2.out.2.grown q2 hms2 (fun r hr => by cases hr; exact lg2)⟩, by simp [intOf]; omega⟩
                    · rw [List.length_set, hnO]; exact q1
                    · rw [← mfold_join (p := (fst Pt m, lst Pt m)) (by omega) he]; exact HF.out.1
                    · intro r hr
                      rcases List.mem_or_eq_of_mem_set hr with hr | hr
                      · exact HF.out.2.1 r hr
                      · rw [hr]; exact HF.out.2.2
                  · have hE : ((lst O j : Int) + 1 == (fst Pt m : Int)) = false := by simp; omega
                    have hE2 : ¬ (lst O j : Int) + 1 = (fst Pt m : Int) := by omega
                    go_wp2
                    go_region_held3 (fun W => W.cell? ⟨g2, j * 4 + 2, none⟩ = some (.int .u64 0) ∧ W.cell? ⟨g2, j * 4 + 2 + 1, none⟩ = some (.int .u64 (lst O j : Int)) ∧ W.cell? ⟨gP, m * 4, none⟩ = some (.int .u64 0) ∧ W.cell? ⟨gP, m * 4 + 1, none⟩ = some (.int .u64 (fst Pt m : Int)) ∧ Below wr.heap.size wr W)
                      (first | exact hS _ (Below.refl _ _).drew | exact hS _ (((Below.refl _ _).drew).trans hB'))
                      (first | (go_at_call 19; refine (H19 _).mono ?_; rintro e w' ⟨rfl, hB'⟩))
                    rename_i hHeld
                    obtain ⟨x2, x3, -, -, e2⟩ := id hHeld
                    clear hHeld hB' hS
                    have y0 := cell_below z0 e2
                    have y1 := cell_below z1 e2
                    have y2 := cell_below z2 e2
                    have y3 := cell_below z3 e2
                    have hO2 : w'.ownsRow w1.heap.size 31 4 (.slice (some ⟨g2, 0, none⟩) nO co) nO (flat O) := HO.out.1.kept ⟨e2.os, e2.tape, e2.output, e2.size, fun k hk _ => e2.block k hk⟩ (row := none) (by simp [Value.ownBlock])
                    have hms2 : w1.heap.size ≤ w'.heap.size := Nat.le_trans hms e2.size
                    have hfz := own_frozen hO2
                    have HO2 : Hid (w'.ownsRow w1.heap.size 31 4 (.slice (some ⟨g2, 0, none⟩) nO co) nO (flat O) ∧ Below w1.heap.size w1 w') := ⟨hO2, HO.out.2.1.trans (e2.mono hms)⟩
                    have lg2 : w1.heap.size ≤ g2 := (hO2.lt g2 rfl).1
                    clear hO2 e2
                    go_wp2_with (at_builtin; refine wpList_append_lies _ (by rfl) (.tmp 107) (.tmp 112) 25 (by rfl) w1.heap.size 31 i3 _ 4 32 Yba.underlying25 hi hz0 hz1 hz2 rfl (by decide) (.slice (some ⟨g2, 0, none⟩) nO co) nO (flat O) (by rfl) (HO2.out.1.alloc _) ⟨w'.heap.size, 0, none⟩ 1 1 (rc (fst Pt m, lst Pt m)) (by rfl) rfl (news_rc (heap_alloc_new w' _)) (flat_one (fst Pt m, lst Pt m) ▸ flat_cells [_]) (by omega) (by unfold maxLen; omega) (by omega) (by simp; omega) _ rfl ?_; intro g3 cap3 w3 hown3 hgrow3 hat3 hlt3)
                    have hk3 := app_keeps (nq := 0) HO2.out.1 hms2 hgrow3
                    refine ⟨⟨m + 1, O ++ [(fst Pt m, lst Pt m)], _, by omega, by rw [List.length_append, hnO]; simp; omega, rfl, by go_num, ?_, ?_, ?_, HO2.out.2.trans hk3⟩, by simp [intOf]; omega⟩
                    · rw [List.length_append, hnO, flat_append, flat_one]; exact hown3
                    · rw [← mfold_app (fun i hi => by have := HO.out.2.2; have e : i = j := by { omega }; rw [e]; exact he)]; exact HF.out.1
                    · intro r hr; rcases List.mem_append.1 hr with hr | hr; exact HF.out.2.1 r hr; rw [List.mem_singleton.1 hr]; exact HF.out.2.2
              · obtain rfl : m = N := by omega
                have hlI : ¬ (m : Int) < (m : Int) := by omega
                have hend : O = mrg Pt := by rw [List.drop_eq_nil_of_le (by omega)] at hfold; rw [← hfold]; cases O <;> rfl
                have HE : Hid (wr.ownsRow w.heap.size 31 4 (.slice po nO co) (mrg Pt).length (flat (mrg Pt)) ∧ Below w.heap.size w wr) := by
                  refine ⟨?_, HBX.out.trans (hB.mono HBX.out.size)⟩
                  rw [← hend, hnO]
                  exact own_base hown HBX.out.size
                clear hown hB hix2 hcs2 hOb hpo hfold hend
                go_wp2
                exact bodyPost_ret (results_tmp2 rfl _ _ _) rfl ⟨_, rfl, HE.out.1, HE.out.2⟩

end Go.Proofs.Ybulkdlic
