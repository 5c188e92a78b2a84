/-
  DERIVED. apportion.LawS5614AFresh: THE WALK.
-/
import Derived.Test.YbulkdlfyFmtLedger
namespace Go.Proofs.YbulkdlfyFmt
open Go.RowKit Go.Extern.Stop Go.Stop Go.Extern Go.Maps

theorem info30 : (Ybaf.prog.info? 30).map (fun i => (i.zero, i.size, i.bytes)) = some (some (.agg #[.string ⟨#[]⟩, .string ⟨#[]⟩]), 2, 32) := by kernel_rfl

theorem make46 (len : Nat) (hl : len ≤ 1048576) (w : World) :
    (Instr.makeSlice 46 (.int .i64 (len : Int)) (.int .i64 (len : Int))).run Ybaf.prog w = .ok (.slice (some ⟨w.heap.size, 0, none⟩) len len) (w.alloc (.cells (madeCells #[.string ⟨#[]⟩, .string ⟨#[]⟩] (len * 2)) 30)) := by
  obtain ⟨i, hi, hz, hs, hb⟩ := info_parts info30
  have h := run_make (P := Ybaf.prog) w 46 30 i _ Ybaf.underlying46 hi hz .i64 .i64 len len (by omega) (Int.le_refl _) (by rw [hb]; omega) (by omega)
  rw [hs] at h
  simpa [Value.cells] using h

/-- What the law's first loop has laid after k rounds. -/
structure BInv (w : World) (S : Nat → ByteArray) (len k : Nat) (wr : World) : Prop where
  row : wr.rowIs w.heap.size 30 (len * 2) (fun c => if c % 2 = 0 ∧ c / 2 < k then .string (S (c / 2)) else .string ⟨#[]⟩)
  below : Below w.heap.size w wr

theorem b_start (w : World) (S : Nat → ByteArray) (len : Nat) : BInv w S len 0 (w.alloc (.cells (madeCells #[.string ⟨#[]⟩, .string ⟨#[]⟩] (len * 2)) 30)) := by
  refine ⟨⟨_, heap_alloc_new w _, size_madeCells _ _, fun c hc => ?_⟩, (Below.refl _ _).alloc (Nat.le_refl _) _⟩
  have : c % 2 = 0 ∨ c % 2 = 1 := by omega
  rcases this with h | h <;> simp [madeCells, hc, h]

theorem b_step {w : World} {S : Nat → ByteArray} {len k : Nat} {wr : World} (h : BInv w S len k wr) :
    BInv w S len (k + 1) ((wr.setCell ⟨w.heap.size, k * 2, none⟩ (.string (S k))).setCell ⟨w.heap.size, k * 2 + 1, none⟩ (.string ⟨#[]⟩)) := by
  refine ⟨((h.row.set (k * 2) _).set (k * 2 + 1) _).congr fun c hc => ?_, (h.below.setCell (p := ⟨w.heap.size, k * 2, none⟩) (Nat.le_refl _) _).setCell (p := ⟨w.heap.size, k * 2 + 1, none⟩) (Nat.le_refl _) _⟩
  by_cases e1 : c = k * 2 + 1
  · subst e1
    rw [if_pos rfl, if_neg (by omega)]
  · rw [if_neg e1]
    by_cases e2 : c = k * 2
    · subst e2
      rw [if_pos rfl, if_pos (by omega)]
      congr 2
      omega
    · rw [if_neg e2]
      by_cases e3 : c % 2 = 0 ∧ c / 2 < k
      · rw [if_pos e3, if_pos (by omega)]
      · rw [if_neg e3, if_neg (by omega)]


theorem eql27 (w : World) (a : Addr) : (binOp .eql 27 (.pointer (some a)) (.pointer (some a))).run Ybaf.prog w = .ok (.bool true) w := by
  have h : (Ybaf.prog.info? 35).isSome = true := by kernel_rfl
  obtain ⟨j, hj⟩ := Option.isSome_iff_exists.1 h
  exact run_eql_ptr_same w a Ybaf.underlying27 hj

theorem elem25 : Ybaf.prog.elem 25 = 27 := by kernel_rfl
theorem size27 (W : World) : (sizeOf 27).run Ybaf.prog W = .ok 1 W := by kernel_rfl

/-- Of the program that the law hands to NewLedger. -/
abbrev progBlock (B len : Nat) : Obj := .cells #[.string ⟨#[]⟩, .int .i64 0, .int .i64 0, .int .i64 0, .int .i64 0, .slice (some ⟨B, 0, none⟩) len len] 49

theorem b_reads {w : World} {S : Nat → ByteArray} {len : Nat} {wr : World} (h : BInv w S len len wr) : ∀ j, j < len →
    (wr.alloc (progBlock w.heap.size len)).cell? ⟨w.heap.size, j * 2, none⟩ = some (.string (S j)) ∧ (wr.alloc (progBlock w.heap.size len)).cell? ⟨w.heap.size, j * 2 + 1, none⟩ = some (.string ⟨#[]⟩) := by
  intro j hj
  have r := h.row.alloc (progBlock w.heap.size len)
  constructor
  · rw [r.cell (by omega), if_pos (by omega)]
    congr 3
    omega
  · rw [r.cell (by omega), if_neg (by omega)]

theorem newLedger_at (M g B len : Nat) (S : Nat → ByteArray) (w : World) (hM : M = w.heap.size) (hl : len ≤ 1048576) (hS : ∀ j, (S j).size ≤ maxLen) (hgl : g < w.heap.size) (hBl : B < w.heap.size)
    (hcp : w.cell? ⟨g, 5, none⟩ = some (.slice (some ⟨B, 0, none⟩) len len))
    (hbs : ∀ j, j < len → w.cell? ⟨B, j * 2, none⟩ = some (.string (S j)) ∧ w.cell? ⟨B, j * 2 + 1, none⟩ = some (.string ⟨#[]⟩)) :
    Calls Ybaf.prog 8 #[.pointer (some ⟨g, 0, none⟩)] w fun e w' => e = .returned (.pointer (some ⟨M + 2, 0, none⟩)) ∧ ∃ Pt v, LInv w g S len Pt v w' := by
  subst hM
  exact newLedger_any g B len S w hl hS hgl hBl hcp hbs

/-- WHAT THE LAW WANTS OF THE LEDGER THAT NewLedger HAS MADE. -/
theorem behind_ledger {w w1 w2 : World} {M g : Nat} {S : Nat → ByteArray} {len : Nat} {Pt : Nat → Nat} {v : Value} (hM : M = w1.heap.size) (hw : Below w.heap.size w w1) (hinv : LInv w1 g S len Pt v w2) :
    M + 2 < w2.heap.size ∧ Below w.heap.size w w2 ∧ w2.cell? ⟨M + 2, 1, none⟩ = some v ∧ w2.cell? ⟨M + 2, 2, none⟩ = some (.map (some M)) ∧ w2.ownsMap Ybaf.prog 9 ptrElem M len (mkUpTo S (fun j => some ⟨Pt j, 0, none⟩) len) ∧
      ∃ ao cap, v = .slice ao len cap ∧ ∀ m, m < len → w2.cell? ⟨Pt m, 0, none⟩ = some (.string (S m)) ∧ ∃ gv, (∀ W, (Instr.indexAt 25 (.slice ao len cap) (.int .i64 m)).run Ybaf.prog W = .ok (.pointer (some ⟨gv, m, none⟩)) W) ∧ w2.cell? ⟨gv, m, none⟩ = some (.pointer (some ⟨Pt m, 0, none⟩)) := by
  subst hM
  refine ⟨lt_of_block hinv.led, hw.trans (hinv.below.mono hw.size), by simp [World.cell?, hinv.led], by simp [World.cell?, hinv.led], hinv.map, ?_⟩
  have hac : ∀ m, m < len → w2.cell? ⟨Pt m, 0, none⟩ = some (.string (S m)) := fun m hm => by
    obtain ⟨_, cs, h2, h3⟩ := hinv.accts m hm
    simp [World.cell?, h2, h3]
  rcases Joins.ownsRow_forms hinv.own with ⟨rfl, rfl⟩ | ⟨gv, cap, rfl⟩
  · exact ⟨none, 0, rfl, fun m hm => by omega⟩
  · refine ⟨some ⟨gv, 0, none⟩, cap, rfl, fun m hm => ⟨hac m hm, gv, fun W => ?_, ?_⟩⟩
    · rw [run_indexAt_slice W 25 _ len cap .i64 m (by rw [elem25]; exact Ybaf.underlying25), if_pos (by omega), elem25, size27]
      simp [Result.andThen, Addr.add]
      omega
    · rw [hinv.own.cellAt m (by omega)]
      simp [hm]

set_option maxRecDepth 100000 in
set_option maxHeartbeats 800000 in
theorem fresh_any (F : Interp) (ao : Option Addr) (len cap : Nat) (S : Nat → ByteArray) (pk : Int) (other : ByteArray) (u : Bool) (w : World)
    (hF : F.answers w.tape) (hl : len ≤ 1048576) (hS : ∀ j, (S j).size ≤ maxLen) (ho : other.size ≤ maxLen) (hp0 : 0 ≤ pk) (hp1 : pk ≤ 255)
    (hc : ∀ j, j < len → Spot 22 (.slice ao len cap) j w (.string (S j))) :
    Calls Ybaf.prog 4 #[.slice ao len cap, .int .u8 pk, .string other, .bool u] w fun e w' => e = .returned (.bool true) ∧ Below w.heap.size w w' := by
  have hpk : ∃ s : ByteArray, s.size ≤ maxLen ∧ Calls Ybaf.prog 6 #[.slice ao len cap, .int .u8 pk, .string other, .bool u] w fun e w' => e = .returned (.string s) ∧ w' = w := by
    by_cases h : u = true ∨ len = 0
    · exact ⟨_, ho, pick_other len _ cap pk other u w h⟩
    · have hu : u = false := by cases u <;> simp_all
      subst hu
      exact ⟨_, hS _, pick_id ao len cap S pk other w (by omega) hl hp0 hp1 hc⟩
  obtain ⟨s, hs, hpick⟩ := hpk
  have HP : Hid (Calls Ybaf.prog 6 #[.slice ao len cap, .int .u8 pk, .string other, .bool u] w fun e w' => e = .returned (.string s) ∧ w' = w) := hpick
  clear hpick
  have hmk := make46 len hl
  have hbig : ¬ ((1048576 : Int) < (len : Int)) := by omega
  have HC : Hid (∀ j, j < len → Spot 22 (.slice ao len cap) j w (.string (S j))) := hc
  have HS : Hid (∀ j, (S j).size ≤ maxLen) := hS
  clear hc hS
  go_enter Ybaf.func4, Ybaf.ntmps4
  go_wp2_with fail
  refine HP.out.mono ?_
  clear HP
  rintro e w1 ⟨rfl, hw⟩
  have hw := hw.symm
  subst hw
  go_wp2_with fail
  clear hmk
  go_loopw [11] (fun i wr => ∃ (k : Nat), k ≤ len ∧ i = .int .i64 k ∧ BInv w S len k wr) (fun i _ => len - (intOf i).toNat)
  case atStart => exact ⟨0, Nat.zero_le _, rfl, b_start w S len⟩
  case round =>
    obtain ⟨k, hk, rfl, hinv⟩ := hrel
    by_cases hlt : k < len
    · obtain ⟨b, o, hb, hix, hcK⟩ := (HC.out k hlt).later hinv.below
      have hne : ¬ b = w.heap.size := by omega
      obtain ⟨x0, hr0⟩ : ∃ x, wr.cell? ⟨w.heap.size, k * 2, none⟩ = some x := ⟨_, hinv.row.cell (by omega)⟩
      obtain ⟨x1, hr1⟩ : ∃ x, wr.cell? ⟨w.heap.size, k * 2 + 1, none⟩ = some x := ⟨_, hinv.row.cell (by omega)⟩
      have hf0 : wr.frozen? ⟨w.heap.size, k * 2, none⟩ = false := hinv.row.frozen _
      have hf1 : wr.frozen? ⟨w.heap.size, k * 2 + 1, none⟩ = false := hinv.row.frozen _
      have HI' : Hid (BInv w S len (k + 1) ((wr.setCell ⟨w.heap.size, k * 2, none⟩ (.string (S k))).setCell ⟨w.heap.size, k * 2 + 1, none⟩ (.string ⟨#[]⟩))) := b_step hinv
      clear hinv
      go_wp2
      go_roundw
      case rel => exact ⟨k + 1, by omega, by go_num, HI'.out⟩
      case measure => simp [intOf]; omega
    · obtain rfl : len = k := by omega
      have HR : Hid (∀ j, j < len → (wr.alloc (progBlock w.heap.size len)).cell? ⟨w.heap.size, j * 2, none⟩ = some (.string (S j)) ∧ (wr.alloc (progBlock w.heap.size len)).cell? ⟨w.heap.size, j * 2 + 1, none⟩ = some (.string ⟨#[]⟩)) := b_reads hinv
      have hwr : w.heap.size < wr.heap.size := hinv.row.lt
      have HW : Hid (Below w.heap.size w (wr.alloc (progBlock w.heap.size len))) := hinv.below.alloc hinv.below.size _
      have HF : Hid (F.answers w.tape) := hF
      clear hinv hF
      go_wp2_with fail
      obtain ⟨M, hM⟩ : ∃ M, M = wr.heap.size + 1 := ⟨_, rfl⟩
      have HM : Hid (M = wr.heap.size + 1) := hM
      clear hM
      refine (newLedger_at M wr.heap.size w.heap.size len S _ (by simpa using HM.out) hl HS.out (by simp) (by simp; omega) (by simp) (by exact HR.out)).mono ?_
      rintro e w2 ⟨rfl, Pt, v, hinv⟩
      obtain ⟨hL, hB, hc1, hc2, hmp, aov, capv, rfl, hac⟩ := behind_ledger (by simpa using HM.out) HW.out hinv
      have HA : Hid (∀ m, m < len → w2.cell? ⟨Pt m, 0, none⟩ = some (.string (S m)) ∧ ∃ gv, (∀ W, (Instr.indexAt 25 (.slice aov len capv) (.int .i64 m)).run Ybaf.prog W = .ok (.pointer (some ⟨gv, m, none⟩)) W) ∧ w2.cell? ⟨gv, m, none⟩ = some (.pointer (some ⟨Pt m, 0, none⟩))) := hac
      have HMP : Hid (w2.ownsMap Ybaf.prog 9 ptrElem M len (mkUpTo S (fun j => some ⟨Pt j, 0, none⟩) len)) := hmp
      have HB : Hid (Below w.heap.size w w2) := hB
      clear hac hmp hinv HR hB
      go_wp2_with fail
      go_loop [13, 14] (fun q i => ∃ m : Nat, m ≤ len ∧ i = .int .i64 ((m : Int) - 1) ∧ q = .int .i64 (-1) ∧ Hid (lastUpTo S (fun j => some ⟨Pt j, 0, none⟩) s len = lastUpTo S (fun j => some ⟨Pt j, 0, none⟩) s m)) (fun _ i => (intOf i + 1).toNat)
      case atStart => exact ⟨len, Nat.le_refl _, rfl, rfl, rfl⟩
      case round =>
        obtain ⟨m, hm, rfl, rfl, HL⟩ := hrel
        by_cases hm0 : m = 0
        · subst hm0
          have HK : Hid ((mkUpTo S (fun j => some ⟨Pt j, 0, none⟩) len).atKey (.string s.data.toList) (.held none) = .held none) := by
            have h := mkUpTo_at S (fun j => some ⟨Pt j, 0, none⟩) s len
            rw [HL.out] at h
            exact h
          have HF2 : Hid (F.answers w2.tape) := by
            have h : F.answers w2.tape := by rw [HB.out.tape]; exact HF.out
            exact h
          go_wp2_with (go_at_call 7; refine (account_none F (M + 2) M len (mkUpTo S (fun j => some ⟨Pt j, 0, none⟩) len) s _ (by exact HF2.out) (by exact hc2) (by exact HMP.out) hs HK.out).mono ?_; rintro e w3 ⟨⟨x, rfl⟩, hb3⟩)
          go_ret
          exact ⟨rfl, HB.out.trans (hb3.mono HB.out.size)⟩
        · obtain ⟨m', rfl⟩ : ∃ m', m = m' + 1 := ⟨m - 1, by omega⟩
          obtain ⟨b, o, hb, hix, hcm⟩ := (HC.out m' (by omega)).later HB.out
          by_cases heq : (S m').data.toList = s.data.toList
          · have hte : ((S m').toList == s.toList) = true := by rw [ByteArray.toList_eq, ByteArray.toList_eq, heq]; simp
            have HK : Hid ((mkUpTo S (fun j => some ⟨Pt j, 0, none⟩) len).atKey (.string s.data.toList) (.held none) = .held (some ⟨Pt m', 0, none⟩)) := by
              have h := mkUpTo_at S (fun j => some ⟨Pt j, 0, none⟩) s len
              rw [HL.out, lastUpTo, if_pos heq] at h
              exact h
            obtain ⟨hac, gv, hixv, hcv⟩ := HA.out m' (by omega)
            have q27 := eql27
            clear heq
            go_wp2_with (go_at_call 7; refine (account_found (M + 2) M len (mkUpTo S (fun j => some ⟨Pt j, 0, none⟩) len) s _ _ (by exact hc2) (by exact HMP.out) hs HK.out).mono ?_; rintro e w3 ⟨rfl, rfl⟩)
            go_ret
            exact ⟨rfl, HB.out⟩
          · have hte : ((S m').toList == s.toList) = false := by rw [ByteArray.toList_eq, ByteArray.toList_eq]; simpa using heq
            have HL2 : Hid (lastUpTo S (fun j => some ⟨Pt j, 0, none⟩) s len = lastUpTo S (fun j => some ⟨Pt j, 0, none⟩) s m') := by
              have h := HL.out
              rw [lastUpTo, if_neg heq] at h
              exact h
            clear heq HL
            go_wp2
            go_round
            case rel => exact ⟨m', by omega, by go_num, rfl, HL2⟩
            case measure => simp [intOf]

/-- .. and beyond 2^20 ids it returns at once. -/
theorem fresh_big (ao : Option Addr) (len cap : Nat) (pk : Int) (other : ByteArray) (u : Bool) (w : World) (hl : 1048576 < len) (hm : len ≤ 9223372036854775807) :
    Calls Ybaf.prog 4 #[.slice ao len cap, .int .u8 pk, .string other, .bool u] w fun e w' => e = .returned (.bool true) ∧ Below w.heap.size w w' := by
  have hbig : (1048576 : Int) < (len : Int) := by omega
  go_enter Ybaf.func4, Ybaf.ntmps4
  go_wp2
  go_ret
  exact ⟨rfl, Below.refl _ _⟩

end Go.Proofs.YbulkdlfyFmt
