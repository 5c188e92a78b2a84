/-
  DERIVED. apportion.LawS5614AWhole: THE WALK: at every slice of ids of at most 2^20 elements, every slice of bools, every pick, other and useOther.
-/
import Derived.Test.YbulkdlfyFmtParts
import Derived.LaidEqlPtr
namespace Go.Proofs.YbulkdlfyFmt
open Go.RowKit Go.Extern.Stop Go.Stop Go.Extern Go.Maps

/-- THE ACCOUNT OF AN ID, as the law lays it. -/
theorem step_some {w : World} {S : Nat → ByteArray} {len k : Nat} {Pt : Nat → Option Addr} {wr : World} (hinv : Inv w S len k Pt wr) (hk : k < len) (hl : len ≤ 1048576) (hsz : (S k).size ≤ maxLen) :
    ∃ w2 Pt', (Instr.mapUpdate 26 (.map (some (w.heap.size + 1))) (.string (S k)) (.pointer (some ⟨wr.heap.size, 0, none⟩))).run Ybaf.prog ((wr.setCell ⟨w.heap.size, k, none⟩ (.pointer (some ⟨wr.heap.size, 0, none⟩))).alloc (.cells #[.string (S k), .string ⟨#[]⟩, .slice none 0 0, .map none, .slice none 0 0, .int .i64 0] 35)).drew = .ok () w2 ∧ Inv w S len (k + 1) Pt' w2 := by
  have hmlt := hinv.map.lt
  refine step hinv hk hl hsz (some ⟨wr.heap.size, 0, none⟩) _ ((hinv.row.set k _).alloc _) ((hinv.map.setCell (a := ⟨w.heap.size, k, none⟩) (by show w.heap.size + 1 ≠ w.heap.size; omega) _).alloc _)
    ((hinv.below.setCell (p := ⟨w.heap.size, k, none⟩) (Nat.le_refl _) _).alloc (by show w.heap.size ≤ (wr.setCell _ _).heap.size; rw [World.size_setCell]; omega) _) ?_ ?_
  · intro g h1 h2
    rw [Below.heap_alloc _ _ _ (by rw [World.size_setCell]; exact h2), Below.heap_setCell _ _ _ _ (by show g ≠ w.heap.size; omega)]
  · intro a ha
    cases ha
    have hat : ∀ (W : World) (n : Nat), n = W.heap.size → (W.alloc (.cells #[.string (S k), .string ⟨#[]⟩, .slice none 0 0, .map none, .slice none 0 0, .int .i64 0] 35)).cell? ⟨n, 0, none⟩ = some (.string (S k)) := by
      rintro W n rfl
      simp
    exact ⟨_, rfl, by omega, hat _ _ (World.size_setCell _ _ _).symm⟩

theorem step_none {w : World} {S : Nat → ByteArray} {len k : Nat} {Pt : Nat → Option Addr} {wr : World} (hinv : Inv w S len k Pt wr) (hk : k < len) (hl : len ≤ 1048576) (hsz : (S k).size ≤ maxLen) :
    ∃ w2 Pt', (Instr.mapUpdate 26 (.map (some (w.heap.size + 1))) (.string (S k)) (.pointer none)).run Ybaf.prog (wr.setCell ⟨w.heap.size, k, none⟩ (.pointer none)).drew = .ok () w2 ∧ Inv w S len (k + 1) Pt' w2 := by
  refine step hinv hk hl hsz none _ (hinv.row.set k _) (hinv.map.setCell (a := ⟨w.heap.size, k, none⟩) (by show w.heap.size + 1 ≠ w.heap.size; omega) _)
    (hinv.below.setCell (p := ⟨w.heap.size, k, none⟩) (Nat.le_refl _) _) ?_ ?_
  · intro g h1 h2
    rw [Below.heap_setCell _ _ _ _ (by show g ≠ w.heap.size; omega)]
  · intro a ha
    cases ha


theorem info35 : ∃ j, Ybaf.prog.info? 35 = some j := by
  have h : (Ybaf.prog.info? 35).isSome = true := by kernel_rfl
  exact Option.isSome_iff_exists.1 h
theorem eql_ptr (w : World) (a : Addr) : (binOp .eql 27 (.pointer (some a)) (.pointer (some a))).run Ybaf.prog w = .ok (.bool true) w := by
  obtain ⟨j, hj⟩ := info35
  exact run_eql_ptr_same w a Ybaf.underlying27 hj
theorem neq_ptr (w : World) (a : Addr) : (binOp .neq 27 (.pointer (some a)) (.pointer (some a))).run Ybaf.prog w = .ok (.bool false) w := by
  obtain ⟨j, hj⟩ := info35
  have h : ∀ d : Nat, (Op.equalIn (d + 1) 27 (.pointer (some a)) (.pointer (some a))).run Ybaf.prog w = .ok true w := fun d => by
    simp [Op.equalIn, run_underlying Ybaf.underlying27, sizeOf, typeInfo, hj, run_sameAddr_same]
  simp only [binOp]
  simp [Op.equal, Op.maxDepth, h 9999]

theorem ownsMap_block {w w' : World} {b n : Nat} {D : DataW (Option Addr)} (h : w.ownsMap Ybaf.prog 9 ptrElem b n D) (e : w'.heap[b]? = w.heap[b]?) : w'.ownsMap Ybaf.prog 9 ptrElem b n D := by
  obtain ⟨es, clock, hb, r⟩ := h
  exact ⟨es, clock, e.trans hb, r⟩

/-- WHAT IS LEFT OF ALL THAT WHEN account HAS RETURNED. -/
theorem behind {w : World} {S : Nat → ByteArray} {len : Nat} {Pt : Nat → Option Addr} {wr w3 : World} (hinv : Inv w S len len Pt wr)
    (h3 : Below (wr.heap.size + 1) (wr.alloc (.cells #[.pointer none, .slice none 0 0, .map (some (w.heap.size + 1)), .map none] 40)) w3) :
    w3.ownsMap Ybaf.prog 9 ptrElem (w.heap.size + 1) len (mkUpTo S Pt len) ∧ w3.cell? ⟨wr.heap.size, 0, none⟩ = some (.pointer none) ∧ w3.cell? ⟨wr.heap.size, 1, none⟩ = some (.slice none 0 0) ∧
      w3.cell? ⟨wr.heap.size, 2, none⟩ = some (.map (some (w.heap.size + 1))) ∧ w3.cell? ⟨wr.heap.size, 3, none⟩ = some (.map none) ∧ Below w.heap.size w w3 ∧
      ∀ j a, j < len → Pt j = some a → ∃ g, a = ⟨g, 0, none⟩ ∧ w3.cell? ⟨g, 0, none⟩ = some (.string (S j)) := by
  have hml := hinv.map.lt
  have hsz := hinv.below.size
  refine ⟨?_, ?_, ?_, ?_, ?_, ?_, ?_⟩
  · exact ownsMap_block (hinv.map.alloc _) (h3.block _ (by omega))
  · rw [h3.cell (p := ⟨wr.heap.size, 0, none⟩) (by simp)]; simp
  · rw [h3.cell (p := ⟨wr.heap.size, 1, none⟩) (by simp)]; simp
  · rw [h3.cell (p := ⟨wr.heap.size, 2, none⟩) (by simp)]; simp
  · rw [h3.cell (p := ⟨wr.heap.size, 3, none⟩) (by simp)]; simp
  · exact (hinv.below.alloc (by omega) _).trans (h3.mono (by omega))
  · intro j a hj ha
    obtain ⟨g, rfl, h1, h2⟩ := hinv.accts j a hj ha
    have hgl := lt_of_cell h2
    refine ⟨g, rfl, ?_⟩
    rw [h3.cell (p := ⟨g, 0, none⟩) (by show g < wr.heap.size + 1; simp at hgl; omega), World.cell?_of_block (w := wr) (Below.heap_alloc _ _ _ hgl)]
    exact h2

set_option maxRecDepth 100000 in
set_option maxHeartbeats 800000 in
theorem whole_any (F : Interp) (ao : Option Addr) (len cap : Nat) (S : Nat → ByteArray) (an : Option Addr) (ln cn : Nat) (N : Nat → Bool) (pk : Int) (other : ByteArray) (u : Bool) (w : World)
    (hF : F.answers w.tape) (hl : len ≤ 1048576) (hS : ∀ j, (S j).size ≤ maxLen) (ho : other.size ≤ maxLen) (hp0 : 0 ≤ pk) (hp1 : pk ≤ 255)
    (hc : ∀ j, j < len → Spot 22 (.slice ao len cap) j w (.string (S j))) (_hln : ln ≤ 9223372036854775807)
    (hn : ∀ j, j < ln → Spot 23 (.slice an ln cn) j w (.bool (N j))) :
    Calls Ybaf.prog 3 #[.slice ao len cap, .slice an ln cn, .int .u8 pk, .string other, .bool u] w fun e w' => e = .returned (.bool true) ∧ Below w.heap.size w w' := by
  have hpk : ∃ s : ByteArray, s.size ≤ maxLen ∧ Calls Ybaf.prog 6 #[.slice ao len cap, .int .u8 pk, .string other, .bool u] w fun e w' => e = .returned (.string s) ∧ w' = w := by
    by_cases h : u = true ∨ len = 0
    · exact ⟨_, ho, pick_other len _ cap pk other u w h⟩
    · have hu : u = false := by cases u <;> simp_all
      subst hu
      exact ⟨_, hS _, pick_id ao len cap S pk other w (by omega) hl hp0 hp1 hc⟩
  obtain ⟨s, hs, hpick⟩ := hpk
  have HP : Hid (Calls Ybaf.prog 6 #[.slice ao len cap, .int .u8 pk, .string other, .bool u] w fun e w' => e = .returned (.string s) ∧ w' = w) := hpick
  clear hpick
  have hmk := run_make_row' (P := Ybaf.prog) 25 27 (.pointer none) 8 Ybaf.underlying25 info27 rfl .i64 .i64 len (by omega) (by omega)
  have hbig : ¬ ((1048576 : Int) < (len : Int)) := by omega
  have hmm := make26
  have HN : Hid (∀ j, j < ln → Spot 23 (.slice an ln cn) j w (.bool (N j))) := hn
  have HC : Hid (∀ j, j < len → Spot 22 (.slice ao len cap) j w (.string (S j))) := hc
  have HS : Hid (∀ j, (S j).size ≤ maxLen) := hS
  clear hn hc hS
  go_enter Ybaf.func3, Ybaf.ntmps3
  go_wp2_with fail
  refine HP.out.mono ?_
  clear HP
  rintro e w1 ⟨rfl, hw⟩
  have hw := hw.symm
  subst hw
  go_wp2_with fail
  clear hmk hmm
  go_loopw [14] (fun i wr => ∃ (k : Nat) (Pt : Nat → Option Addr), k ≤ len ∧ i = .int .i64 k ∧ Inv w S len k Pt wr) (fun i _ => len - (intOf i).toNat)
  case atStart => exact ⟨0, _, Nat.zero_le _, rfl, start w S len⟩
  case round =>
    obtain ⟨k, Pt, hk, rfl, hinv⟩ := hrel
    by_cases hlt : k < len
    · obtain ⟨b, o, hb, hix, hcK⟩ := (HC.out k hlt).later hinv.below
      have hrc : wr.cell? ⟨w.heap.size, k, none⟩ = some (.pointer none) := by rw [hinv.row.cell hlt]; simp
      have hrf : wr.frozen? ⟨w.heap.size, k, none⟩ = false := hinv.row.frozen k
      have hsz : w.heap.size + 1 < wr.heap.size := hinv.map.lt
      have hsz0 : w.heap.size < wr.heap.size := by omega
      have hbr : b < wr.heap.size := by omega
      have hne : ¬ b = w.heap.size := by omega
      by_cases hkn : k < ln
      · obtain ⟨bn, on, hbn, hixn, hcn⟩ := (HN.out k hkn).later hinv.below
        cases hNk : N k with
        | false =>
          rw [hNk] at hcn
          clear hNk
          obtain ⟨w2, Pt', hrun, hinv'⟩ := step_some hinv hlt hl (HS.out k)
          have HI' : Hid (Inv w S len (k + 1) Pt' w2) := hinv'
          clear hinv hinv'
          go_wp2
          go_region
          all_goals go_wp2
          all_goals go_roundw
          case rel => exact ⟨k + 1, Pt', by omega, by go_num, HI'.out⟩
          case measure => simp [intOf]; omega
        | true =>
          rw [hNk] at hcn
          clear hNk
          obtain ⟨w2, Pt', hrun, hinv'⟩ := step_none hinv hlt hl (HS.out k)
          have HI' : Hid (Inv w S len (k + 1) Pt' w2) := hinv'
          clear hinv hinv'
          go_wp2
          go_region
          all_goals go_wp2
          all_goals go_roundw
          case rel => exact ⟨k + 1, Pt', by omega, by go_num, HI'.out⟩
          case measure => simp [intOf]; omega
      · obtain ⟨w2, Pt', hrun, hinv'⟩ := step_some hinv hlt hl (HS.out k)
        have HI' : Hid (Inv w S len (k + 1) Pt' w2) := hinv'
        clear hinv hinv'
        go_wp2
        go_region
        all_goals go_wp2
        all_goals go_roundw
        case rel => exact ⟨k + 1, Pt', by omega, by go_num, HI'.out⟩
        case measure => simp [intOf]; omega
    · obtain rfl : len = k := by omega
      have HI : Hid (Inv w S len len Pt wr) := hinv
      clear hinv
      have hF2 : F.answers (wr.alloc (.cells #[.pointer none, .slice none 0 0, .map (some (w.heap.size + 1)), .map none] 40)).tape := by
        show F.answers wr.tape
        rw [HI.out.below.tape]; exact hF
      have hm2 := HI.out.map.alloc (.cells #[.pointer none, .slice none 0 0, .map (some (w.heap.size + 1)), .map none] 40)
      have q26 : ∀ (w : World) (r : Option Nat), (binOp .eql 26 (.map r) (.map none)).run Ybaf.prog w = .ok (.bool r.isNone) w := fun w r => run_eql_map_nil w _ _ _ r Ybaf.underlying26
      have q38 : ∀ (w : World) (r : Option Nat), (binOp .neq 38 (.map r) (.map none)).run Ybaf.prog w = .ok (.bool (!r.isNone)) w := fun w r => run_neq_map_nil w _ _ _ r Ybaf.underlying38
      have q25 : ∀ (w : World) (a : Option Addr) (n c n' c' : Nat), (binOp .neq 25 (.slice a n c) (.slice none n' c')).run Ybaf.prog w = .ok (.bool (!a.isNone)) w := fun w a n c n' c' => run_neq_slice_nil_any w _ _ a n c n' c' Ybaf.underlying25
      have q27 := eql_ptr
      have q27' := neq_ptr
      have HF2 : Hid (F.answers (wr.alloc (.cells #[.pointer none, .slice none 0 0, .map (some (w.heap.size + 1)), .map none] 40)).tape) := hF2
      have HM2 : Hid ((wr.alloc (.cells #[.pointer none, .slice none 0 0, .map (some (w.heap.size + 1)), .map none] 40)).ownsMap Ybaf.prog 9 ptrElem (w.heap.size + 1) len (mkUpTo S Pt len)) := hm2
      clear hF2 hm2 hF
      go_wp2
      go_loop [15, 16] (fun q i => ∃ m : Nat, m ≤ len ∧ i = .int .i64 ((m : Int) - 1) ∧ q = .pointer none ∧ Hid (lastUpTo S Pt s len = lastUpTo S Pt s m)) (fun _ i => (intOf i + 1).toNat)
      case atStart => exact ⟨len, Nat.le_refl _, rfl, rfl, rfl⟩
      case round =>
        obtain ⟨m, hm, rfl, rfl, HL⟩ := hrel
        by_cases hm0 : m = 0
        · subst hm0
          have HA : Hid ((mkUpTo S Pt len).atKey (.string s.data.toList) (.held none) = .held none) := by
            have h := mkUpTo_at S Pt s len
            rw [HL.out] at h
            exact h
          go_wp2_with (first
            | (at_len; refine wpList_len_own _ rfl _ 26 rfl 9 27 Ybaf.underlying26 ptrElem (w.heap.size + 1) len (mkUpTo S Pt len) rfl (by first | exact HM2.out | assumption) ?_)
            | (go_at_call 7; refine (account_none F wr.heap.size (w.heap.size + 1) len (mkUpTo S Pt len) s _ (by exact HF2.out) (by simp) (by exact HM2.out) hs HA.out).mono ?_; rintro e w3 ⟨⟨x, rfl⟩, hb3⟩; obtain ⟨hm3, c0, c1, c2, c3, hB, -⟩ := behind HI.out (by simpa using hb3); have hlk3 := look_run hm3 s hs _ HA.out; clear hb3))
          go_ret
          exact ⟨rfl, by assumption⟩
        · obtain ⟨m', rfl⟩ : ∃ m', m = m' + 1 := ⟨m - 1, by omega⟩
          obtain ⟨b, o, hb, hix, hcm⟩ := (HC.out m' (by omega)).later HI.out.below
          by_cases heq : (S m').data.toList = s.data.toList
          · have hte : ((S m').toList == s.toList) = true := by rw [ByteArray.toList_eq, ByteArray.toList_eq, heq]; simp
            have HEQ : Hid ((S m').data.toList = s.data.toList) := heq
            have HA0 : (mkUpTo S Pt len).atKey (.string s.data.toList) (.held none) = .held (Pt m') := by
              have h := mkUpTo_at S Pt s len
              rw [HL.out, lastUpTo, if_pos heq] at h
              exact h
            have hra0 : wr.cell? ⟨w.heap.size, m', none⟩ = some (.pointer (Pt m')) := by rw [HI.out.row.cell (by omega)]; rw [if_pos (by omega)]
            clear heq
            cases hpt : Pt m' with
            | none =>
              rw [hpt] at HA0 hra0
              have HA : Hid ((mkUpTo S Pt len).atKey (.string s.data.toList) (.held none) = .held none) := HA0
              clear HA0 hpt
              go_wp2_with (first
                | (at_len; refine wpList_len_own _ rfl _ 26 rfl 9 27 Ybaf.underlying26 ptrElem (w.heap.size + 1) len (mkUpTo S Pt len) rfl (by first | exact HM2.out | assumption) ?_)
                | (go_at_call 7; refine (account_none F wr.heap.size (w.heap.size + 1) len (mkUpTo S Pt len) s _ (by exact HF2.out) (by simp) (by exact HM2.out) hs HA.out).mono ?_; rintro e w3 ⟨⟨x, rfl⟩, hb3⟩; obtain ⟨hm3, c0, c1, c2, c3, hB, -⟩ := behind HI.out (by simpa using hb3); have hlk3 := look_run hm3 s hs _ HA.out; clear hb3))
              go_ret
              exact ⟨rfl, by assumption⟩
            | some a =>
              rw [hpt] at HA0 hra0
              have HA : Hid ((mkUpTo S Pt len).atKey (.string s.data.toList) (.held none) = .held (some a)) := HA0
              clear HA0
              obtain ⟨hm3, c0, c1, c2, c3, hB, hac⟩ := behind HI.out (Below.refl _ _)
              obtain ⟨g, rfl, hcg⟩ := hac m' a (by omega) hpt
              have hlk3 := look_run hm3 s hs _ HA.out
              clear hpt hac
              go_wp2_with (first
                | (at_len; refine wpList_len_own _ rfl _ 26 rfl 9 27 Ybaf.underlying26 ptrElem (w.heap.size + 1) len (mkUpTo S Pt len) rfl (by first | exact HM2.out | assumption) ?_)
                | (go_at_call 7; refine (account_found wr.heap.size (w.heap.size + 1) len (mkUpTo S Pt len) s _ _ (by simp) (by exact HM2.out) hs HA.out).mono ?_; rintro e w3 ⟨rfl, rfl⟩))
              go_ret
              exact ⟨rfl, by assumption⟩
          · have hte : ((S m').toList == s.toList) = false := by rw [ByteArray.toList_eq, ByteArray.toList_eq]; simpa using heq
            have HL2 : Hid (lastUpTo S Pt s len = lastUpTo S Pt s m') := by
              have h := HL.out
              rw [lastUpTo, if_neg heq] at h
              exact h
            clear heq HL
            go_wp2
            go_round
            case rel => exact ⟨m', by omega, by go_num, rfl, HL2⟩
            case measure => simp [intOf]

/-- .. and beyond 2^20 ids it returns at once. -/
theorem whole_big (ao : Option Addr) (len cap : Nat) (nils : Value) (pk : Int) (other : ByteArray) (u : Bool) (w : World) (hl : 1048576 < len) (hm : len ≤ 9223372036854775807) :
    Calls Ybaf.prog 3 #[.slice ao len cap, nils, .int .u8 pk, .string other, .bool u] w fun e w' => e = .returned (.bool true) ∧ Below w.heap.size w w' := by
  have hbig : (1048576 : Int) < (len : Int) := by omega
  go_enter Ybaf.func3, Ybaf.ntmps3
  go_wp2
  go_ret
  exact ⟨rfl, Below.refl _ _⟩

end Go.Proofs.YbulkdlfyFmt
