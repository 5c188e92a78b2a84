/-
  DERIVED. apportion: THE CONTRACT OF NewLedger (function 8), over a program whose brokers lie in one array.
-/
import Derived.Test.YbulkdlfyFmtParts
import Derived.LaidEqlPtr
import Derived.Maps.AppendAt
import Derived.Lib.SmallJoins
namespace Go.Proofs.YbulkdlfyFmt
open Go.RowKit Go.Extern.Stop Go.Stop Go.Extern Go.Maps

/-- What NewLedger has built after k brokers: its ledger is block N + 2, the map of accounts block N, N the heap's size when it was called. -/
structure LInv (w : World) (g : Nat) (S : Nat → ByteArray) (k : Nat) (Pt : Nat → Nat) (v : Value) (wr : World) : Prop where
  own : wr.ownsRow (w.heap.size + 3) 27 1 v k ((List.range k).map fun j => .pointer (some ⟨Pt j, 0, none⟩))
  led : wr.heap[w.heap.size + 2]? = some (.cells #[.pointer (some ⟨g, 0, none⟩), v, .map (some w.heap.size), .map (some (w.heap.size + 1))] 40 (0, 0))
  map : wr.ownsMap Ybaf.prog 9 ptrElem w.heap.size k (mkUpTo S (fun j => some ⟨Pt j, 0, none⟩) k)
  below : Below w.heap.size w wr
  accts : ∀ j, j < k → w.heap.size + 2 < Pt j ∧ ∃ cs, wr.heap[Pt j]? = some (.cells cs 35 (0, 0)) ∧ cs[0]? = some (.string (S j))

theorem lt_of_block {w : World} {b : Nat} {o : Obj} (h : w.heap[b]? = some o) : b < w.heap.size := (Array.getElem?_eq_some_iff.1 h).1

/-- A block of another make is not the row that a slice of pointers owns. -/
theorem ne_own {w : World} {base n b : Nat} {v : Value} {xs : List Value} {o : Obj} (hown : w.ownsRow base 27 1 v n xs) (hb : w.heap[b]? = some o) (ho : ∀ cs, o ≠ .cells cs 27 (0, 0)) : some b ≠ v.ownBlock := by
  intro e
  rcases hown.2 with ⟨rfl, _⟩ | ⟨g, cap, cur, rfl, _, hg, _⟩
  · simp [Value.ownBlock] at e
  · simp [Value.ownBlock] at e
    subst e
    rw [hg] at hb
    cases hb
    exact ho _ rfl

/-- The four blocks that a round lays: the range's copy, the account's map, the account, the one-cell block of the append. -/
def laid4 (wr : World) (s : ByteArray) : World :=
  (((wr.alloc (.cells #[.string s, .string ⟨#[]⟩] 30)).alloc (.map #[] 0)).alloc (.cells #[.string s, .string ⟨#[]⟩, .slice none 0 0, .map (some (wr.heap.size + 1)), .slice none 0 0, .int .i64 0] 35)).alloc (.cells #[.pointer (some ⟨wr.heap.size + 2, 0, none⟩)] 27)

theorem laid4_old (wr : World) (s : ByteArray) {b : Nat} (h : b < wr.heap.size) : (laid4 wr s).heap[b]? = wr.heap[b]? := by
  unfold laid4
  rw [Below.heap_alloc _ _ _ (by simp; omega), Below.heap_alloc _ _ _ (by simp; omega), Below.heap_alloc _ _ _ (by simp; omega), Below.heap_alloc _ _ _ h]
theorem laid4_size (wr : World) (s : ByteArray) : (laid4 wr s).heap.size = wr.heap.size + 4 := by unfold laid4; simp
theorem laid4_copy (wr : World) (s : ByteArray) : (laid4 wr s).heap[wr.heap.size]? = some (.cells #[.string s, .string ⟨#[]⟩] 30 (0, 0)) := by
  unfold laid4
  rw [Below.heap_alloc _ _ _ (by simp; omega), Below.heap_alloc _ _ _ (by simp; omega), Below.heap_alloc _ _ _ (by simp)]
  exact heap_alloc_new wr _
theorem laid4_acct (wr : World) (s : ByteArray) : (laid4 wr s).heap[wr.heap.size + 2]? = some (.cells #[.string s, .string ⟨#[]⟩, .slice none 0 0, .map (some (wr.heap.size + 1)), .slice none 0 0, .int .i64 0] 35 (0, 0)) := by
  unfold laid4
  rw [Below.heap_alloc _ _ _ (by simp)]
  have h := heap_alloc_new ((wr.alloc (.cells #[.string s, .string ⟨#[]⟩] 30)).alloc (.map #[] 0)) (.cells #[.string s, .string ⟨#[]⟩, .slice none 0 0, .map (some (wr.heap.size + 1)), .slice none 0 0, .int .i64 0] 35)
  simpa using h
theorem laid4_news (wr : World) (s : ByteArray) : ∀ (j : Nat) (u : Value), [Value.pointer (some ⟨wr.heap.size + 2, 0, none⟩)][j]? = some u → (laid4 wr s).cell? ((⟨wr.heap.size + 3, 0, none⟩ : Addr).add j) = some u := by
  have h := cell_one_new (((wr.alloc (.cells #[.string s, .string ⟨#[]⟩] 30)).alloc (.map #[] 0)).alloc (.cells #[.string s, .string ⟨#[]⟩, .slice none 0 0, .map (some (wr.heap.size + 1)), .slice none 0 0, .int .i64 0] 35)) (.pointer (some ⟨wr.heap.size + 2, 0, none⟩)) 27
  simp only [World.size_alloc] at h
  exact h
theorem laid4_grown (wr : World) (s : ByteArray) : wr.grownBy (laid4 wr s) none := ⟨rfl, rfl, rfl, by rw [laid4_size]; omega, fun b hb _ => laid4_old wr s hb⟩

set_option maxRecDepth 100000 in
/-- ONE ROUND: behind the append. -/
theorem ledger_step {w wr w1 : World} {g : Nat} {S : Nat → ByteArray} {k : Nat} {Pt : Nat → Nat} {v v' : Value} (hinv : LInv w g S k Pt v wr) (hk : k < 1048576) (hsz : (S k).size ≤ maxLen)
    (hown' : w1.ownsRow (w.heap.size + 3) 27 1 v' (k + 1) (((List.range k).map fun j => .pointer (some ⟨Pt j, 0, none⟩)) ++ [.pointer (some ⟨wr.heap.size + 2, 0, none⟩)]))
    (hgrow : (laid4 wr (S k)).grownBy w1 v.ownBlock) :
    w.heap.size + 2 < w1.heap.size ∧ wr.heap.size < w1.heap.size ∧ w1.cell? ⟨w.heap.size + 2, 1, none⟩ = some v ∧ w1.frozen? ⟨w.heap.size + 2, 1, none⟩ = false ∧ w1.cell? ⟨w.heap.size + 2, 2, none⟩ = some (.map (some w.heap.size)) ∧
      w1.cell? ⟨wr.heap.size, 0, none⟩ = some (.string (S k)) ∧
      ∃ w2 Pt', (Instr.mapUpdate 26 (.map (some w.heap.size)) (.string (S k)) (.pointer (some ⟨wr.heap.size + 2, 0, none⟩))).run Ybaf.prog (w1.setCell ⟨w.heap.size + 2, 1, none⟩ v').drew = .ok () w2 ∧ LInv w g S (k + 1) Pt' v' w2 := by
  have hwr := lt_of_block hinv.led
  have hml := hinv.map.lt
  have hsz4 := laid4_size wr (S k)
  have hown4 : (laid4 wr (S k)).ownsRow (w.heap.size + 3) 27 1 v k ((List.range k).map fun j => .pointer (some ⟨Pt j, 0, none⟩)) := hinv.own.kept (laid4_grown wr (S k)) (by cases v.ownBlock <;> simp)
  have old1 : ∀ b, b < wr.heap.size → some b ≠ v.ownBlock → w1.heap[b]? = wr.heap[b]? := fun b hb hne => by
    rw [hgrow.block b (by omega) hne, laid4_old wr (S k) hb]
  have hled1 : w1.heap[w.heap.size + 2]? = some (.cells #[.pointer (some ⟨g, 0, none⟩), v, .map (some w.heap.size), .map (some (w.heap.size + 1))] 40 (0, 0)) := by
    rw [old1 _ hwr (ne_own hinv.own hinv.led (fun cs e => by cases e))]; exact hinv.led
  have hcopy1 : w1.heap[wr.heap.size]? = some (.cells #[.string (S k), .string ⟨#[]⟩] 30 (0, 0)) := by
    rw [hgrow.block _ (by omega) (ne_own hown4 (laid4_copy wr (S k)) (fun cs e => by cases e))]; exact laid4_copy wr (S k)
  have hacct1 : w1.heap[wr.heap.size + 2]? = some (.cells #[.string (S k), .string ⟨#[]⟩, .slice none 0 0, .map (some (wr.heap.size + 1)), .slice none 0 0, .int .i64 0] 35 (0, 0)) := by
    rw [hgrow.block _ (by omega) (ne_own hown4 (laid4_acct wr (S k)) (fun cs e => by cases e))]; exact laid4_acct wr (S k)
  have hmne : some w.heap.size ≠ v.ownBlock := by
    intro e
    have := hinv.own.lt _ e.symm
    omega
  have hmap1 : w1.ownsMap Ybaf.prog 9 ptrElem w.heap.size k (mkUpTo S (fun j => some ⟨Pt j, 0, none⟩) k) := (hinv.map.kept (laid4_grown wr (S k)) (by simp)).kept hgrow hmne
  obtain ⟨w2, hrun, hown2, hg2⟩ := ((hmap1.setCell (a := ⟨w.heap.size + 2, 1, none⟩) (by show w.heap.size ≠ w.heap.size + 2; omega) v').drew).update keyed9 Ybaf.underlying26 (by unfold maxLen; omega) (WideMaps.keyOf_string_mk Ybaf.underlying9 hsz) (val := .pointer (some ⟨wr.heap.size + 2, 0, none⟩)) (d := .held (some ⟨wr.heap.size + 2, 0, none⟩)) (ps := []) rfl
  have h1lt := hgrow.size
  have b2 : ∀ b, b < w1.heap.size → b ≠ w.heap.size → b ≠ w.heap.size + 2 → w2.heap[b]? = w1.heap[b]? := fun b hb h1 h2 => by
    rw [hg2.block b (by show b < (w1.setCell _ _).heap.size; rw [World.size_setCell]; exact hb) (by simp; exact h1)]
    show (w1.setCell _ _).heap[b]? = _
    rw [Below.heap_setCell _ _ _ _ (by show b ≠ w.heap.size + 2; exact h2)]
  refine ⟨lt_of_block hled1, lt_of_block hcopy1, ?_, ?_, ?_, ?_, w2, fun j => if j = k then wr.heap.size + 2 else Pt j, hrun, ?_, ?_, ?_, ?_, ?_⟩
  · simp [World.cell?, hled1]
  · simp [World.frozen?, hled1]
  · simp [World.cell?, hled1]
  · simp [World.cell?, hcopy1]
  · have h3 : ((w1.setCell ⟨w.heap.size + 2, 1, none⟩ v').drew).ownsRow (w.heap.size + 3) 27 1 v' (k + 1) (((List.range k).map fun j => .pointer (some ⟨Pt j, 0, none⟩)) ++ [.pointer (some ⟨wr.heap.size + 2, 0, none⟩)]) :=
      ownsRow_setCell_below hown' (by show w.heap.size + 2 < w.heap.size + 3; omega) v'
    have h4 := h3.kept hg2 (by
      cases hv : v'.ownBlock with
      | none => exact Or.inl rfl
      | some b => right; intro e; cases e; have := hown'.lt _ hv; omega)
    have e : ((List.range k).map fun j => Value.pointer (some ⟨Pt j, 0, none⟩)) ++ [Value.pointer (some ⟨wr.heap.size + 2, 0, none⟩)] = (List.range (k + 1)).map fun j => Value.pointer (some ⟨if j = k then wr.heap.size + 2 else Pt j, 0, none⟩) := by
      rw [List.range_succ, List.map_append]
      congr 1
      · apply List.map_congr_left
        intro j hj
        rw [if_neg (by have := List.mem_range.1 hj; omega)]
      · simp
    rw [e] at h4
    exact h4
  · have h3 := heap_setCell_same w1 (w.heap.size + 2) 1 _ 40 v' hled1
    rw [hg2.block _ (by show w.heap.size + 2 < (w1.setCell _ _).heap.size; rw [World.size_setCell]; exact lt_of_block hled1) (by simp)]
    exact h3
  · rw [mkUpTo, mkUpTo_congr S _ (fun j => some ⟨Pt j, 0, none⟩) k (fun j hj => by rw [if_neg (by omega)]), if_pos rfl]
    exact hown2
  · refine ((((hinv.below.grown (laid4_grown wr (S k)) hinv.below.size (fun j hj => by cases hj)).grown hgrow (by omega) (fun j hj => ?_)).setCell (p := ⟨w.heap.size + 2, 1, none⟩) (by show w.heap.size ≤ w.heap.size + 2; omega) v').drew).grown hg2 ?_ (fun j hj => by cases hj; exact Nat.le_refl _)
    · have := hinv.own.lt j hj; omega
    · show w.heap.size ≤ (w1.setCell _ _).heap.size
      rw [World.size_setCell]; omega
  · intro j hj
    by_cases e : j = k
    · subst e
      simp only [if_pos]
      exact ⟨by omega, _, (b2 _ (lt_of_block hacct1) (by omega) (by omega)).trans hacct1, rfl⟩
    · simp only [if_neg e]
      obtain ⟨h1, cs, h2, h3⟩ := hinv.accts j (by omega)
      refine ⟨h1, cs, ?_, h3⟩
      have hl := lt_of_block h2
      rw [b2 _ (by omega) (by omega) (by omega), old1 _ hl (ne_own hinv.own h2 (fun cs e => by cases e))]
      exact h2

theorem ledger_start (w : World) (g : Nat) (S : Nat → ByteArray) :
    LInv w g S 0 (fun _ => 0) (.slice none 0 0) (((w.alloc (.map #[] 0)).alloc (.map #[] 0)).alloc (.cells #[.pointer (some ⟨g, 0, none⟩), .slice none 0 0, .map (some w.heap.size), .map (some (w.heap.size + 1))] 40)) := by
  refine ⟨World.ownsRow_nil _ _ _ _, ?_, ?_, ?_, fun j hj => by omega⟩
  · have h := heap_alloc_new ((w.alloc (.map #[] 0)).alloc (.map #[] 0)) (.cells #[.pointer (some ⟨g, 0, none⟩), .slice none 0 0, .map (some w.heap.size), .map (some (w.heap.size + 1))] 40)
    simpa using h
  · have h := ((World.ownsMap_made w Ybaf.prog 9 ptrElem).alloc (.map #[] 0)).alloc (.cells #[.pointer (some ⟨g, 0, none⟩), .slice none 0 0, .map (some w.heap.size), .map (some (w.heap.size + 1))] 40)
    exact h
  · exact (((Below.refl _ _).alloc (Nat.le_refl _) _).alloc (by simp) _).alloc (by simp; omega) _

theorem make32 (w : World) : (Instr.makeMap 32 none).run Ybaf.prog w = .ok (.map (some w.heap.size)) (w.alloc (.map #[] 0)) := rfl

set_option maxRecDepth 100000 in
set_option maxHeartbeats 800000 in
/-- NewLedger, over a program whose brokers are S 0, .., S (len - 1). -/
theorem newLedger_any (g B len : Nat) (S : Nat → ByteArray) (w : World) (hl : len ≤ 1048576) (hS : ∀ j, (S j).size ≤ maxLen) (hgl : g < w.heap.size) (hBl : B < w.heap.size)
    (hcp : w.cell? ⟨g, 5, none⟩ = some (.slice (some ⟨B, 0, none⟩) len len))
    (hbs : ∀ j, j < len → w.cell? ⟨B, j * 2, none⟩ = some (.string (S j)) ∧ w.cell? ⟨B, j * 2 + 1, none⟩ = some (.string ⟨#[]⟩)) :
    Calls Ybaf.prog 8 #[.pointer (some ⟨g, 0, none⟩)] w fun e w' => e = .returned (.pointer (some ⟨w.heap.size + 2, 0, none⟩)) ∧ ∃ Pt v, LInv w g S len Pt v w' := by
  have hmm := make26
  have hm2 := @run_makeMap Ybaf.prog
  have g1 : g < w.heap.size + 1 := by omega
  have g2 : g < w.heap.size + 1 + 1 := by omega
  have HS : Hid (∀ j, (S j).size ≤ maxLen) := hS
  have HB : Hid (∀ j, j < len → w.cell? ⟨B, j * 2, none⟩ = some (.string (S j)) ∧ w.cell? ⟨B, j * 2 + 1, none⟩ = some (.string ⟨#[]⟩)) := hbs
  clear hS hbs
  obtain ⟨i0, hi, hz0, hz1, hz2⟩ := info_parts info27
  go_enter Ybaf.func8, Ybaf.ntmps8
  go_wp2
  clear hmm
  go_loopw [5, 6, 22] (fun _ _ i wr => ∃ (k : Nat) (Pt : Nat → Nat) (v : Value), k ≤ len ∧ i = .int .i64 k ∧ LInv w g S k Pt v wr) (fun _ _ i _ => len - (intOf i).toNat)
  case atStart =>
    refine ⟨0, fun _ => 0, .slice none 0 0, Nat.zero_le _, rfl, ?_⟩
    exact ledger_start w g S
  case round =>
    obtain ⟨k, Pt, v, hk, rfl, hinv⟩ := hrel
    by_cases hlt : k < len
    · have hc0 : wr.cell? ⟨B, k * 2, none⟩ = some (.string (S k)) := (hinv.below.cell (p := ⟨B, k * 2, none⟩) hBl).trans (HB.out k hlt).1
      have hc1 : wr.cell? ⟨B, k * 2 + 1, none⟩ = some (.string ⟨#[]⟩) := (hinv.below.cell (p := ⟨B, k * 2 + 1, none⟩) hBl).trans (HB.out k hlt).2
      have hl1 : wr.cell? ⟨w.heap.size + 2, 1, none⟩ = some v := by simp [World.cell?, hinv.led]
      have hls := lt_of_block hinv.led
      have hs1 : w.heap.size + 2 < wr.heap.size + 1 := by omega
      have hs2 : w.heap.size + 2 < wr.heap.size + 1 + 1 := by omega
      have hs3 : w.heap.size + 2 < wr.heap.size + 1 + 1 + 1 := by omega
      have HI : Hid (LInv w g S k Pt v wr) := hinv
      have HO : Hid ((laid4 wr (S k)).ownsRow (w.heap.size + 3) 27 1 v k ((List.range k).map fun j => .pointer (some ⟨Pt j, 0, none⟩))) := hinv.own.kept (laid4_grown wr (S k)) (by cases v.ownBlock <;> simp)
      clear hinv
      go_wp2_with (first
        | (at_builtin; refine wpList_append_own_at _ rfl (.tmp 34) (.tmp 36) 25 rfl (w.heap.size + 3) 27 i0 (.pointer none) 1 8 Ybaf.underlying25 hi hz0 hz1 hz2 rfl (by decide) v k ((List.range k).map fun j => .pointer (some ⟨Pt j, 0, none⟩)) rfl (by exact HO.out) ⟨wr.heap.size + 3, 0, none⟩ 1 1 [.pointer (some ⟨wr.heap.size + 2, 0, none⟩)] rfl rfl (by exact laid4_news wr (S k)) (by simp [Value.oneCell']) (by unfold maxLen; omega) (by omega) (by simp; omega) ?_; intro v' w1 hown' hgrow _ _; obtain ⟨g', cap', rfl⟩ := Joins.ownsRow_form hown' (by omega); obtain ⟨e1, e2, e3, e4, e5, e6, w2, Pt', hrun, hinv'⟩ := ledger_step HI.out (by omega) (HS.out k) hown' hgrow; have HI' : Hid (LInv w g S (k + 1) Pt' _ w2) := hinv'; clear hinv' hown' hgrow))
      have hrun2 : (Instr.mapUpdate 26 (.map (some w.heap.size)) (.string (S k)) (.pointer (some ⟨wr.heap.size + 1 + 1, 0, none⟩))).run Ybaf.prog (w1.setCell ⟨w.heap.size + 1 + 1, 1, none⟩ (.slice (some ⟨g', 0, none⟩) (k + 1) cap')).drew = .ok () w2 := hrun
      have hne : ¬ wr.heap.size = w.heap.size + 1 + 1 := by omega
      clear hrun
      go_region
      all_goals go_wp2
      all_goals go_roundw
      case rel => exact ⟨k + 1, Pt', _, by omega, by go_num, HI'.out⟩
      case measure => simp [intOf]; omega
    · obtain rfl : len = k := by omega
      go_wp2
      go_ret
      exact ⟨rfl, Pt, v, hinv⟩

end Go.Proofs.YbulkdlfyFmt
