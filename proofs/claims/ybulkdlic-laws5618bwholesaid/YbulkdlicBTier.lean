/-
  DERIVED. alloc.LawS5618BWhole: (*Pool).tierOf.
-/
import Derived.Test.YbulkdlicState7
namespace Go.Proofs.Ybulkdlic
open Go.RowKit Go.Shelf

attribute [local go_sem] Oper.semAt_some wide_fn equal40
attribute [local go_sem ↓] asked_wide neq40
attribute [local go_sem ↓] Go.wp_at_zero Go.wp_at_succ

/-- A range over a function of two values of which the first alone is kept. -/
theorem range1 {α : Type} {F : Fence} {n : Nat} {P : Program} {g : Operand} {ps : Array Tmp} {assign body : Code} {Q : Exit → Act → World → Prop} {a : Act} {w : World}
    (hro : F.round = none) (h1 : 1 ≤ n) {gf : Nat} {lb : Array Value} (hg : a.eval g = .func (.func gf) #[] lb) (hFg : F.fn gf) (eg : ∀ args w, (callFunc gf args).run P w = .ok (.enter gf args) w)
    (p1 p2 s1 : Nat) (tv : α → Value) (pv : α → Value) {Kp : World → World → Prop} {S Sp : List α → Prop} {N : Nat} {w0 : World} (hseq : SeqStopsK F (n - 1) P gf lb (fun x => #[tv x, pv x]) Kp S Sp N w0)
    (hKt : ∀ {A B C : World}, Kp A B → Kp B C → Kp A C) (hKb : ∀ (W : World) (l : Nat) (o o' : Obj), w.heap.size ≤ l → W.heap[l]? = some o → o.isCells = false → o.isWalk = false → Kp W (W.putObj l o')) (hb0 : Below w0.heap.size w0 w) (hps : ps.size = 2)
    (I : List α → World → Prop) (Ix : Code → List α → World → Prop) (hI : OwnFrom w.heap.size I) (hIx : ∀ c, OwnFrom w.heap.size (Ix c)) (h0 : I [] w)
    (hassign : ∀ (l : Nat) (x : α) (W : World) (K : Act → World → Prop), K { tmps := ((a.tmps.setIfInBounds p1 (tv x)).setIfInBounds p2 (pv x)).setIfInBounds s1 (tv x), defers := [] } W →
      assign.wpIn (F.inRound l) (n - 1 - 1) P (Exit.then K (fun _ _ _ => False)) { tmps := (ps.zip #[tv x, pv x]).foldl (fun t (p, v) => t.setIfInBounds p v) a.tmps, defers := [] } W)
    (hbody : ∀ (l : Nat) (pre : List α) (x : α) (W : World), I pre W → pre.length < N → body.wpIn (F.inRound l) (n - 1 - 1) P (ownPostG w.heap.size Kp I Ix (pre ++ [x]) W) { tmps := ((a.tmps.setIfInBounds p1 (tv x)).setIfInBounds p2 (pv x)).setIfInBounds s1 (tv x), defers := [] } W)
    (hdone : ∀ (D : Nat) (xs : List α) (W : World), w.heap.size ≤ D → S xs → I xs W → W.heap[D]? = some (.deferred (some [])) → Q .normal { a with defers := { target := .collected D, args := #[] } :: a.defers } W)
    (hstop : ∀ (D : Nat) (c : Code) (pre : List α) (W : World), w.heap.size ≤ D → Sp pre → Ix c pre W → W.heap[D]? = some (.deferred (some [])) → c.wpIn F n P Q { a with defers := { target := .collected D, args := #[] } :: a.defers } W) :
    (Code.rangeFunc g ps assign body).wpIn F n P Q a w :=
  wpIn_rangeFunc_ownG hro h1 hg hFg eg hseq hKt hKb hb0 (fun x => by rw [hps]; rfl) I Ix hI hIx h0 (fun x => { tmps := ((a.tmps.setIfInBounds p1 (tv x)).setIfInBounds p2 (pv x)).setIfInBounds s1 (tv x), defers := [] }) hassign hbody hdone hstop

set_option maxRecDepth 100000 in
set_option maxHeartbeats 2000000 in
theorem tierOf_any (p : PL) (i0 m x : Nat) (w : World) (hp : p.In w) (hn : p.n ≤ 65536)
    (hix : ∀ (k : Nat), k < p.n → ∀ W, (Instr.indexAt 48 (.slice p.pb p.n p.cap) (.int .i64 k)).run Yba.prog W = .ok (.pointer (some ⟨p.BB, k, none⟩)) W)
    (him : i0 + m ≤ p.n) (hlo : ∀ k, k < i0 → cmp3 (p.Lh k) (p.Ll k) 0 (x : Int) < 0) (hhi : ∀ k, i0 ≤ k → k < p.n → ¬ cmp3 (p.Lh k) (p.Ll k) 0 (x : Int) < 0)
    (hok : ∀ k, i0 ≤ k → k < i0 + m → p.ok 0 (x : Int) 0 (x : Int) k = true) (hno : i0 + m < p.n → p.ok 0 (x : Int) 0 (x : Int) (i0 + m) = false)
    (hb1 : p.PB < w.heap.size) (hb2 : p.TB < w.heap.size) (hb3 : 0 < p.n → p.BB < w.heap.size) :
    Calls Yba.prog 30 #[.pointer (some ⟨p.PB, 0, none⟩), .agg #[.int .u64 0, .int .u64 (x : Int)]] w fun e w' =>
      e = .returned (if 0 < m then .tuple #[.pointer (some ⟨p.TB, p.o i0, none⟩), .bool true] else .tuple #[.pointer none, .bool false]) ∧ Below w.heap.size w w' := by
  refine (callsIn_wide (n := 3)).1 ?_
  refine callsIn_of_wp_marks Yba.func30 rfl trivial ?_ rfl
  refine wpIn_wide.2 ?_
  refine Code.wp_mono NoPanic.imp ?_
  simp only [Yba.ntmps30, List.size_toArray, List.length_cons, List.length_nil, Nat.reduceAdd, Nat.reduceSub, Array.replicate_succ, Array.replicate_zero, List.push_toArray, List.append_toArray, List.nil_append, List.cons_append]
  go_wp2_with (go_at_call 8; refine (parts_any (.pointer (some ⟨p.PB, 0, none⟩)) rfl 0 (x : Int) 0 (x : Int) _).mono ?_; rintro e w1 ⟨rfl, rfl⟩)
  have hIt : p.It (w.heap.size + 1 + 1 + 1) (w.heap.size + 1 + 1 + 1 + 1) 0 (x : Int) 0 (x : Int) (((((w.alloc (.cells #[.int .u64 0, .int .u64 (x : Int)] 29)).alloc (.cells #[.pointer none] 40)).alloc (.cells #[.bool false] 4)).alloc (.cells #[.pointer (some ⟨p.PB, 0, none⟩)] 33)).alloc (.cells #[.int .u64 0, .int .u64 (x : Int), .int .u64 0, .int .u64 (x : Int)] 31)) := by
    have h0 := it_start (W := ((w.alloc (.cells #[.int .u64 0, .int .u64 (x : Int)] 29)).alloc (.cells #[.pointer none] 40)).alloc (.cells #[.bool false] 4)) (th := 0) (tl := (x : Int)) (uh := 0) (ul := (x : Int)) (hp.below ((((Below.refl _ w).alloc (Nat.le_refl _) _).alloc (by simp) _).alloc (by simp; omega) _))
    simp only [World.size_alloc] at h0
    exact h0
  have hz : (((((w.alloc (.cells #[.int .u64 0, .int .u64 (x : Int)] 29)).alloc (.cells #[.pointer none] 40)).alloc (.cells #[.bool false] 4)).alloc (.cells #[.pointer (some ⟨p.PB, 0, none⟩)] 33)).alloc (.cells #[.int .u64 0, .int .u64 (x : Int), .int .u64 0, .int .u64 (x : Int)] 31)).heap.size = w.heap.size + 5 := by simp
  have hB0 : Below w.heap.size w (((((w.alloc (.cells #[.int .u64 0, .int .u64 (x : Int)] 29)).alloc (.cells #[.pointer none] 40)).alloc (.cells #[.bool false] 4)).alloc (.cells #[.pointer (some ⟨p.PB, 0, none⟩)] 33)).alloc (.cells #[.int .u64 0, .int .u64 (x : Int), .int .u64 0, .int .u64 (x : Int)] 31)) := (((((Below.refl _ w).alloc (Nat.le_refl _) _).alloc (by simp) _).alloc (by simp; omega) _).alloc (by simp; omega) _).alloc (by simp; omega) _
  refine (wpIn_wide (n := 3)).1 ?_
  refine range1 (F := Fence.wide) (n := 3) rfl (by omega) (gf := 26) (lb := #[.pointer (some ⟨w.heap.size + 1 + 1 + 1, 0, none⟩), .pointer (some ⟨w.heap.size + 1 + 1 + 1 + 1, 0, none⟩)]) rfl trivial (enters_of Yba.func26 (by kernel_rfl) rfl)
    12 13 6 (fun y : Fin m => .pointer (some ⟨p.TB, p.o (i0 + y.1), none⟩)) (fun y => p.part 0 (x : Int) 0 (x : Int) (i0 + y.1))
    (parts1_stops p (w.heap.size + 1 + 1 + 1) (w.heap.size + 1 + 1 + 1 + 1) i0 m 0 (x : Int) 0 (x : Int) hn hix him hlo (fun k h1 h2 => Int.not_lt.2 (hhi k h1 h2)) hok hno (KR (w.heap.size + 1) (w.heap.size + 1 + 1) (w.heap.size + 5)) ?hKp _ hIt) KR.trans ?hKb (Below.refl _ _) rfl
    (fun pre W => KR (w.heap.size + 1) (w.heap.size + 1 + 1) (w.heap.size + 5) (((((w.alloc (.cells #[.int .u64 0, .int .u64 (x : Int)] 29)).alloc (.cells #[.pointer none] 40)).alloc (.cells #[.bool false] 4)).alloc (.cells #[.pointer (some ⟨p.PB, 0, none⟩)] 33)).alloc (.cells #[.int .u64 0, .int .u64 (x : Int), .int .u64 0, .int .u64 (x : Int)] 31)) W ∧ Boxed W (w.heap.size + 1) 40 (.pointer none) ∧ Boxed W (w.heap.size + 1 + 1) 4 (.bool false) ∧ pre = [])
    (fun c pre W => ∃ y : Fin m, KR (w.heap.size + 1) (w.heap.size + 1 + 1) (w.heap.size + 5) (((((w.alloc (.cells #[.int .u64 0, .int .u64 (x : Int)] 29)).alloc (.cells #[.pointer none] 40)).alloc (.cells #[.bool false] 4)).alloc (.cells #[.pointer (some ⟨p.PB, 0, none⟩)] 33)).alloc (.cells #[.int .u64 0, .int .u64 (x : Int), .int .u64 0, .int .u64 (x : Int)] 31)) W ∧ Boxed W (w.heap.size + 1) 40 (.pointer (some ⟨p.TB, p.o (i0 + y.1), none⟩)) ∧ Boxed W (w.heap.size + 1 + 1) 4 (.bool true) ∧ pre = [y] ∧ c = .ret) ?hI ?hIx ?h0 ?assign ?body ?done ?stop
  case hKp => exact fun _ _ hk hW => hW.kr (E := w.heap.size) hk (.inl (by omega)) (by omega) hb1 hb2 hb3 (by omega) ⟨by omega, by omega, by omega⟩ ⟨by omega, by omega, by omega⟩
  case hKb => exact fun _ l o o' hl _ _ _ => KR.putObj l o' (by rw [hz] at hl; exact hl)
  case hI => exact OwnFrom.and (kr_own _ _ (w.heap.size + 5) _ _ (by rw [hz]; exact Nat.le_refl _) (by rw [hz]; exact Nat.le_refl _)) (OwnFrom.and ((boxed_own (w.heap.size + 1) 40 (fun _ => .pointer none)).from _) (OwnFrom.and ((boxed_own (w.heap.size + 1 + 1) 4 (fun _ => .bool false)).from _) (ownFrom_pure _ _)))
  case hIx =>
    intro c s A B row hs hg hr
    obtain ⟨y, k1, k2, k3, k4⟩ := hs
    exact ⟨y, kr_own (β := Unit) _ _ (w.heap.size + 5) _ _ (by rw [hz]; exact Nat.le_refl _) (by rw [hz]; exact Nat.le_refl _) () A B row k1 hg hr, (boxed_own (β := Unit) (w.heap.size + 1) 40 (fun _ => .pointer (some ⟨p.TB, p.o (i0 + y.1), none⟩))).from (((((w.alloc (.cells #[.int .u64 0, .int .u64 (x : Int)] 29)).alloc (.cells #[.pointer none] 40)).alloc (.cells #[.bool false] 4)).alloc (.cells #[.pointer (some ⟨p.PB, 0, none⟩)] 33)).alloc (.cells #[.int .u64 0, .int .u64 (x : Int), .int .u64 0, .int .u64 (x : Int)] 31)).heap.size () A B row k2 hg hr, (boxed_own (β := Unit) (w.heap.size + 1 + 1) 4 (fun _ => .bool true)).from (((((w.alloc (.cells #[.int .u64 0, .int .u64 (x : Int)] 29)).alloc (.cells #[.pointer none] 40)).alloc (.cells #[.bool false] 4)).alloc (.cells #[.pointer (some ⟨p.PB, 0, none⟩)] 33)).alloc (.cells #[.int .u64 0, .int .u64 (x : Int), .int .u64 0, .int .u64 (x : Int)] 31)).heap.size () A B row k3 hg hr, k4⟩
  case h0 => exact ⟨KR.refl _ _ _ _, (by have := (((Boxed.new (w.alloc (.cells #[.int .u64 0, .int .u64 (x : Int)] 29)) 40 (.pointer none)).alloc (.cells #[.bool false] 4)).alloc (.cells #[.pointer (some ⟨p.PB, 0, none⟩)] 33)).alloc (.cells #[.int .u64 0, .int .u64 (x : Int), .int .u64 0, .int .u64 (x : Int)] 31); simp only [World.size_alloc] at this; exact this), (by have := ((Boxed.new ((w.alloc (.cells #[.int .u64 0, .int .u64 (x : Int)] 29)).alloc (.cells #[.pointer none] 40)) 4 (.bool false)).alloc (.cells #[.pointer (some ⟨p.PB, 0, none⟩)] 33)).alloc (.cells #[.int .u64 0, .int .u64 (x : Int), .int .u64 0, .int .u64 (x : Int)] 31); simp only [World.size_alloc] at this; exact this), rfl⟩
  case assign =>
    intro l y W K hK
    simp only [PL.part] at hK ⊢
    gi_wp2
    exact hK
  case body =>
    intro l pre y W hi hlt
    obtain ⟨hkr, hb4, hb5, rfl⟩ := hi
    have c4 := hb4.cell
    have f4 := hb4.frozen
    have c5 := hb5.cell
    have f5 := hb5.frozen
    simp only [PL.part, List.setIfInBounds_toArray, List.set_cons_succ, List.set_cons_zero]
    gi_wp2
    exact ⟨((KeepsOthers.setCell _ _ _).trans (KeepsOthers.setCell _ _ _)).from _, y, hkr.trans ((KR.setCell (x := w.heap.size + 1) (y := w.heap.size + 1 + 1) ⟨w.heap.size + 1, 0, none⟩ _ (.inl rfl)).trans (KR.setCell (x := w.heap.size + 1) (y := w.heap.size + 1 + 1) ⟨w.heap.size + 1 + 1, 0, none⟩ _ (.inr (.inl rfl)))), (hb4.set _).other (by omega) _, (hb5.other (by omega) _).set _, rfl, rfl⟩
  case done =>
    intro D xs W hD hS hi hdf
    obtain ⟨hkr, hb4, hb5, hxs⟩ := hi
    obtain rfl : m = 0 := by
      rw [hxs] at hS
      have := congrArg List.length hS
      simpa using this.symm
    have c4 := hb4.cell
    have f4 := hb4.frozen
    have c5 := hb5.cell
    have f5 := hb5.frozen
    have HD : Hid (W.heap[D]? = some (.deferred (some []))) := hdf
    have HB : Hid (Below w.heap.size w W) := hB0.trans (hkr.below _ (by omega) (by omega) (by omega) |>.mono (Nat.le_refl _))
    have HDl : Hid (w.heap.size + 5 ≤ D) := by rw [hz] at hD; exact hD
    clear hdf hkr hb4 hb5 hIt hz hB0 hD hp hix hlo hhi hok hno
    go_wp2
    have hd2 : ((W.setCell ⟨w.heap.size + 1, 0, none⟩ (.pointer none)).setCell ⟨w.heap.size + 1 + 1, 0, none⟩ (.bool false)).heap[D]? = some (.deferred (some [])) := (KeepsOthers.setCell _ _ _).same D _ ((KeepsOthers.setCell _ _ _).same D _ HD.out rfl) rfl
    have e4 : (((W.setCell ⟨w.heap.size + 1, 0, none⟩ (.pointer none)).setCell ⟨w.heap.size + 1 + 1, 0, none⟩ (.bool false)).putObj D (.deferred none)).cell? ⟨w.heap.size + 1, 0, none⟩ = some (.pointer none) := by
      rw [World.cell?_of_block (World.putObj_heap_other (by have := HDl.out; show w.heap.size + 1 ≠ D; omega)), World.cell?_setCell_other _ _ _ _ (by simp)]
      exact World.cell?_setCell_same' _ _ _ (by rw [c4]; rfl)
    have e5 : (((W.setCell ⟨w.heap.size + 1, 0, none⟩ (.pointer none)).setCell ⟨w.heap.size + 1 + 1, 0, none⟩ (.bool false)).putObj D (.deferred none)).cell? ⟨w.heap.size + 1 + 1, 0, none⟩ = some (.bool false) := by
      rw [World.cell?_of_block (World.putObj_heap_other (by have := HDl.out; show w.heap.size + 1 + 1 ≠ D; omega))]
      exact World.cell?_setCell_same' _ _ _ (by rw [World.cell?_setCell_other _ _ _ _ (by simp), c5]; rfl)
    refine ⟨by simp, .inl ⟨_, _, rfl, run_takeDeferred hd2, ?_⟩⟩
    refine ⟨.tuple #[.pointer none, .bool false], ?_, rfl, ?_⟩
    · simp [results, Yba.results30, go_sem, e4, e5]
    · exact below_put ((HB.out.setCell (p := ⟨w.heap.size + 1, 0, none⟩) (by simp) _).setCell (p := ⟨w.heap.size + 1 + 1, 0, none⟩) (by simp; omega) _) _ _ (by have := HDl.out; omega)
  case stop =>
    intro D c pre W hD hsp hix2 hdf
    obtain ⟨y, hkr, hb4, hb5, rfl, rfl⟩ := hix2
    have hy : y.1 = 0 := pre_next (pre := []) hsp
    have hm : 0 < m := by have := y.2; omega
    rw [hy, Nat.add_zero] at hb4
    have c4 := hb4.cell
    have c5 := hb5.cell
    have HD : Hid (W.heap[D]? = some (.deferred (some []))) := hdf
    have HB : Hid (Below w.heap.size w W) := hB0.trans (hkr.below _ (by omega) (by omega) (by omega) |>.mono (Nat.le_refl _))
    have HDl : Hid (w.heap.size + 5 ≤ D) := by rw [hz] at hD; exact hD
    clear hdf hkr hb4 hb5 hIt hz hB0 hD hp hix hlo hhi hok hno
    gi_wp2
    have e4 : (W.putObj D (.deferred none)).cell? ⟨w.heap.size + 1, 0, none⟩ = some (.pointer (some ⟨p.TB, p.o i0, none⟩)) := by
      rw [World.cell?_of_block (World.putObj_heap_other (by have := HDl.out; show w.heap.size + 1 ≠ D; omega))]
      exact c4
    have e5 : (W.putObj D (.deferred none)).cell? ⟨w.heap.size + 1 + 1, 0, none⟩ = some (.bool true) := by
      rw [World.cell?_of_block (World.putObj_heap_other (by have := HDl.out; show w.heap.size + 1 + 1 ≠ D; omega))]
      exact c5
    refine ⟨by simp, .inl ⟨_, _, rfl, run_takeDeferred HD.out, ?_⟩⟩
    refine ⟨.tuple #[.pointer (some ⟨p.TB, p.o i0, none⟩), .bool true], ?_, rfl, ?_⟩
    · simp [results, Yba.results30, go_sem, e4, e5]
    · exact below_put HB.out _ _ (by have := HDl.out; omega)

end Go.Proofs.Ybulkdlic
