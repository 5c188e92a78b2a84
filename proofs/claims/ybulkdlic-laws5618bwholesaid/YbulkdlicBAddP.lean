/-
  DERIVED. alloc.LawS5618BWhole: (*Pool).Add OF ONE TIER's RANGE.
-/
import Derived.Test.YbulkdlicBGrant
namespace Go.Proofs.Ybulkdlic
open Go.RowKit Go.Shelf

attribute [local go_sem] Oper.semAt_some wide_fn equal40
attribute [local go_sem ↓] asked_wide neq40
attribute [local go_sem ↓] Go.wp_at_zero Go.wp_at_succ

section
variable {M n : Nat} {rev : Bool} {F Z : Nat → Nat} {pb : Option Addr} {cap BB k : Nat} {LL : Nat → List (Nat × Nat)} {cc : Nat → Nat} {vv : Nat → Value} {h : List UInt8 → Option Nat} {hs : Nat} {g : Nat → Bool} {gs sz : Nat} {w w' : World}

/-- p.size has turned. -/
theorem PS.sized (P : PS M n rev F Z pb cap BB k LL cc vv h hs g gs sz w) (s : Nat) : PS M n rev F Z pb cap BB k LL cc vv h hs g gs s ((w.setCell ⟨M + 3, 4, none⟩ (.int .u64 0)).setCell ⟨M + 3, 5, none⟩ (.int .u64 (s : Int))) := by
  have hl := P.lt
  have oth : ∀ a : Addr, a ≠ ⟨M + 3, 4, none⟩ → a ≠ ⟨M + 3, 5, none⟩ → ((w.setCell ⟨M + 3, 4, none⟩ (.int .u64 0)).setCell ⟨M + 3, 5, none⟩ (.int .u64 (s : Int))).cell? a = w.cell? a := fun a h1 h2 => by
    rw [World.cell?_setCell_other _ _ _ _ (fun e => h2 e.symm), World.cell?_setCell_other _ _ _ _ (fun e => h1 e.symm)]
  have blk : ∀ j, j ≠ M + 3 → ((w.setCell ⟨M + 3, 4, none⟩ (.int .u64 0)).setCell ⟨M + 3, 5, none⟩ (.int .u64 (s : Int))).heap[j]? = w.heap[j]? := fun j hj => by
    rw [Below.heap_setCell _ _ _ _ hj, Below.heap_setCell _ _ _ _ hj]
  refine ⟨⟨(oth _ (by show (⟨M + 3, 3, none⟩ : Addr) ≠ _; simp) (by show (⟨M + 3, 3, none⟩ : Addr) ≠ _; simp)).trans P.pool.sl, fun i hi => (World.cell?_of_block (w := w) (blk _ (by show BB ≠ M + 3; have := P.bb (by have : i < n := hi; omega); omega))).trans (P.pool.byv i hi), fun i hi => (World.cell?_of_block (w := w) (blk _ (by show M + 2 ≠ M + 3; omega))).trans (P.pool.f0 i hi), fun i hi => (World.cell?_of_block (w := w) (blk _ (by show M + 2 ≠ M + 3; omega))).trans (P.pool.f1 i hi), fun i hi => (World.cell?_of_block (w := w) (blk _ (by show M + 2 ≠ M + 3; omega))).trans (P.pool.f2 i hi), fun i hi => (World.cell?_of_block (w := w) (blk _ (by show M + 2 ≠ M + 3; omega))).trans (P.pool.f3 i hi)⟩, P.pbs, (oth _ (by simp) (by simp)).trans P.cH, (oth _ (by simp) (by simp)).trans P.cB, (oth _ (by simp) (by simp)).trans P.cT, ?_, ?_, fun i => by rw [World.frozen?_setCell, World.frozen?_setCell]; exact P.fP i, fun t ht => ?_, P.ap, P.ab, ?_, ?_, P.bb, by simpa using hl⟩
  · rw [World.cell?_setCell_other _ _ _ _ (by simp)]
    exact World.cell?_setCell_same' _ _ _ (by rw [P.c4]; rfl)
  · exact World.cell?_setCell_same' _ _ _ (by rw [World.cell?_setCell_other _ _ _ _ (by simp), P.c5]; rfl)
  · have f := P.fs t ht
    exact ⟨(World.cell?_of_block (w := w) (blk (M + 2) (by omega))).trans f.run, (World.cell?_of_block (w := w) (blk (M + 2) (by omega))).trans f.chi, (World.cell?_of_block (w := w) (blk (M + 2) (by omega))).trans f.clo, fun i => (World.frozen?_of_block (w := w) (blk (M + 2) (by omega))).trans (f.fro i), own_block f.own (fun x e => blk x (by have := (f.own.lt x e).1; omega)), f.lt, by simpa using f.bs⟩
  · obtain ⟨D, d1, d2⟩ := P.mH
    obtain ⟨es, cl, e1, e2⟩ := d1
    exact ⟨D, ⟨es, cl, (blk M (by omega)).trans e1, e2⟩, d2⟩
  · obtain ⟨D, d1, d2⟩ := P.mB
    obtain ⟨es, cl, e1, e2⟩ := d1
    exact ⟨D, ⟨es, cl, (blk (M + 1) (by omega)).trans e1, e2⟩, d2⟩

/-- In a round: every order of a region without 'defer'. -/
theorem region_round {n : Nat} {P : Program} {id : Nat} {Q : Exit → Act → World → Prop} {a : Act} {w : World} {ops : List Oper} (l : Nat) (hm : P.follows .mixedOrders = true) (hd : noDefer ops = true)
    (h : wpAnyIn Fence.wide n P .any ops.toArray Q ops.toArray.size (Array.replicate ops.toArray.size false) a w.drew) : (Code.region id ops.toArray true).wpIn (Fence.wide.inRound l) n P Q a w :=
  wpIn_region_any hm (wpAnyIn_round l rfl (noDefer_spec hd) _ _ _ _ h)

/-- The state of the range in Add. -/
structure AddI (M n : Nat) (rev : Bool) (F Z : Nat → Nat) (pb : Option Addr) (cap BB k : Nat) (LL : Nat → List (Nat × Nat)) (cc : Nat → Nat) (vv : Nat → Value) (h : List UInt8 → Option Nat) (hs : Nat) (g : Nat → Bool) (gs sz j f z : Nat) (w : World) (pre : List (Fin 1)) (W : World) : Prop where
  pk : PK M w W
  box : W.cell? ⟨w.heap.size, 0, none⟩ = some (.pointer (some ⟨M + 3, 0, none⟩))
  big : w.heap.size + 4 ≤ W.heap.size
  at0 : pre = [] → PS M n rev F Z pb cap BB k LL cc vv h hs g gs sz W
  at1 : pre ≠ [] → ∃ v', PS M n rev F Z pb cap BB k (updL LL j [(f, z)]) (updL cc j (z - f + 1)) (updL vv j v') h hs g gs (sz + (z - f + 1)) W

theorem PS.grown {B : Nat} {row : Option Nat} (P : PS M n rev F Z pb cap BB k LL cc vv h hs g gs sz w) (hB : M + 4 ≤ B) (hBB : 0 < n → BB < B) (hg : w.grownBy w' row) (hr : ∀ r, row = some r → B ≤ r ∧ ∃ o : Obj, w.heap[r]? = some o ∧ o.isCells = false) : PS M n rev F Z pb cap BB k LL cc vv h hs g gs sz w' := by
  have hl := P.lt
  refine P.same hg.size (fun j hj => ?_)
  have hjl : j < w.heap.size := by
    rcases hj with hj | hj | ⟨t, ht, hj⟩
    · omega
    · rw [hj.1]; exact World.block_lt_of_cell? _ _ (P.pool.byv 0 hj.2)
    · exact ((P.fs t ht).own.lt j hj).2
  refine hg.block j hjl (fun e => ?_)
  obtain ⟨h1, o, h2, h3⟩ := hr j e.symm
  rcases hj with hj | hj | ⟨t, ht, hj⟩
  · omega
  · have := hBB hj.2; omega
  · obtain ⟨cur, h4⟩ := own31 (P.fs t ht).own hj
    rw [h2] at h4
    cases h4
    cases h3

theorem AddI.own {j f z : Nat} (hl0 : M + 4 ≤ w.heap.size) (hBBl : 0 < n → BB < w.heap.size) : OwnFrom (w.heap.size + 4) (AddI M n rev F Z pb cap BB k LL cc vv h hs g gs sz j f z w) := by
  intro s W W' row hs hg hr
  have hr' : ∀ r, row = some r → M + 4 ≤ r ∧ w.heap.size + 4 ≤ r := fun r e => by have := (hr r e).1; omega
  refine ⟨⟨hg.os.trans hs.pk.os, hg.tape.trans hs.pk.tape, hg.output.trans hs.pk.output, Nat.le_trans hs.pk.size hg.size, fun j hj hc => (hg.block j (Nat.lt_of_lt_of_le hj hs.pk.size) (fun e => by have := hr' j e.symm; omega)).trans (hs.pk.block j hj hc)⟩, (World.cell?_of_block (w := W) (hg.block w.heap.size (by have := hs.big; omega) (fun e => by have := hr' _ e.symm; omega))).trans hs.box, Nat.le_trans hs.big hg.size, fun e => (hs.at0 e).grown (B := w.heap.size + 4) (by omega) (fun h0 => by have := hBBl h0; omega) hg hr, fun e => ?_⟩
  obtain ⟨v', P'⟩ := hs.at1 e
  exact ⟨v', P'.grown (B := w.heap.size + 4) (by omega) (fun h0 => by have := hBBl h0; omega) hg hr⟩

set_option maxRecDepth 100000 in
set_option maxHeartbeats 2000000 in
theorem addP_any (G : Geo n F Z) (hP : PS M n rev F Z pb cap BB k LL cc vv h hs g gs sz w) (i : Nat) (hi : i < n) (hL : LL (pr rev n i) = []) (hc : cc (pr rev n i) = 0) (hsz : sz ≤ 1000000) :
    Calls Yba.prog 25 #[.pointer (some ⟨M + 3, 0, none⟩), .agg #[.int .u64 0, .int .u64 (F i : Int), .int .u64 0, .int .u64 (Z i : Int)]] w fun e w' => e = .returned (.tuple #[]) ∧ ∃ v', PS M n rev F Z pb cap BB k (updL LL (pr rev n i) [(F i, Z i)]) (updL cc (pr rev n i) (Z i - F i + 1)) (updL vv (pr rev n i) v') h hs g gs (sz + (Z i - F i + 1)) w' ∧ PK M w w' := by
  obtain ⟨f, hf⟩ : ∃ f, F i = f := ⟨_, rfl⟩
  obtain ⟨z, hz⟩ : ∃ z, Z i = z := ⟨_, rfl⟩
  rw [hf, hz]
  have hfz := G.fz i hi
  rw [hf, hz] at hfz
  obtain ⟨j, hj⟩ : ∃ j, pr rev n i = j := ⟨_, rfl⟩
  have hjn : j < n := by rw [← hj]; exact pr_lt' rev hi
  rw [hj] at hL hc ⊢
  have hl0 := hP.lt
  have hBBl : 0 < n → BB < w.heap.size := fun h0 => World.block_lt_of_cell? _ _ (hP.pool.byv 0 h0)
  refine (callsIn_wide (n := 3)).1 ?_
  refine callsIn_of_wp_marks Yba.func25 rfl trivial ?_ rfl
  refine wpIn_wide.2 ?_
  refine Code.wp_mono NoPanic.imp ?_
  simp only [Yba.ntmps25, List.size_toArray, List.length_cons, List.length_nil, Nat.reduceAdd, Nat.reduceSub, Array.replicate_succ, Array.replicate_zero, List.push_toArray, List.append_toArray, List.nil_append, List.cons_append]
  go_wp2_with (go_at_call 8; refine (parts_any (.pointer (some ⟨M + 3, 0, none⟩)) rfl 0 (f : Int) 0 (z : Int) _).mono ?_; rintro e w1 ⟨rfl, rfl⟩)
  have hB0 : Below w.heap.size w ((((w.alloc (.cells #[.pointer (some ⟨M + 3, 0, none⟩)] 33)).alloc (.cells #[.int .u64 0, .int .u64 (f : Int), .int .u64 0, .int .u64 (z : Int)] 31)).alloc (.cells #[.pointer (some ⟨M + 3, 0, none⟩)] 33)).alloc (.cells #[.int .u64 0, .int .u64 (f : Int), .int .u64 0, .int .u64 (z : Int)] 31)) := ((((Below.refl _ w).alloc (Nat.le_refl _) _).alloc (by simp) _).alloc (by simp; omega) _).alloc (by simp; omega) _
  have hz4 : ((((w.alloc (.cells #[.pointer (some ⟨M + 3, 0, none⟩)] 33)).alloc (.cells #[.int .u64 0, .int .u64 (f : Int), .int .u64 0, .int .u64 (z : Int)] 31)).alloc (.cells #[.pointer (some ⟨M + 3, 0, none⟩)] 33)).alloc (.cells #[.int .u64 0, .int .u64 (f : Int), .int .u64 0, .int .u64 (z : Int)] 31)).heap.size = w.heap.size + 4 := by simp
  have hIt : (pOf M n rev F Z pb cap BB).It (w.heap.size + 1 + 1) (w.heap.size + 1 + 1 + 1) 0 (f : Int) 0 (z : Int) ((((w.alloc (.cells #[.pointer (some ⟨M + 3, 0, none⟩)] 33)).alloc (.cells #[.int .u64 0, .int .u64 (f : Int), .int .u64 0, .int .u64 (z : Int)] 31)).alloc (.cells #[.pointer (some ⟨M + 3, 0, none⟩)] 33)).alloc (.cells #[.int .u64 0, .int .u64 (f : Int), .int .u64 0, .int .u64 (z : Int)] 31)) := by
    have h0 := it_start (p := pOf M n rev F Z pb cap BB) (W := (w.alloc (.cells #[.pointer (some ⟨M + 3, 0, none⟩)] 33)).alloc (.cells #[.int .u64 0, .int .u64 (f : Int), .int .u64 0, .int .u64 (z : Int)] 31)) (th := 0) (tl := (f : Int)) (uh := 0) (ul := (z : Int)) (hP.pool.below (((Below.refl _ w).alloc (Nat.le_refl _) _).alloc (by simp) _))
    simp only [World.size_alloc] at h0
    exact h0
  have hparts : ∀ x : Fin 1, (pOf M n rev F Z pb cap BB).part 0 (f : Int) 0 (z : Int) (i + x.1) = .agg #[.int .u64 0, .int .u64 (f : Int), .int .u64 0, .int .u64 (z : Int)] := fun x => by
    obtain ⟨q1, q2, q3, q4⟩ := @pOf_ok M n rev F Z pb cap BB f z i
    rw [hf, if_neg (by omega)] at q1
    rw [hz, if_neg (by omega)] at q2
    rw [show i + x.1 = i by omega]
    unfold PL.part
    rw [q1, q2, q3, q4]
  have hseq := parts1_stops (pOf M n rev F Z pb cap BB) (w.heap.size + 1 + 1) (w.heap.size + 1 + 1 + 1) i 1 0 (f : Int) 0 (z : Int) (by show n ≤ 65536; have := G.le; omega) (pl_ix hP.pbs) (by show i + 1 ≤ n; omega)
    (fun k hk => (cmp0 _ _).2 (by have := G.sep k i hk hi; omega))
    (fun k hk hk2 e => by
      have e2 := (cmp0 _ _).1 e
      by_cases ek : k = i
      · rw [ek, hz] at e2; omega
      · have := G.sep i k (by omega) hk2; have := (G.fz k hk2).1; omega)
    (fun k hk hk2 => by
      rw [show k = i by omega, pOf_ok', hf, hz]
      simp
      omega)
    (fun hm => by
      rw [pOf_ok', decide_eq_false_iff_not]
      have h1 := G.sep i (i + 1) (by omega) hm
      have h2 := (G.fz (i + 1) hm).1
      rw [hz] at h1
      rw [if_neg (by omega), if_pos (by omega)]
      omega)
    (fun A B => (pOf M n rev F Z pb cap BB).It (w.heap.size + 1 + 1) (w.heap.size + 1 + 1 + 1) 0 (f : Int) 0 (z : Int) A → (pOf M n rev F Z pb cap BB).It (w.heap.size + 1 + 1) (w.heap.size + 1 + 1 + 1) 0 (f : Int) 0 (z : Int) B) (fun A B hk ha => hk ha) _ hIt
  rw [show (fun x : Fin 1 => #[Value.pointer (some ⟨(pOf M n rev F Z pb cap BB).TB, (pOf M n rev F Z pb cap BB).o (i + x.1), none⟩), (pOf M n rev F Z pb cap BB).part 0 (f : Int) 0 (z : Int) (i + x.1)]) = fun _ => #[.pointer (some ⟨M + 2, pr rev n i * 7, none⟩), .agg #[.int .u64 0, .int .u64 (f : Int), .int .u64 0, .int .u64 (z : Int)]] from funext fun x => by rw [hparts x, show i + x.1 = i by omega]; rfl] at hseq
  rw [hj] at hseq
  refine (wpIn_wide (n := 3)).1 ?_
  refine range2 (F := Fence.wide) (n := 3) rfl (by omega) (gf := 26) (lb := #[.pointer (some ⟨w.heap.size + 1 + 1, 0, none⟩), .pointer (some ⟨w.heap.size + 1 + 1 + 1, 0, none⟩)]) rfl trivial (enters_of Yba.func26 (by kernel_rfl) rfl)
    9 10 4 5 (fun _ : Fin 1 => .pointer (some ⟨M + 2, j * 7, none⟩)) (fun _ => .agg #[.int .u64 0, .int .u64 (f : Int), .int .u64 0, .int .u64 (z : Int)]) (fun _ => #[.int .u64 0, .int .u64 (f : Int), .int .u64 0, .int .u64 (z : Int)])
    hseq (fun h1 h2 h3 => h2 (h1 h3)) ?hKb (Below.refl _ _) rfl
    (AddI M n rev F Z pb cap BB k LL cc vv h hs g gs sz j f z w) (fun _ _ _ => False) ?hI (fun _ _ _ _ _ hF _ _ => hF) ?h0 ?assign ?body ?done (fun _ _ _ _ _ _ hF _ => hF.elim)
  case hKb =>
    intro W l o o' hl ho hcl _ ha
    rw [hz4] at hl
    have oth : ∀ b : Nat, b < l → (W.putObj l o').heap[b]? = W.heap[b]? := fun b hb => World.putObj_heap_other (by omega)
    have cel : ∀ (b c : Nat) (u : Value), b < l → W.cell? ⟨b, c, none⟩ = some u → (W.putObj l o').cell? ⟨b, c, none⟩ = some u := fun b c u hb hc => (World.cell?_of_block (w := W) (oth b hb)).trans hc
    exact ⟨⟨cel _ _ _ (by show M + 3 < l; omega) ha.pool.sl, fun i hi => cel _ _ _ (by show BB < l; have := hBBl (by have : i < n := hi; omega); omega) (ha.pool.byv i hi), fun i hi => cel _ _ _ (by show M + 2 < l; omega) (ha.pool.f0 i hi), fun i hi => cel _ _ _ (by show M + 2 < l; omega) (ha.pool.f1 i hi), fun i hi => cel _ _ _ (by show M + 2 < l; omega) (ha.pool.f2 i hi), fun i hi => cel _ _ _ (by show M + 2 < l; omega) (ha.pool.f3 i hi)⟩, cel _ _ _ (by omega) ha.bp, cel _ _ _ (by omega) ha.r0, cel _ _ _ (by omega) ha.r1, cel _ _ _ (by omega) ha.r2, cel _ _ _ (by omega) ha.r3⟩
  case hI => rw [hz4]; exact AddI.own hl0 hBBl
  case h0 => exact ⟨PK.of_below hB0, keepA _ (keepA _ (keepA _ (newAt rfl rfl))), by rw [hz4]; omega, fun _ => hP.below hB0, fun e => (e rfl).elim⟩
  case assign =>
    intro l pre x W K hi hK
    gi_wp2
    have hga := World.grownBy_alloc W (.cells #[.int .u64 0, .int .u64 (f : Int), .int .u64 0, .int .u64 (z : Int)] 31) none
    exact hK _ W.heap.size (KeepsFrom.of_grownBy hga (by simp)) (fun ha => ha.below (below_one _)) (AddI.own hl0 hBBl _ _ _ _ hi hga (by simp)) (by rw [hz4]; exact hi.big) (heap_alloc_new W _)
  case body =>
    intro l pre x Bx W hi hBx hbox hlt
    obtain rfl : pre = [] := List.length_eq_zero_iff.1 (by omega)
    simp only [bframe, List.setIfInBounds_toArray, List.set_cons_succ, List.set_cons_zero]
    have hmx : Yba.prog.follows .mixedOrders = true := by kernel_rfl
    have hPW := hi.at0 rfl
    have HI : Hid (AddI M n rev F Z pb cap BB k LL cc vv h hs g gs sz j f z w [] W) := hi
    have fW : FS (M + 4) (M + 2) (j * 7 + 4) [] 0 (vv j) W.drew := by have := (hPW.fs j hjn).below (Below.refl _ W).drew; rw [hL, hc] at this; exact this
    have HA := addRange_any (M + 4) (M + 2) (j * 7 + 4) 0 f z [] 0 (vv j) W.drew (by simp) (by simp) fW (Nat.le_refl _) (fun k hk => by omega) (fun k h1 h2 => by simp at h2) hfz.1 (by omega) (by omega)
    rw [show addL [] 0 (f, z) = [(f, z)] from rfl, Nat.zero_add] at HA
    have x0 : W.cell? ⟨Bx, 0, none⟩ = some (.int .u64 0) := by rw [World.cell?, hbox]; rfl
    have x1 : W.cell? ⟨Bx, 1, none⟩ = some (.int .u64 (f : Int)) := by rw [World.cell?, hbox]; rfl
    have x2 : W.cell? ⟨Bx, 2, none⟩ = some (.int .u64 0) := by rw [World.cell?, hbox]; rfl
    have x3 : W.cell? ⟨Bx, 3, none⟩ = some (.int .u64 (z : Int)) := by rw [World.cell?, hbox]; rfl
    clear hi hPW fW
    gi_wp2
    refine region_round l hmx (by kernel_rfl) ?_
    refine wpAnyIn_take (i := 0) (v := .pointer (some ⟨M + 2, j * 7, none⟩)) rfl rfl (by kernel_rfl) (by kernel_rfl) (by kernel_rfl) (fun _ _ _ h => h) ⟨Or.inl ⟨by rfl, ?_⟩, fun _ => rfl⟩ ?_
    · intro w; go_simp
    refine wpAnyIn_take (i := 1) (v := .pointer (some ⟨M + 2, j * 7, none⟩)) rfl rfl (by kernel_rfl) (by kernel_rfl) (by kernel_rfl) (fun _ _ _ h => h) ⟨Or.inl ⟨by rfl, ?_⟩, fun _ => rfl⟩ ?_
    · intro w; go_simp
    refine wpAnyIn_take (i := 2) (v := .pointer (some ⟨M + 2, j * 7 + 4, none⟩)) rfl rfl (by kernel_rfl) (by kernel_rfl) (by kernel_rfl) (fun _ _ _ h => h) ⟨Or.inl ⟨by rfl, ?_⟩, fun _ => rfl⟩ ?_
    · intro w; go_simp
    refine wpAnyIn_ready (rs := [3]) (by kernel_rfl) (by simp) ?_
    refine AllReadyIn.cons rfl (fun K hK => ?_) AllReadyIn.nil
    go_simp
    refine hK _ _ ?_
    clear hK K
    refine wpAnyIn_ready (rs := [4]) (by kernel_rfl) (by simp) ?_
    refine AllReadyIn.cons rfl (fun K hK => ?_) AllReadyIn.nil
    go_simp
    gi_wp2_with (gi_at_call 37; refine ((callsIn_wide (n := _)).2 HA).mono ?_; rintro e W1 ⟨rfl, v', f', u⟩)
    refine wpAnyIn_done (by kernel_rfl) ?_ _
    have hPW := HI.out.at0 rfl
    have P1 := (hPW.below (Below.refl _ W).drew).turn hjn f' u
    have hvv : ∀ b, (vv j).ownBlock = some b → b < w.heap.size := fun b e => ((hP.fs j hjn).own.lt b e).2
    have hbig := HI.out.big
    have hBxl : Bx < W.heap.size := lt_of_block hbox
    have blk : ∀ b, w.heap.size ≤ b → b < W.heap.size → W1.heap[b]? = W.heap[b]? := fun b h1 h2 => u.block b h2 (by omega) (fun e => by have := hvv b e.symm; omega)
    have hBx4 : w.heap.size ≤ Bx := by rw [hz4] at hBx; omega
    have y0 : W1.cell? ⟨Bx, 0, none⟩ = some (.int .u64 0) := (World.cell?_of_block (a := ⟨Bx, 0, none⟩) (blk Bx hBx4 hBxl)).trans x0
    have y1 : W1.cell? ⟨Bx, 1, none⟩ = some (.int .u64 (f : Int)) := (World.cell?_of_block (a := ⟨Bx, 1, none⟩) (blk Bx hBx4 hBxl)).trans x1
    have y2 : W1.cell? ⟨Bx, 2, none⟩ = some (.int .u64 0) := (World.cell?_of_block (a := ⟨Bx, 2, none⟩) (blk Bx hBx4 hBxl)).trans x2
    have y3 : W1.cell? ⟨Bx, 3, none⟩ = some (.int .u64 (z : Int)) := (World.cell?_of_block (a := ⟨Bx, 3, none⟩) (blk Bx hBx4 hBxl)).trans x3
    have yp : W1.cell? ⟨w.heap.size, 0, none⟩ = some (.pointer (some ⟨M + 3, 0, none⟩)) := (World.cell?_of_block (a := ⟨w.heap.size, 0, none⟩) (blk w.heap.size (Nat.le_refl _) (by omega))).trans HI.out.box
    have ys4 : W1.cell? ⟨M + 3, 4, none⟩ = some (.int .u64 0) := P1.c4
    have ys5 : W1.cell? ⟨M + 3, 4 + 1, none⟩ = some (.int .u64 (sz : Int)) := P1.c5
    have yf := P1.fP
    have hl3 : M + 3 < W1.heap.size := by have := P1.lt; omega
    obtain ⟨d, hd⟩ : ∃ d, z - f + 1 = d := ⟨_, rfl⟩
    have H39 : Hid (∀ X, Calls Yba.prog 39 #[.agg #[.int .u64 0, .int .u64 (f : Int), .int .u64 0, .int .u64 (z : Int)]] X fun e w' => e = .returned (.agg #[.int .u64 0, .int .u64 (d : Int)]) ∧ Below X.heap.size X w') := fun X => by
      have := size_nat f z hfz.1 (by omega) X
      rwa [show (z : Int) - (f : Int) + 1 = (d : Int) by omega] at this
    have H38 : Hid (∀ X, Calls Yba.prog 38 #[.agg #[.int .u64 0, .int .u64 (sz : Int)], .agg #[.int .u64 0, .int .u64 (d : Int)]] X fun e w' => e = .returned (.agg #[.int .u64 0, .int .u64 ((sz : Int) + (d : Int))]) ∧ Below X.heap.size X w') := fun X => add_nat sz d (by omega) X
    have HFin : Hid (∀ W3, Below W1.heap.size W1 W3 → KeepsFrom (w.heap.size + 4) W ((W3.setCell ⟨M + 3, 4, none⟩ (.int .u64 0)).setCell ⟨M + 3, 4 + 1, none⟩ (.int .u64 ((sz : Int) + (d : Int)))) ∧ ((pOf M n rev F Z pb cap BB).It (w.heap.size + 1 + 1) (w.heap.size + 1 + 1 + 1) 0 (f : Int) 0 (z : Int) W → (pOf M n rev F Z pb cap BB).It (w.heap.size + 1 + 1) (w.heap.size + 1 + 1 + 1) 0 (f : Int) 0 (z : Int) ((W3.setCell ⟨M + 3, 4, none⟩ (.int .u64 0)).setCell ⟨M + 3, 4 + 1, none⟩ (.int .u64 ((sz : Int) + (d : Int))))) ∧ AddI M n rev F Z pb cap BB k LL cc vv h hs g gs sz j f z w [x] ((W3.setCell ⟨M + 3, 4, none⟩ (.int .u64 0)).setCell ⟨M + 3, 4 + 1, none⟩ (.int .u64 ((sz : Int) + (d : Int))))) := fun W3 hb => by
      have P3 := P1.below hb
      have P4 := P3.sized (sz + d)
      rw [show (((sz + d : Nat)) : Int) = (sz : Int) + (d : Int) by omega] at P4
      have hW1 : W.heap.size ≤ W1.heap.size := u.size
      have hW3 := hb.size
      have blk4 : ∀ b, w.heap.size ≤ b → b < W.heap.size → ((W3.setCell ⟨M + 3, 4, none⟩ (.int .u64 0)).setCell ⟨M + 3, 4 + 1, none⟩ (.int .u64 ((sz : Int) + (d : Int)))).heap[b]? = W.heap[b]? := fun b h1 h2 => by
        rw [Below.heap_setCell _ _ _ _ (show b ≠ M + 3 by omega), Below.heap_setCell _ _ _ _ (show b ≠ M + 3 by omega), hb.block b (by omega)]
        exact blk b h1 h2
      have hsz4 : ((W3.setCell ⟨M + 3, 4, none⟩ (.int .u64 0)).setCell ⟨M + 3, 4 + 1, none⟩ (.int .u64 ((sz : Int) + (d : Int)))).heap.size = W3.heap.size := by simp
      refine ⟨⟨by rw [hsz4]; omega, fun b o h1 h2 h3 => (blk4 b (by omega) (lt_of_block h2)).trans h2⟩, fun ha => ⟨P4.pool, ?_, ?_, ?_, ?_, ?_⟩, ⟨((HI.out.pk.trans (PK.of_below (Below.refl _ W).drew)).trans (PK.of_fu ((hPW.fs j hjn).below (Below.refl _ W).drew) u)).trans ((PK.of_below hb).trans ?_), ?_, by rw [hsz4]; omega, fun e => (by cases e), fun _ => ⟨v', by rw [hd]; rw [hd] at P4; exact P4⟩⟩⟩
      · exact (World.cell?_of_block (a := ⟨w.heap.size + 1 + 1, 0, none⟩) (blk4 (w.heap.size + 1 + 1) (by omega) (by omega))).trans ha.bp
      · exact (World.cell?_of_block (a := ⟨w.heap.size + 1 + 1 + 1, 0, none⟩) (blk4 (w.heap.size + 1 + 1 + 1) (by omega) (by omega))).trans ha.r0
      · exact (World.cell?_of_block (a := ⟨w.heap.size + 1 + 1 + 1, 1, none⟩) (blk4 (w.heap.size + 1 + 1 + 1) (by omega) (by omega))).trans ha.r1
      · exact (World.cell?_of_block (a := ⟨w.heap.size + 1 + 1 + 1, 2, none⟩) (blk4 (w.heap.size + 1 + 1 + 1) (by omega) (by omega))).trans ha.r2
      · exact (World.cell?_of_block (a := ⟨w.heap.size + 1 + 1 + 1, 3, none⟩) (blk4 (w.heap.size + 1 + 1 + 1) (by omega) (by omega))).trans ha.r3
      · refine ⟨rfl, rfl, rfl, by simp, fun b hb' hc' => ?_⟩
        have hne : b ≠ M + 3 := by omega
        rw [Below.heap_setCell _ _ _ _ hne, Below.heap_setCell _ _ _ _ hne]
      · exact (World.cell?_of_block (a := ⟨w.heap.size, 0, none⟩) (blk4 w.heap.size (Nat.le_refl _) (by omega))).trans HI.out.box
    clear hPW P1 u f' x0 x1 x2 x3 blk HA hseq hIt hP hparts HI hbox hB0 hvv
    gi_wp2
    refine region_round l hmx (by kernel_rfl) ?_
    refine wpAnyIn_ready (rs := [0, 1, 5]) (by kernel_rfl) (by simp) (AllReadyIn.cons rfl (fun K hK => ?_) (AllReadyIn.cons rfl (fun K hK => ?_) (AllReadyIn.cons rfl (fun K hK => ?_) AllReadyIn.nil)))
    · go_simp
      refine hK _ _ ?_
      clear hK K
      refine wpAnyIn_ready (rs := [1, 5]) (by kernel_rfl) (by simp) (AllReadyIn.cons rfl (fun K hK => ?_) (AllReadyIn.cons rfl (fun K hK => ?_) AllReadyIn.nil))
      · go_simp
        refine hK _ _ ?_
        clear hK K
        refine wpAnyIn_take (i := 2) (v := .pointer (some ⟨M + 3, 0, none⟩)) rfl rfl (by kernel_rfl) (by kernel_rfl) (by kernel_rfl) (fun _ _ _ h => h) ⟨Or.inl ⟨by rfl, by intro w; go_simp⟩, fun _ => rfl⟩ ?_
        refine wpAnyIn_take (i := 3) (v := .pointer (some ⟨M + 3, 4, none⟩)) rfl rfl (by kernel_rfl) (by kernel_rfl) (by kernel_rfl) (fun _ _ _ h => h) ⟨Or.inl ⟨by rfl, by intro w; go_simp⟩, fun _ => rfl⟩ ?_
        refine wpAnyIn_ready (rs := [4, 5]) (by kernel_rfl) (by simp) (AllReadyIn.cons rfl (fun K hK => ?_) (AllReadyIn.cons rfl (fun K hK => ?_) AllReadyIn.nil))
        · go_simp
          refine hK _ _ ?_
          clear hK K
          refine wpAnyIn_ready (rs := [5]) (by kernel_rfl) (by simp) (AllReadyIn.cons rfl (fun K hK => ?_) AllReadyIn.nil)
          go_simp
          refine hK _ _ ?_
          clear hK K
          refine wpAnyIn_ready (rs := [6]) (by kernel_rfl) (by simp) (AllReadyIn.cons rfl (fun K hK => ?_) AllReadyIn.nil)
          go_simp
          gi_wp2_with ((gi_at_call 39; refine ((callsIn_wide (n := _)).2 (H39.out _)).mono ?_; rintro e W2 ⟨rfl, hB⟩; have hB2 : Below W1.heap.size W1 W2 := (Below.refl _ W1).drew.trans hB; clear hB; have g0 := cell_below y0 hB2; have g1 := cell_below y1 hB2; have g2 := cell_below y2 hB2; have g3 := cell_below y3 hB2; have gp := cell_below yp hB2; have gs4 := cell_below ys4 hB2; have gs5 := cell_below ys5 hB2))
          refine wpAnyIn_ready (rs := [7]) (by kernel_rfl) (by simp) (AllReadyIn.cons rfl (fun K hK => ?_) AllReadyIn.nil)
          go_simp
          gi_wp2_with ((gi_at_call 38; refine ((callsIn_wide (n := _)).2 (H38.out _)).mono ?_; rintro e W3 ⟨rfl, hB⟩; have hB3 : Below W1.heap.size W1 W3 := hB2.trans (hB.mono hB2.size); clear hB; have kp := cell_below yp hB3; have k4 := cell_below ys4 hB3; have k5 := cell_below ys5 hB3; have kf : ∀ i, W3.frozen? ⟨M + 3, i, none⟩ = false := fun i => (hB3.frozen (p := ⟨M + 3, i, none⟩) hl3).trans (yf i)))
          refine wpAnyIn_take (i := 8) (v := .pointer (some ⟨M + 3, 0, none⟩)) rfl rfl (by kernel_rfl) (by kernel_rfl) (by kernel_rfl) (fun _ _ _ h => h) ⟨Or.inl ⟨by rfl, by intro w; go_simp⟩, fun _ => rfl⟩ ?_
          refine wpAnyIn_take (i := 9) (v := .pointer (some ⟨M + 3, 4, none⟩)) rfl rfl (by kernel_rfl) (by kernel_rfl) (by kernel_rfl) (fun _ _ _ h => h) ⟨Or.inl ⟨by rfl, by intro w; go_simp⟩, fun _ => rfl⟩ ?_
          refine wpAnyIn_ready (rs := [10]) (by kernel_rfl) (by simp) (AllReadyIn.cons rfl (fun K hK => ?_) AllReadyIn.nil)
          go_simp
          refine hK _ _ ?_
          clear hK K
          refine wpAnyIn_done (by kernel_rfl) ?_ _
          gi_wp2
          rw [hz4]
          exact HFin.out _ hB3
        · go_simp
          refine hK _ _ ?_
          clear hK K
          refine wpAnyIn_ready (rs := [4, 6]) (by kernel_rfl) (by simp) (AllReadyIn.cons rfl (fun K hK => ?_) (AllReadyIn.cons rfl (fun K hK => ?_) AllReadyIn.nil))
          · go_simp
            refine hK _ _ ?_
            clear hK K
            refine wpAnyIn_ready (rs := [6]) (by kernel_rfl) (by simp) (AllReadyIn.cons rfl (fun K hK => ?_) AllReadyIn.nil)
            go_simp
            gi_wp2_with ((gi_at_call 39; refine ((callsIn_wide (n := _)).2 (H39.out _)).mono ?_; rintro e W2 ⟨rfl, hB⟩; have hB2 : Below W1.heap.size W1 W2 := (Below.refl _ W1).drew.trans hB; clear hB; have g0 := cell_below y0 hB2; have g1 := cell_below y1 hB2; have g2 := cell_below y2 hB2; have g3 := cell_below y3 hB2; have gp := cell_below yp hB2; have gs4 := cell_below ys4 hB2; have gs5 := cell_below ys5 hB2))
            refine wpAnyIn_ready (rs := [7]) (by kernel_rfl) (by simp) (AllReadyIn.cons rfl (fun K hK => ?_) AllReadyIn.nil)
            go_simp
            gi_wp2_with ((gi_at_call 38; refine ((callsIn_wide (n := _)).2 (H38.out _)).mono ?_; rintro e W3 ⟨rfl, hB⟩; have hB3 : Below W1.heap.size W1 W3 := hB2.trans (hB.mono hB2.size); clear hB; have kp := cell_below yp hB3; have k4 := cell_below ys4 hB3; have k5 := cell_below ys5 hB3; have kf : ∀ i, W3.frozen? ⟨M + 3, i, none⟩ = false := fun i => (hB3.frozen (p := ⟨M + 3, i, none⟩) hl3).trans (yf i)))
            refine wpAnyIn_take (i := 8) (v := .pointer (some ⟨M + 3, 0, none⟩)) rfl rfl (by kernel_rfl) (by kernel_rfl) (by kernel_rfl) (fun _ _ _ h => h) ⟨Or.inl ⟨by rfl, by intro w; go_simp⟩, fun _ => rfl⟩ ?_
            refine wpAnyIn_take (i := 9) (v := .pointer (some ⟨M + 3, 4, none⟩)) rfl rfl (by kernel_rfl) (by kernel_rfl) (by kernel_rfl) (fun _ _ _ h => h) ⟨Or.inl ⟨by rfl, by intro w; go_simp⟩, fun _ => rfl⟩ ?_
            refine wpAnyIn_ready (rs := [10]) (by kernel_rfl) (by simp) (AllReadyIn.cons rfl (fun K hK => ?_) AllReadyIn.nil)
            go_simp
            refine hK _ _ ?_
            clear hK K
            refine wpAnyIn_done (by kernel_rfl) ?_ _
            gi_wp2
            rw [hz4]
            exact HFin.out _ hB3
          · go_simp
            gi_wp2_with ((gi_at_call 39; refine ((callsIn_wide (n := _)).2 (H39.out _)).mono ?_; rintro e W2 ⟨rfl, hB⟩; have hB2 : Below W1.heap.size W1 W2 := (Below.refl _ W1).drew.trans hB; clear hB; have g0 := cell_below y0 hB2; have g1 := cell_below y1 hB2; have g2 := cell_below y2 hB2; have g3 := cell_below y3 hB2; have gp := cell_below yp hB2; have gs4 := cell_below ys4 hB2; have gs5 := cell_below ys5 hB2))
            refine wpAnyIn_ready (rs := [4]) (by kernel_rfl) (by simp) (AllReadyIn.cons rfl (fun K hK => ?_) AllReadyIn.nil)
            go_simp
            refine hK _ _ ?_
            clear hK K
            refine wpAnyIn_ready (rs := [7]) (by kernel_rfl) (by simp) (AllReadyIn.cons rfl (fun K hK => ?_) AllReadyIn.nil)
            go_simp
            gi_wp2_with ((gi_at_call 38; refine ((callsIn_wide (n := _)).2 (H38.out _)).mono ?_; rintro e W3 ⟨rfl, hB⟩; have hB3 : Below W1.heap.size W1 W3 := hB2.trans (hB.mono hB2.size); clear hB; have kp := cell_below yp hB3; have k4 := cell_below ys4 hB3; have k5 := cell_below ys5 hB3; have kf : ∀ i, W3.frozen? ⟨M + 3, i, none⟩ = false := fun i => (hB3.frozen (p := ⟨M + 3, i, none⟩) hl3).trans (yf i)))
            refine wpAnyIn_take (i := 8) (v := .pointer (some ⟨M + 3, 0, none⟩)) rfl rfl (by kernel_rfl) (by kernel_rfl) (by kernel_rfl) (fun _ _ _ h => h) ⟨Or.inl ⟨by rfl, by intro w; go_simp⟩, fun _ => rfl⟩ ?_
            refine wpAnyIn_take (i := 9) (v := .pointer (some ⟨M + 3, 4, none⟩)) rfl rfl (by kernel_rfl) (by kernel_rfl) (by kernel_rfl) (fun _ _ _ h => h) ⟨Or.inl ⟨by rfl, by intro w; go_simp⟩, fun _ => rfl⟩ ?_
            refine wpAnyIn_ready (rs := [10]) (by kernel_rfl) (by simp) (AllReadyIn.cons rfl (fun K hK => ?_) AllReadyIn.nil)
            go_simp
            refine hK _ _ ?_
            clear hK K
            refine wpAnyIn_done (by kernel_rfl) ?_ _
            gi_wp2
            rw [hz4]
            exact HFin.out _ hB3
      · go_simp
        refine hK _ _ ?_
        clear hK K
        refine wpAnyIn_ready (rs := [1, 6]) (by kernel_rfl) (by simp) (AllReadyIn.cons rfl (fun K hK => ?_) (AllReadyIn.cons rfl (fun K hK => ?_) AllReadyIn.nil))
        · go_simp
          refine hK _ _ ?_
          clear hK K
          refine wpAnyIn_take (i := 2) (v := .pointer (some ⟨M + 3, 0, none⟩)) rfl rfl (by kernel_rfl) (by kernel_rfl) (by kernel_rfl) (fun _ _ _ h => h) ⟨Or.inl ⟨by rfl, by intro w; go_simp⟩, fun _ => rfl⟩ ?_
          refine wpAnyIn_take (i := 3) (v := .pointer (some ⟨M + 3, 4, none⟩)) rfl rfl (by kernel_rfl) (by kernel_rfl) (by kernel_rfl) (fun _ _ _ h => h) ⟨Or.inl ⟨by rfl, by intro w; go_simp⟩, fun _ => rfl⟩ ?_
          refine wpAnyIn_ready (rs := [4, 6]) (by kernel_rfl) (by simp) (AllReadyIn.cons rfl (fun K hK => ?_) (AllReadyIn.cons rfl (fun K hK => ?_) AllReadyIn.nil))
          · go_simp
            refine hK _ _ ?_
            clear hK K
            refine wpAnyIn_ready (rs := [6]) (by kernel_rfl) (by simp) (AllReadyIn.cons rfl (fun K hK => ?_) AllReadyIn.nil)
            go_simp
            gi_wp2_with ((gi_at_call 39; refine ((callsIn_wide (n := _)).2 (H39.out _)).mono ?_; rintro e W2 ⟨rfl, hB⟩; have hB2 : Below W1.heap.size W1 W2 := (Below.refl _ W1).drew.trans hB; clear hB; have g0 := cell_below y0 hB2; have g1 := cell_below y1 hB2; have g2 := cell_below y2 hB2; have g3 := cell_below y3 hB2; have gp := cell_below yp hB2; have gs4 := cell_below ys4 hB2; have gs5 := cell_below ys5 hB2))
            refine wpAnyIn_ready (rs := [7]) (by kernel_rfl) (by simp) (AllReadyIn.cons rfl (fun K hK => ?_) AllReadyIn.nil)
            go_simp
            gi_wp2_with ((gi_at_call 38; refine ((callsIn_wide (n := _)).2 (H38.out _)).mono ?_; rintro e W3 ⟨rfl, hB⟩; have hB3 : Below W1.heap.size W1 W3 := hB2.trans (hB.mono hB2.size); clear hB; have kp := cell_below yp hB3; have k4 := cell_below ys4 hB3; have k5 := cell_below ys5 hB3; have kf : ∀ i, W3.frozen? ⟨M + 3, i, none⟩ = false := fun i => (hB3.frozen (p := ⟨M + 3, i, none⟩) hl3).trans (yf i)))
            refine wpAnyIn_take (i := 8) (v := .pointer (some ⟨M + 3, 0, none⟩)) rfl rfl (by kernel_rfl) (by kernel_rfl) (by kernel_rfl) (fun _ _ _ h => h) ⟨Or.inl ⟨by rfl, by intro w; go_simp⟩, fun _ => rfl⟩ ?_
            refine wpAnyIn_take (i := 9) (v := .pointer (some ⟨M + 3, 4, none⟩)) rfl rfl (by kernel_rfl) (by kernel_rfl) (by kernel_rfl) (fun _ _ _ h => h) ⟨Or.inl ⟨by rfl, by intro w; go_simp⟩, fun _ => rfl⟩ ?_
            refine wpAnyIn_ready (rs := [10]) (by kernel_rfl) (by simp) (AllReadyIn.cons rfl (fun K hK => ?_) AllReadyIn.nil)
            go_simp
            refine hK _ _ ?_
            clear hK K
            refine wpAnyIn_done (by kernel_rfl) ?_ _
            gi_wp2
            rw [hz4]
            exact HFin.out _ hB3
          · go_simp
            gi_wp2_with ((gi_at_call 39; refine ((callsIn_wide (n := _)).2 (H39.out _)).mono ?_; rintro e W2 ⟨rfl, hB⟩; have hB2 : Below W1.heap.size W1 W2 := (Below.refl _ W1).drew.trans hB; clear hB; have g0 := cell_below y0 hB2; have g1 := cell_below y1 hB2; have g2 := cell_below y2 hB2; have g3 := cell_below y3 hB2; have gp := cell_below yp hB2; have gs4 := cell_below ys4 hB2; have gs5 := cell_below ys5 hB2))
            refine wpAnyIn_ready (rs := [4]) (by kernel_rfl) (by simp) (AllReadyIn.cons rfl (fun K hK => ?_) AllReadyIn.nil)
            go_simp
            refine hK _ _ ?_
            clear hK K
            refine wpAnyIn_ready (rs := [7]) (by kernel_rfl) (by simp) (AllReadyIn.cons rfl (fun K hK => ?_) AllReadyIn.nil)
            go_simp
            gi_wp2_with ((gi_at_call 38; refine ((callsIn_wide (n := _)).2 (H38.out _)).mono ?_; rintro e W3 ⟨rfl, hB⟩; have hB3 : Below W1.heap.size W1 W3 := hB2.trans (hB.mono hB2.size); clear hB; have kp := cell_below yp hB3; have k4 := cell_below ys4 hB3; have k5 := cell_below ys5 hB3; have kf : ∀ i, W3.frozen? ⟨M + 3, i, none⟩ = false := fun i => (hB3.frozen (p := ⟨M + 3, i, none⟩) hl3).trans (yf i)))
            refine wpAnyIn_take (i := 8) (v := .pointer (some ⟨M + 3, 0, none⟩)) rfl rfl (by kernel_rfl) (by kernel_rfl) (by kernel_rfl) (fun _ _ _ h => h) ⟨Or.inl ⟨by rfl, by intro w; go_simp⟩, fun _ => rfl⟩ ?_
            refine wpAnyIn_take (i := 9) (v := .pointer (some ⟨M + 3, 4, none⟩)) rfl rfl (by kernel_rfl) (by kernel_rfl) (by kernel_rfl) (fun _ _ _ h => h) ⟨Or.inl ⟨by rfl, by intro w; go_simp⟩, fun _ => rfl⟩ ?_
            refine wpAnyIn_ready (rs := [10]) (by kernel_rfl) (by simp) (AllReadyIn.cons rfl (fun K hK => ?_) AllReadyIn.nil)
            go_simp
            refine hK _ _ ?_
            clear hK K
            refine wpAnyIn_done (by kernel_rfl) ?_ _
            gi_wp2
            rw [hz4]
            exact HFin.out _ hB3
        · go_simp
          gi_wp2_with ((gi_at_call 39; refine ((callsIn_wide (n := _)).2 (H39.out _)).mono ?_; rintro e W2 ⟨rfl, hB⟩; have hB2 : Below W1.heap.size W1 W2 := (Below.refl _ W1).drew.trans hB; clear hB; have g0 := cell_below y0 hB2; have g1 := cell_below y1 hB2; have g2 := cell_below y2 hB2; have g3 := cell_below y3 hB2; have gp := cell_below yp hB2; have gs4 := cell_below ys4 hB2; have gs5 := cell_below ys5 hB2))
          refine wpAnyIn_ready (rs := [1]) (by kernel_rfl) (by simp) (AllReadyIn.cons rfl (fun K hK => ?_) AllReadyIn.nil)
          go_simp
          refine hK _ _ ?_
          clear hK K
          refine wpAnyIn_take (i := 2) (v := .pointer (some ⟨M + 3, 0, none⟩)) rfl rfl (by kernel_rfl) (by kernel_rfl) (by kernel_rfl) (fun _ _ _ h => h) ⟨Or.inl ⟨by rfl, by intro w; go_simp⟩, fun _ => rfl⟩ ?_
          refine wpAnyIn_take (i := 3) (v := .pointer (some ⟨M + 3, 4, none⟩)) rfl rfl (by kernel_rfl) (by kernel_rfl) (by kernel_rfl) (fun _ _ _ h => h) ⟨Or.inl ⟨by rfl, by intro w; go_simp⟩, fun _ => rfl⟩ ?_
          refine wpAnyIn_ready (rs := [4]) (by kernel_rfl) (by simp) (AllReadyIn.cons rfl (fun K hK => ?_) AllReadyIn.nil)
          go_simp
          refine hK _ _ ?_
          clear hK K
          refine wpAnyIn_ready (rs := [7]) (by kernel_rfl) (by simp) (AllReadyIn.cons rfl (fun K hK => ?_) AllReadyIn.nil)
          go_simp
          gi_wp2_with ((gi_at_call 38; refine ((callsIn_wide (n := _)).2 (H38.out _)).mono ?_; rintro e W3 ⟨rfl, hB⟩; have hB3 : Below W1.heap.size W1 W3 := hB2.trans (hB.mono hB2.size); clear hB; have kp := cell_below yp hB3; have k4 := cell_below ys4 hB3; have k5 := cell_below ys5 hB3; have kf : ∀ i, W3.frozen? ⟨M + 3, i, none⟩ = false := fun i => (hB3.frozen (p := ⟨M + 3, i, none⟩) hl3).trans (yf i)))
          refine wpAnyIn_take (i := 8) (v := .pointer (some ⟨M + 3, 0, none⟩)) rfl rfl (by kernel_rfl) (by kernel_rfl) (by kernel_rfl) (fun _ _ _ h => h) ⟨Or.inl ⟨by rfl, by intro w; go_simp⟩, fun _ => rfl⟩ ?_
          refine wpAnyIn_take (i := 9) (v := .pointer (some ⟨M + 3, 4, none⟩)) rfl rfl (by kernel_rfl) (by kernel_rfl) (by kernel_rfl) (fun _ _ _ h => h) ⟨Or.inl ⟨by rfl, by intro w; go_simp⟩, fun _ => rfl⟩ ?_
          refine wpAnyIn_ready (rs := [10]) (by kernel_rfl) (by simp) (AllReadyIn.cons rfl (fun K hK => ?_) AllReadyIn.nil)
          go_simp
          refine hK _ _ ?_
          clear hK K
          refine wpAnyIn_done (by kernel_rfl) ?_ _
          gi_wp2
          rw [hz4]
          exact HFin.out _ hB3
    · go_simp
      refine hK _ _ ?_
      clear hK K
      refine wpAnyIn_take (i := 2) (v := .pointer (some ⟨M + 3, 0, none⟩)) rfl rfl (by kernel_rfl) (by kernel_rfl) (by kernel_rfl) (fun _ _ _ h => h) ⟨Or.inl ⟨by rfl, by intro w; go_simp⟩, fun _ => rfl⟩ ?_
      refine wpAnyIn_take (i := 3) (v := .pointer (some ⟨M + 3, 4, none⟩)) rfl rfl (by kernel_rfl) (by kernel_rfl) (by kernel_rfl) (fun _ _ _ h => h) ⟨Or.inl ⟨by rfl, by intro w; go_simp⟩, fun _ => rfl⟩ ?_
      refine wpAnyIn_ready (rs := [0, 4, 5]) (by kernel_rfl) (by simp) (AllReadyIn.cons rfl (fun K hK => ?_) (AllReadyIn.cons rfl (fun K hK => ?_) (AllReadyIn.cons rfl (fun K hK => ?_) AllReadyIn.nil)))
      · go_simp
        refine hK _ _ ?_
        clear hK K
        refine wpAnyIn_ready (rs := [4, 5]) (by kernel_rfl) (by simp) (AllReadyIn.cons rfl (fun K hK => ?_) (AllReadyIn.cons rfl (fun K hK => ?_) AllReadyIn.nil))
        · go_simp
          refine hK _ _ ?_
          clear hK K
          refine wpAnyIn_ready (rs := [5]) (by kernel_rfl) (by simp) (AllReadyIn.cons rfl (fun K hK => ?_) AllReadyIn.nil)
          go_simp
          refine hK _ _ ?_
          clear hK K
          refine wpAnyIn_ready (rs := [6]) (by kernel_rfl) (by simp) (AllReadyIn.cons rfl (fun K hK => ?_) AllReadyIn.nil)
          go_simp
          gi_wp2_with ((gi_at_call 39; refine ((callsIn_wide (n := _)).2 (H39.out _)).mono ?_; rintro e W2 ⟨rfl, hB⟩; have hB2 : Below W1.heap.size W1 W2 := (Below.refl _ W1).drew.trans hB; clear hB; have g0 := cell_below y0 hB2; have g1 := cell_below y1 hB2; have g2 := cell_below y2 hB2; have g3 := cell_below y3 hB2; have gp := cell_below yp hB2; have gs4 := cell_below ys4 hB2; have gs5 := cell_below ys5 hB2))
          refine wpAnyIn_ready (rs := [7]) (by kernel_rfl) (by simp) (AllReadyIn.cons rfl (fun K hK => ?_) AllReadyIn.nil)
          go_simp
          gi_wp2_with ((gi_at_call 38; refine ((callsIn_wide (n := _)).2 (H38.out _)).mono ?_; rintro e W3 ⟨rfl, hB⟩; have hB3 : Below W1.heap.size W1 W3 := hB2.trans (hB.mono hB2.size); clear hB; have kp := cell_below yp hB3; have k4 := cell_below ys4 hB3; have k5 := cell_below ys5 hB3; have kf : ∀ i, W3.frozen? ⟨M + 3, i, none⟩ = false := fun i => (hB3.frozen (p := ⟨M + 3, i, none⟩) hl3).trans (yf i)))
          refine wpAnyIn_take (i := 8) (v := .pointer (some ⟨M + 3, 0, none⟩)) rfl rfl (by kernel_rfl) (by kernel_rfl) (by kernel_rfl) (fun _ _ _ h => h) ⟨Or.inl ⟨by rfl, by intro w; go_simp⟩, fun _ => rfl⟩ ?_
          refine wpAnyIn_take (i := 9) (v := .pointer (some ⟨M + 3, 4, none⟩)) rfl rfl (by kernel_rfl) (by kernel_rfl) (by kernel_rfl) (fun _ _ _ h => h) ⟨Or.inl ⟨by rfl, by intro w; go_simp⟩, fun _ => rfl⟩ ?_
          refine wpAnyIn_ready (rs := [10]) (by kernel_rfl) (by simp) (AllReadyIn.cons rfl (fun K hK => ?_) AllReadyIn.nil)
          go_simp
          refine hK _ _ ?_
          clear hK K
          refine wpAnyIn_done (by kernel_rfl) ?_ _
          gi_wp2
          rw [hz4]
          exact HFin.out _ hB3
        · go_simp
          refine hK _ _ ?_
          clear hK K
          refine wpAnyIn_ready (rs := [4, 6]) (by kernel_rfl) (by simp) (AllReadyIn.cons rfl (fun K hK => ?_) (AllReadyIn.cons rfl (fun K hK => ?_) AllReadyIn.nil))
          · go_simp
            refine hK _ _ ?_
            clear hK K
            refine wpAnyIn_ready (rs := [6]) (by kernel_rfl) (by simp) (AllReadyIn.cons rfl (fun K hK => ?_) AllReadyIn.nil)
            go_simp
            gi_wp2_with ((gi_at_call 39; refine ((callsIn_wide (n := _)).2 (H39.out _)).mono ?_; rintro e W2 ⟨rfl, hB⟩; have hB2 : Below W1.heap.size W1 W2 := (Below.refl _ W1).drew.trans hB; clear hB; have g0 := cell_below y0 hB2; have g1 := cell_below y1 hB2; have g2 := cell_below y2 hB2; have g3 := cell_below y3 hB2; have gp := cell_below yp hB2; have gs4 := cell_below ys4 hB2; have gs5 := cell_below ys5 hB2))
            refine wpAnyIn_ready (rs := [7]) (by kernel_rfl) (by simp) (AllReadyIn.cons rfl (fun K hK => ?_) AllReadyIn.nil)
            go_simp
            gi_wp2_with ((gi_at_call 38; refine ((callsIn_wide (n := _)).2 (H38.out _)).mono ?_; rintro e W3 ⟨rfl, hB⟩; have hB3 : Below W1.heap.size W1 W3 := hB2.trans (hB.mono hB2.size); clear hB; have kp := cell_below yp hB3; have k4 := cell_below ys4 hB3; have k5 := cell_below ys5 hB3; have kf : ∀ i, W3.frozen? ⟨M + 3, i, none⟩ = false := fun i => (hB3.frozen (p := ⟨M + 3, i, none⟩) hl3).trans (yf i)))
            refine wpAnyIn_take (i := 8) (v := .pointer (some ⟨M + 3, 0, none⟩)) rfl rfl (by kernel_rfl) (by kernel_rfl) (by kernel_rfl) (fun _ _ _ h => h) ⟨Or.inl ⟨by rfl, by intro w; go_simp⟩, fun _ => rfl⟩ ?_
            refine wpAnyIn_take (i := 9) (v := .pointer (some ⟨M + 3, 4, none⟩)) rfl rfl (by kernel_rfl) (by kernel_rfl) (by kernel_rfl) (fun _ _ _ h => h) ⟨Or.inl ⟨by rfl, by intro w; go_simp⟩, fun _ => rfl⟩ ?_
            refine wpAnyIn_ready (rs := [10]) (by kernel_rfl) (by simp) (AllReadyIn.cons rfl (fun K hK => ?_) AllReadyIn.nil)
            go_simp
            refine hK _ _ ?_
            clear hK K
            refine wpAnyIn_done (by kernel_rfl) ?_ _
            gi_wp2
            rw [hz4]
            exact HFin.out _ hB3
          · go_simp
            gi_wp2_with ((gi_at_call 39; refine ((callsIn_wide (n := _)).2 (H39.out _)).mono ?_; rintro e W2 ⟨rfl, hB⟩; have hB2 : Below W1.heap.size W1 W2 := (Below.refl _ W1).drew.trans hB; clear hB; have g0 := cell_below y0 hB2; have g1 := cell_below y1 hB2; have g2 := cell_below y2 hB2; have g3 := cell_below y3 hB2; have gp := cell_below yp hB2; have gs4 := cell_below ys4 hB2; have gs5 := cell_below ys5 hB2))
            refine wpAnyIn_ready (rs := [4]) (by kernel_rfl) (by simp) (AllReadyIn.cons rfl (fun K hK => ?_) AllReadyIn.nil)
            go_simp
            refine hK _ _ ?_
            clear hK K
            refine wpAnyIn_ready (rs := [7]) (by kernel_rfl) (by simp) (AllReadyIn.cons rfl (fun K hK => ?_) AllReadyIn.nil)
            go_simp
            gi_wp2_with ((gi_at_call 38; refine ((callsIn_wide (n := _)).2 (H38.out _)).mono ?_; rintro e W3 ⟨rfl, hB⟩; have hB3 : Below W1.heap.size W1 W3 := hB2.trans (hB.mono hB2.size); clear hB; have kp := cell_below yp hB3; have k4 := cell_below ys4 hB3; have k5 := cell_below ys5 hB3; have kf : ∀ i, W3.frozen? ⟨M + 3, i, none⟩ = false := fun i => (hB3.frozen (p := ⟨M + 3, i, none⟩) hl3).trans (yf i)))
            refine wpAnyIn_take (i := 8) (v := .pointer (some ⟨M + 3, 0, none⟩)) rfl rfl (by kernel_rfl) (by kernel_rfl) (by kernel_rfl) (fun _ _ _ h => h) ⟨Or.inl ⟨by rfl, by intro w; go_simp⟩, fun _ => rfl⟩ ?_
            refine wpAnyIn_take (i := 9) (v := .pointer (some ⟨M + 3, 4, none⟩)) rfl rfl (by kernel_rfl) (by kernel_rfl) (by kernel_rfl) (fun _ _ _ h => h) ⟨Or.inl ⟨by rfl, by intro w; go_simp⟩, fun _ => rfl⟩ ?_
            refine wpAnyIn_ready (rs := [10]) (by kernel_rfl) (by simp) (AllReadyIn.cons rfl (fun K hK => ?_) AllReadyIn.nil)
            go_simp
            refine hK _ _ ?_
            clear hK K
            refine wpAnyIn_done (by kernel_rfl) ?_ _
            gi_wp2
            rw [hz4]
            exact HFin.out _ hB3
      · go_simp
        refine hK _ _ ?_
        clear hK K
        refine wpAnyIn_ready (rs := [0, 5]) (by kernel_rfl) (by simp) (AllReadyIn.cons rfl (fun K hK => ?_) (AllReadyIn.cons rfl (fun K hK => ?_) AllReadyIn.nil))
        · go_simp
          refine hK _ _ ?_
          clear hK K
          refine wpAnyIn_ready (rs := [5]) (by kernel_rfl) (by simp) (AllReadyIn.cons rfl (fun K hK => ?_) AllReadyIn.nil)
          go_simp
          refine hK _ _ ?_
          clear hK K
          refine wpAnyIn_ready (rs := [6]) (by kernel_rfl) (by simp) (AllReadyIn.cons rfl (fun K hK => ?_) AllReadyIn.nil)
          go_simp
          gi_wp2_with ((gi_at_call 39; refine ((callsIn_wide (n := _)).2 (H39.out _)).mono ?_; rintro e W2 ⟨rfl, hB⟩; have hB2 : Below W1.heap.size W1 W2 := (Below.refl _ W1).drew.trans hB; clear hB; have g0 := cell_below y0 hB2; have g1 := cell_below y1 hB2; have g2 := cell_below y2 hB2; have g3 := cell_below y3 hB2; have gp := cell_below yp hB2; have gs4 := cell_below ys4 hB2; have gs5 := cell_below ys5 hB2))
          refine wpAnyIn_ready (rs := [7]) (by kernel_rfl) (by simp) (AllReadyIn.cons rfl (fun K hK => ?_) AllReadyIn.nil)
          go_simp
          gi_wp2_with ((gi_at_call 38; refine ((callsIn_wide (n := _)).2 (H38.out _)).mono ?_; rintro e W3 ⟨rfl, hB⟩; have hB3 : Below W1.heap.size W1 W3 := hB2.trans (hB.mono hB2.size); clear hB; have kp := cell_below yp hB3; have k4 := cell_below ys4 hB3; have k5 := cell_below ys5 hB3; have kf : ∀ i, W3.frozen? ⟨M + 3, i, none⟩ = false := fun i => (hB3.frozen (p := ⟨M + 3, i, none⟩) hl3).trans (yf i)))
          refine wpAnyIn_take (i := 8) (v := .pointer (some ⟨M + 3, 0, none⟩)) rfl rfl (by kernel_rfl) (by kernel_rfl) (by kernel_rfl) (fun _ _ _ h => h) ⟨Or.inl ⟨by rfl, by intro w; go_simp⟩, fun _ => rfl⟩ ?_
          refine wpAnyIn_take (i := 9) (v := .pointer (some ⟨M + 3, 4, none⟩)) rfl rfl (by kernel_rfl) (by kernel_rfl) (by kernel_rfl) (fun _ _ _ h => h) ⟨Or.inl ⟨by rfl, by intro w; go_simp⟩, fun _ => rfl⟩ ?_
          refine wpAnyIn_ready (rs := [10]) (by kernel_rfl) (by simp) (AllReadyIn.cons rfl (fun K hK => ?_) AllReadyIn.nil)
          go_simp
          refine hK _ _ ?_
          clear hK K
          refine wpAnyIn_done (by kernel_rfl) ?_ _
          gi_wp2
          rw [hz4]
          exact HFin.out _ hB3
        · go_simp
          refine hK _ _ ?_
          clear hK K
          refine wpAnyIn_ready (rs := [0, 6]) (by kernel_rfl) (by simp) (AllReadyIn.cons rfl (fun K hK => ?_) (AllReadyIn.cons rfl (fun K hK => ?_) AllReadyIn.nil))
          · go_simp
            refine hK _ _ ?_
            clear hK K
            refine wpAnyIn_ready (rs := [6]) (by kernel_rfl) (by simp) (AllReadyIn.cons rfl (fun K hK => ?_) AllReadyIn.nil)
            go_simp
            gi_wp2_with ((gi_at_call 39; refine ((callsIn_wide (n := _)).2 (H39.out _)).mono ?_; rintro e W2 ⟨rfl, hB⟩; have hB2 : Below W1.heap.size W1 W2 := (Below.refl _ W1).drew.trans hB; clear hB; have g0 := cell_below y0 hB2; have g1 := cell_below y1 hB2; have g2 := cell_below y2 hB2; have g3 := cell_below y3 hB2; have gp := cell_below yp hB2; have gs4 := cell_below ys4 hB2; have gs5 := cell_below ys5 hB2))
            refine wpAnyIn_ready (rs := [7]) (by kernel_rfl) (by simp) (AllReadyIn.cons rfl (fun K hK => ?_) AllReadyIn.nil)
            go_simp
            gi_wp2_with ((gi_at_call 38; refine ((callsIn_wide (n := _)).2 (H38.out _)).mono ?_; rintro e W3 ⟨rfl, hB⟩; have hB3 : Below W1.heap.size W1 W3 := hB2.trans (hB.mono hB2.size); clear hB; have kp := cell_below yp hB3; have k4 := cell_below ys4 hB3; have k5 := cell_below ys5 hB3; have kf : ∀ i, W3.frozen? ⟨M + 3, i, none⟩ = false := fun i => (hB3.frozen (p := ⟨M + 3, i, none⟩) hl3).trans (yf i)))
            refine wpAnyIn_take (i := 8) (v := .pointer (some ⟨M + 3, 0, none⟩)) rfl rfl (by kernel_rfl) (by kernel_rfl) (by kernel_rfl) (fun _ _ _ h => h) ⟨Or.inl ⟨by rfl, by intro w; go_simp⟩, fun _ => rfl⟩ ?_
            refine wpAnyIn_take (i := 9) (v := .pointer (some ⟨M + 3, 4, none⟩)) rfl rfl (by kernel_rfl) (by kernel_rfl) (by kernel_rfl) (fun _ _ _ h => h) ⟨Or.inl ⟨by rfl, by intro w; go_simp⟩, fun _ => rfl⟩ ?_
            refine wpAnyIn_ready (rs := [10]) (by kernel_rfl) (by simp) (AllReadyIn.cons rfl (fun K hK => ?_) AllReadyIn.nil)
            go_simp
            refine hK _ _ ?_
            clear hK K
            refine wpAnyIn_done (by kernel_rfl) ?_ _
            gi_wp2
            rw [hz4]
            exact HFin.out _ hB3
          · go_simp
            gi_wp2_with ((gi_at_call 39; refine ((callsIn_wide (n := _)).2 (H39.out _)).mono ?_; rintro e W2 ⟨rfl, hB⟩; have hB2 : Below W1.heap.size W1 W2 := (Below.refl _ W1).drew.trans hB; clear hB; have g0 := cell_below y0 hB2; have g1 := cell_below y1 hB2; have g2 := cell_below y2 hB2; have g3 := cell_below y3 hB2; have gp := cell_below yp hB2; have gs4 := cell_below ys4 hB2; have gs5 := cell_below ys5 hB2))
            refine wpAnyIn_ready (rs := [0, 7]) (by kernel_rfl) (by simp) (AllReadyIn.cons rfl (fun K hK => ?_) (AllReadyIn.cons rfl (fun K hK => ?_) AllReadyIn.nil))
            · go_simp
              refine hK _ _ ?_
              clear hK K
              refine wpAnyIn_ready (rs := [7]) (by kernel_rfl) (by simp) (AllReadyIn.cons rfl (fun K hK => ?_) AllReadyIn.nil)
              go_simp
              gi_wp2_with ((gi_at_call 38; refine ((callsIn_wide (n := _)).2 (H38.out _)).mono ?_; rintro e W3 ⟨rfl, hB⟩; have hB3 : Below W1.heap.size W1 W3 := hB2.trans (hB.mono hB2.size); clear hB; have kp := cell_below yp hB3; have k4 := cell_below ys4 hB3; have k5 := cell_below ys5 hB3; have kf : ∀ i, W3.frozen? ⟨M + 3, i, none⟩ = false := fun i => (hB3.frozen (p := ⟨M + 3, i, none⟩) hl3).trans (yf i)))
              refine wpAnyIn_take (i := 8) (v := .pointer (some ⟨M + 3, 0, none⟩)) rfl rfl (by kernel_rfl) (by kernel_rfl) (by kernel_rfl) (fun _ _ _ h => h) ⟨Or.inl ⟨by rfl, by intro w; go_simp⟩, fun _ => rfl⟩ ?_
              refine wpAnyIn_take (i := 9) (v := .pointer (some ⟨M + 3, 4, none⟩)) rfl rfl (by kernel_rfl) (by kernel_rfl) (by kernel_rfl) (fun _ _ _ h => h) ⟨Or.inl ⟨by rfl, by intro w; go_simp⟩, fun _ => rfl⟩ ?_
              refine wpAnyIn_ready (rs := [10]) (by kernel_rfl) (by simp) (AllReadyIn.cons rfl (fun K hK => ?_) AllReadyIn.nil)
              go_simp
              refine hK _ _ ?_
              clear hK K
              refine wpAnyIn_done (by kernel_rfl) ?_ _
              gi_wp2
              rw [hz4]
              exact HFin.out _ hB3
            · go_simp
              gi_wp2_with ((gi_at_call 38; refine ((callsIn_wide (n := _)).2 (H38.out _)).mono ?_; rintro e W3 ⟨rfl, hB⟩; have hB3 : Below W1.heap.size W1 W3 := hB2.trans (hB.mono hB2.size); clear hB; have kp := cell_below yp hB3; have k4 := cell_below ys4 hB3; have k5 := cell_below ys5 hB3; have kf : ∀ i, W3.frozen? ⟨M + 3, i, none⟩ = false := fun i => (hB3.frozen (p := ⟨M + 3, i, none⟩) hl3).trans (yf i)))
              refine wpAnyIn_ready (rs := [0]) (by kernel_rfl) (by simp) (AllReadyIn.cons rfl (fun K hK => ?_) AllReadyIn.nil)
              go_simp
              refine hK _ _ ?_
              clear hK K
              refine wpAnyIn_take (i := 8) (v := .pointer (some ⟨M + 3, 0, none⟩)) rfl rfl (by kernel_rfl) (by kernel_rfl) (by kernel_rfl) (fun _ _ _ h => h) ⟨Or.inl ⟨by rfl, by intro w; go_simp⟩, fun _ => rfl⟩ ?_
              refine wpAnyIn_take (i := 9) (v := .pointer (some ⟨M + 3, 4, none⟩)) rfl rfl (by kernel_rfl) (by kernel_rfl) (by kernel_rfl) (fun _ _ _ h => h) ⟨Or.inl ⟨by rfl, by intro w; go_simp⟩, fun _ => rfl⟩ ?_
              refine wpAnyIn_ready (rs := [10]) (by kernel_rfl) (by simp) (AllReadyIn.cons rfl (fun K hK => ?_) AllReadyIn.nil)
              go_simp
              refine hK _ _ ?_
              clear hK K
              refine wpAnyIn_done (by kernel_rfl) ?_ _
              gi_wp2
              rw [hz4]
              exact HFin.out _ hB3
      · go_simp
        refine hK _ _ ?_
        clear hK K
        refine wpAnyIn_ready (rs := [0, 4, 6]) (by kernel_rfl) (by simp) (AllReadyIn.cons rfl (fun K hK => ?_) (AllReadyIn.cons rfl (fun K hK => ?_) (AllReadyIn.cons rfl (fun K hK => ?_) AllReadyIn.nil)))
        · go_simp
          refine hK _ _ ?_
          clear hK K
          refine wpAnyIn_ready (rs := [4, 6]) (by kernel_rfl) (by simp) (AllReadyIn.cons rfl (fun K hK => ?_) (AllReadyIn.cons rfl (fun K hK => ?_) AllReadyIn.nil))
          · go_simp
            refine hK _ _ ?_
            clear hK K
            refine wpAnyIn_ready (rs := [6]) (by kernel_rfl) (by simp) (AllReadyIn.cons rfl (fun K hK => ?_) AllReadyIn.nil)
            go_simp
            gi_wp2_with ((gi_at_call 39; refine ((callsIn_wide (n := _)).2 (H39.out _)).mono ?_; rintro e W2 ⟨rfl, hB⟩; have hB2 : Below W1.heap.size W1 W2 := (Below.refl _ W1).drew.trans hB; clear hB; have g0 := cell_below y0 hB2; have g1 := cell_below y1 hB2; have g2 := cell_below y2 hB2; have g3 := cell_below y3 hB2; have gp := cell_below yp hB2; have gs4 := cell_below ys4 hB2; have gs5 := cell_below ys5 hB2))
            refine wpAnyIn_ready (rs := [7]) (by kernel_rfl) (by simp) (AllReadyIn.cons rfl (fun K hK => ?_) AllReadyIn.nil)
            go_simp
            gi_wp2_with ((gi_at_call 38; refine ((callsIn_wide (n := _)).2 (H38.out _)).mono ?_; rintro e W3 ⟨rfl, hB⟩; have hB3 : Below W1.heap.size W1 W3 := hB2.trans (hB.mono hB2.size); clear hB; have kp := cell_below yp hB3; have k4 := cell_below ys4 hB3; have k5 := cell_below ys5 hB3; have kf : ∀ i, W3.frozen? ⟨M + 3, i, none⟩ = false := fun i => (hB3.frozen (p := ⟨M + 3, i, none⟩) hl3).trans (yf i)))
            refine wpAnyIn_take (i := 8) (v := .pointer (some ⟨M + 3, 0, none⟩)) rfl rfl (by kernel_rfl) (by kernel_rfl) (by kernel_rfl) (fun _ _ _ h => h) ⟨Or.inl ⟨by rfl, by intro w; go_simp⟩, fun _ => rfl⟩ ?_
            refine wpAnyIn_take (i := 9) (v := .pointer (some ⟨M + 3, 4, none⟩)) rfl rfl (by kernel_rfl) (by kernel_rfl) (by kernel_rfl) (fun _ _ _ h => h) ⟨Or.inl ⟨by rfl, by intro w; go_simp⟩, fun _ => rfl⟩ ?_
            refine wpAnyIn_ready (rs := [10]) (by kernel_rfl) (by simp) (AllReadyIn.cons rfl (fun K hK => ?_) AllReadyIn.nil)
            go_simp
            refine hK _ _ ?_
            clear hK K
            refine wpAnyIn_done (by kernel_rfl) ?_ _
            gi_wp2
            rw [hz4]
            exact HFin.out _ hB3
          · go_simp
            gi_wp2_with ((gi_at_call 39; refine ((callsIn_wide (n := _)).2 (H39.out _)).mono ?_; rintro e W2 ⟨rfl, hB⟩; have hB2 : Below W1.heap.size W1 W2 := (Below.refl _ W1).drew.trans hB; clear hB; have g0 := cell_below y0 hB2; have g1 := cell_below y1 hB2; have g2 := cell_below y2 hB2; have g3 := cell_below y3 hB2; have gp := cell_below yp hB2; have gs4 := cell_below ys4 hB2; have gs5 := cell_below ys5 hB2))
            refine wpAnyIn_ready (rs := [4]) (by kernel_rfl) (by simp) (AllReadyIn.cons rfl (fun K hK => ?_) AllReadyIn.nil)
            go_simp
            refine hK _ _ ?_
            clear hK K
            refine wpAnyIn_ready (rs := [7]) (by kernel_rfl) (by simp) (AllReadyIn.cons rfl (fun K hK => ?_) AllReadyIn.nil)
            go_simp
            gi_wp2_with ((gi_at_call 38; refine ((callsIn_wide (n := _)).2 (H38.out _)).mono ?_; rintro e W3 ⟨rfl, hB⟩; have hB3 : Below W1.heap.size W1 W3 := hB2.trans (hB.mono hB2.size); clear hB; have kp := cell_below yp hB3; have k4 := cell_below ys4 hB3; have k5 := cell_below ys5 hB3; have kf : ∀ i, W3.frozen? ⟨M + 3, i, none⟩ = false := fun i => (hB3.frozen (p := ⟨M + 3, i, none⟩) hl3).trans (yf i)))
            refine wpAnyIn_take (i := 8) (v := .pointer (some ⟨M + 3, 0, none⟩)) rfl rfl (by kernel_rfl) (by kernel_rfl) (by kernel_rfl) (fun _ _ _ h => h) ⟨Or.inl ⟨by rfl, by intro w; go_simp⟩, fun _ => rfl⟩ ?_
            refine wpAnyIn_take (i := 9) (v := .pointer (some ⟨M + 3, 4, none⟩)) rfl rfl (by kernel_rfl) (by kernel_rfl) (by kernel_rfl) (fun _ _ _ h => h) ⟨Or.inl ⟨by rfl, by intro w; go_simp⟩, fun _ => rfl⟩ ?_
            refine wpAnyIn_ready (rs := [10]) (by kernel_rfl) (by simp) (AllReadyIn.cons rfl (fun K hK => ?_) AllReadyIn.nil)
            go_simp
            refine hK _ _ ?_
            clear hK K
            refine wpAnyIn_done (by kernel_rfl) ?_ _
            gi_wp2
            rw [hz4]
            exact HFin.out _ hB3
        · go_simp
          refine hK _ _ ?_
          clear hK K
          refine wpAnyIn_ready (rs := [0, 6]) (by kernel_rfl) (by simp) (AllReadyIn.cons rfl (fun K hK => ?_) (AllReadyIn.cons rfl (fun K hK => ?_) AllReadyIn.nil))
          · go_simp
            refine hK _ _ ?_
            clear hK K
            refine wpAnyIn_ready (rs := [6]) (by kernel_rfl) (by simp) (AllReadyIn.cons rfl (fun K hK => ?_) AllReadyIn.nil)
            go_simp
            gi_wp2_with ((gi_at_call 39; refine ((callsIn_wide (n := _)).2 (H39.out _)).mono ?_; rintro e W2 ⟨rfl, hB⟩; have hB2 : Below W1.heap.size W1 W2 := (Below.refl _ W1).drew.trans hB; clear hB; have g0 := cell_below y0 hB2; have g1 := cell_below y1 hB2; have g2 := cell_below y2 hB2; have g3 := cell_below y3 hB2; have gp := cell_below yp hB2; have gs4 := cell_below ys4 hB2; have gs5 := cell_below ys5 hB2))
            refine wpAnyIn_ready (rs := [7]) (by kernel_rfl) (by simp) (AllReadyIn.cons rfl (fun K hK => ?_) AllReadyIn.nil)
            go_simp
            gi_wp2_with ((gi_at_call 38; refine ((callsIn_wide (n := _)).2 (H38.out _)).mono ?_; rintro e W3 ⟨rfl, hB⟩; have hB3 : Below W1.heap.size W1 W3 := hB2.trans (hB.mono hB2.size); clear hB; have kp := cell_below yp hB3; have k4 := cell_below ys4 hB3; have k5 := cell_below ys5 hB3; have kf : ∀ i, W3.frozen? ⟨M + 3, i, none⟩ = false := fun i => (hB3.frozen (p := ⟨M + 3, i, none⟩) hl3).trans (yf i)))
            refine wpAnyIn_take (i := 8) (v := .pointer (some ⟨M + 3, 0, none⟩)) rfl rfl (by kernel_rfl) (by kernel_rfl) (by kernel_rfl) (fun _ _ _ h => h) ⟨Or.inl ⟨by rfl, by intro w; go_simp⟩, fun _ => rfl⟩ ?_
            refine wpAnyIn_take (i := 9) (v := .pointer (some ⟨M + 3, 4, none⟩)) rfl rfl (by kernel_rfl) (by kernel_rfl) (by kernel_rfl) (fun _ _ _ h => h) ⟨Or.inl ⟨by rfl, by intro w; go_simp⟩, fun _ => rfl⟩ ?_
            refine wpAnyIn_ready (rs := [10]) (by kernel_rfl) (by simp) (AllReadyIn.cons rfl (fun K hK => ?_) AllReadyIn.nil)
            go_simp
            refine hK _ _ ?_
            clear hK K
            refine wpAnyIn_done (by kernel_rfl) ?_ _
            gi_wp2
            rw [hz4]
            exact HFin.out _ hB3
          · go_simp
            gi_wp2_with ((gi_at_call 39; refine ((callsIn_wide (n := _)).2 (H39.out _)).mono ?_; rintro e W2 ⟨rfl, hB⟩; have hB2 : Below W1.heap.size W1 W2 := (Below.refl _ W1).drew.trans hB; clear hB; have g0 := cell_below y0 hB2; have g1 := cell_below y1 hB2; have g2 := cell_below y2 hB2; have g3 := cell_below y3 hB2; have gp := cell_below yp hB2; have gs4 := cell_below ys4 hB2; have gs5 := cell_below ys5 hB2))
            refine wpAnyIn_ready (rs := [0, 7]) (by kernel_rfl) (by simp) (AllReadyIn.cons rfl (fun K hK => ?_) (AllReadyIn.cons rfl (fun K hK => ?_) AllReadyIn.nil))
            · go_simp
              refine hK _ _ ?_
              clear hK K
              refine wpAnyIn_ready (rs := [7]) (by kernel_rfl) (by simp) (AllReadyIn.cons rfl (fun K hK => ?_) AllReadyIn.nil)
              go_simp
              gi_wp2_with ((gi_at_call 38; refine ((callsIn_wide (n := _)).2 (H38.out _)).mono ?_; rintro e W3 ⟨rfl, hB⟩; have hB3 : Below W1.heap.size W1 W3 := hB2.trans (hB.mono hB2.size); clear hB; have kp := cell_below yp hB3; have k4 := cell_below ys4 hB3; have k5 := cell_below ys5 hB3; have kf : ∀ i, W3.frozen? ⟨M + 3, i, none⟩ = false := fun i => (hB3.frozen (p := ⟨M + 3, i, none⟩) hl3).trans (yf i)))
              refine wpAnyIn_take (i := 8) (v := .pointer (some ⟨M + 3, 0, none⟩)) rfl rfl (by kernel_rfl) (by kernel_rfl) (by kernel_rfl) (fun _ _ _ h => h) ⟨Or.inl ⟨by rfl, by intro w; go_simp⟩, fun _ => rfl⟩ ?_
              refine wpAnyIn_take (i := 9) (v := .pointer (some ⟨M + 3, 4, none⟩)) rfl rfl (by kernel_rfl) (by kernel_rfl) (by kernel_rfl) (fun _ _ _ h => h) ⟨Or.inl ⟨by rfl, by intro w; go_simp⟩, fun _ => rfl⟩ ?_
              refine wpAnyIn_ready (rs := [10]) (by kernel_rfl) (by simp) (AllReadyIn.cons rfl (fun K hK => ?_) AllReadyIn.nil)
              go_simp
              refine hK _ _ ?_
              clear hK K
              refine wpAnyIn_done (by kernel_rfl) ?_ _
              gi_wp2
              rw [hz4]
              exact HFin.out _ hB3
            · go_simp
              gi_wp2_with ((gi_at_call 38; refine ((callsIn_wide (n := _)).2 (H38.out _)).mono ?_; rintro e W3 ⟨rfl, hB⟩; have hB3 : Below W1.heap.size W1 W3 := hB2.trans (hB.mono hB2.size); clear hB; have kp := cell_below yp hB3; have k4 := cell_below ys4 hB3; have k5 := cell_below ys5 hB3; have kf : ∀ i, W3.frozen? ⟨M + 3, i, none⟩ = false := fun i => (hB3.frozen (p := ⟨M + 3, i, none⟩) hl3).trans (yf i)))
              refine wpAnyIn_ready (rs := [0]) (by kernel_rfl) (by simp) (AllReadyIn.cons rfl (fun K hK => ?_) AllReadyIn.nil)
              go_simp
              refine hK _ _ ?_
              clear hK K
              refine wpAnyIn_take (i := 8) (v := .pointer (some ⟨M + 3, 0, none⟩)) rfl rfl (by kernel_rfl) (by kernel_rfl) (by kernel_rfl) (fun _ _ _ h => h) ⟨Or.inl ⟨by rfl, by intro w; go_simp⟩, fun _ => rfl⟩ ?_
              refine wpAnyIn_take (i := 9) (v := .pointer (some ⟨M + 3, 4, none⟩)) rfl rfl (by kernel_rfl) (by kernel_rfl) (by kernel_rfl) (fun _ _ _ h => h) ⟨Or.inl ⟨by rfl, by intro w; go_simp⟩, fun _ => rfl⟩ ?_
              refine wpAnyIn_ready (rs := [10]) (by kernel_rfl) (by simp) (AllReadyIn.cons rfl (fun K hK => ?_) AllReadyIn.nil)
              go_simp
              refine hK _ _ ?_
              clear hK K
              refine wpAnyIn_done (by kernel_rfl) ?_ _
              gi_wp2
              rw [hz4]
              exact HFin.out _ hB3
        · go_simp
          gi_wp2_with ((gi_at_call 39; refine ((callsIn_wide (n := _)).2 (H39.out _)).mono ?_; rintro e W2 ⟨rfl, hB⟩; have hB2 : Below W1.heap.size W1 W2 := (Below.refl _ W1).drew.trans hB; clear hB; have g0 := cell_below y0 hB2; have g1 := cell_below y1 hB2; have g2 := cell_below y2 hB2; have g3 := cell_below y3 hB2; have gp := cell_below yp hB2; have gs4 := cell_below ys4 hB2; have gs5 := cell_below ys5 hB2))
          refine wpAnyIn_ready (rs := [0, 4]) (by kernel_rfl) (by simp) (AllReadyIn.cons rfl (fun K hK => ?_) (AllReadyIn.cons rfl (fun K hK => ?_) AllReadyIn.nil))
          · go_simp
            refine hK _ _ ?_
            clear hK K
            refine wpAnyIn_ready (rs := [4]) (by kernel_rfl) (by simp) (AllReadyIn.cons rfl (fun K hK => ?_) AllReadyIn.nil)
            go_simp
            refine hK _ _ ?_
            clear hK K
            refine wpAnyIn_ready (rs := [7]) (by kernel_rfl) (by simp) (AllReadyIn.cons rfl (fun K hK => ?_) AllReadyIn.nil)
            go_simp
            gi_wp2_with ((gi_at_call 38; refine ((callsIn_wide (n := _)).2 (H38.out _)).mono ?_; rintro e W3 ⟨rfl, hB⟩; have hB3 : Below W1.heap.size W1 W3 := hB2.trans (hB.mono hB2.size); clear hB; have kp := cell_below yp hB3; have k4 := cell_below ys4 hB3; have k5 := cell_below ys5 hB3; have kf : ∀ i, W3.frozen? ⟨M + 3, i, none⟩ = false := fun i => (hB3.frozen (p := ⟨M + 3, i, none⟩) hl3).trans (yf i)))
            refine wpAnyIn_take (i := 8) (v := .pointer (some ⟨M + 3, 0, none⟩)) rfl rfl (by kernel_rfl) (by kernel_rfl) (by kernel_rfl) (fun _ _ _ h => h) ⟨Or.inl ⟨by rfl, by intro w; go_simp⟩, fun _ => rfl⟩ ?_
            refine wpAnyIn_take (i := 9) (v := .pointer (some ⟨M + 3, 4, none⟩)) rfl rfl (by kernel_rfl) (by kernel_rfl) (by kernel_rfl) (fun _ _ _ h => h) ⟨Or.inl ⟨by rfl, by intro w; go_simp⟩, fun _ => rfl⟩ ?_
            refine wpAnyIn_ready (rs := [10]) (by kernel_rfl) (by simp) (AllReadyIn.cons rfl (fun K hK => ?_) AllReadyIn.nil)
            go_simp
            refine hK _ _ ?_
            clear hK K
            refine wpAnyIn_done (by kernel_rfl) ?_ _
            gi_wp2
            rw [hz4]
            exact HFin.out _ hB3
          · go_simp
            refine hK _ _ ?_
            clear hK K
            refine wpAnyIn_ready (rs := [0, 7]) (by kernel_rfl) (by simp) (AllReadyIn.cons rfl (fun K hK => ?_) (AllReadyIn.cons rfl (fun K hK => ?_) AllReadyIn.nil))
            · go_simp
              refine hK _ _ ?_
              clear hK K
              refine wpAnyIn_ready (rs := [7]) (by kernel_rfl) (by simp) (AllReadyIn.cons rfl (fun K hK => ?_) AllReadyIn.nil)
              go_simp
              gi_wp2_with ((gi_at_call 38; refine ((callsIn_wide (n := _)).2 (H38.out _)).mono ?_; rintro e W3 ⟨rfl, hB⟩; have hB3 : Below W1.heap.size W1 W3 := hB2.trans (hB.mono hB2.size); clear hB; have kp := cell_below yp hB3; have k4 := cell_below ys4 hB3; have k5 := cell_below ys5 hB3; have kf : ∀ i, W3.frozen? ⟨M + 3, i, none⟩ = false := fun i => (hB3.frozen (p := ⟨M + 3, i, none⟩) hl3).trans (yf i)))
              refine wpAnyIn_take (i := 8) (v := .pointer (some ⟨M + 3, 0, none⟩)) rfl rfl (by kernel_rfl) (by kernel_rfl) (by kernel_rfl) (fun _ _ _ h => h) ⟨Or.inl ⟨by rfl, by intro w; go_simp⟩, fun _ => rfl⟩ ?_
              refine wpAnyIn_take (i := 9) (v := .pointer (some ⟨M + 3, 4, none⟩)) rfl rfl (by kernel_rfl) (by kernel_rfl) (by kernel_rfl) (fun _ _ _ h => h) ⟨Or.inl ⟨by rfl, by intro w; go_simp⟩, fun _ => rfl⟩ ?_
              refine wpAnyIn_ready (rs := [10]) (by kernel_rfl) (by simp) (AllReadyIn.cons rfl (fun K hK => ?_) AllReadyIn.nil)
              go_simp
              refine hK _ _ ?_
              clear hK K
              refine wpAnyIn_done (by kernel_rfl) ?_ _
              gi_wp2
              rw [hz4]
              exact HFin.out _ hB3
            · go_simp
              gi_wp2_with ((gi_at_call 38; refine ((callsIn_wide (n := _)).2 (H38.out _)).mono ?_; rintro e W3 ⟨rfl, hB⟩; have hB3 : Below W1.heap.size W1 W3 := hB2.trans (hB.mono hB2.size); clear hB; have kp := cell_below yp hB3; have k4 := cell_below ys4 hB3; have k5 := cell_below ys5 hB3; have kf : ∀ i, W3.frozen? ⟨M + 3, i, none⟩ = false := fun i => (hB3.frozen (p := ⟨M + 3, i, none⟩) hl3).trans (yf i)))
              refine wpAnyIn_ready (rs := [0]) (by kernel_rfl) (by simp) (AllReadyIn.cons rfl (fun K hK => ?_) AllReadyIn.nil)
              go_simp
              refine hK _ _ ?_
              clear hK K
              refine wpAnyIn_take (i := 8) (v := .pointer (some ⟨M + 3, 0, none⟩)) rfl rfl (by kernel_rfl) (by kernel_rfl) (by kernel_rfl) (fun _ _ _ h => h) ⟨Or.inl ⟨by rfl, by intro w; go_simp⟩, fun _ => rfl⟩ ?_
              refine wpAnyIn_take (i := 9) (v := .pointer (some ⟨M + 3, 4, none⟩)) rfl rfl (by kernel_rfl) (by kernel_rfl) (by kernel_rfl) (fun _ _ _ h => h) ⟨Or.inl ⟨by rfl, by intro w; go_simp⟩, fun _ => rfl⟩ ?_
              refine wpAnyIn_ready (rs := [10]) (by kernel_rfl) (by simp) (AllReadyIn.cons rfl (fun K hK => ?_) AllReadyIn.nil)
              go_simp
              refine hK _ _ ?_
              clear hK K
              refine wpAnyIn_done (by kernel_rfl) ?_ _
              gi_wp2
              rw [hz4]
              exact HFin.out _ hB3
    · go_simp
      refine hK _ _ ?_
      clear hK K
      refine wpAnyIn_ready (rs := [0, 1, 6]) (by kernel_rfl) (by simp) (AllReadyIn.cons rfl (fun K hK => ?_) (AllReadyIn.cons rfl (fun K hK => ?_) (AllReadyIn.cons rfl (fun K hK => ?_) AllReadyIn.nil)))
      · go_simp
        refine hK _ _ ?_
        clear hK K
        refine wpAnyIn_ready (rs := [1, 6]) (by kernel_rfl) (by simp) (AllReadyIn.cons rfl (fun K hK => ?_) (AllReadyIn.cons rfl (fun K hK => ?_) AllReadyIn.nil))
        · go_simp
          refine hK _ _ ?_
          clear hK K
          refine wpAnyIn_take (i := 2) (v := .pointer (some ⟨M + 3, 0, none⟩)) rfl rfl (by kernel_rfl) (by kernel_rfl) (by kernel_rfl) (fun _ _ _ h => h) ⟨Or.inl ⟨by rfl, by intro w; go_simp⟩, fun _ => rfl⟩ ?_
          refine wpAnyIn_take (i := 3) (v := .pointer (some ⟨M + 3, 4, none⟩)) rfl rfl (by kernel_rfl) (by kernel_rfl) (by kernel_rfl) (fun _ _ _ h => h) ⟨Or.inl ⟨by rfl, by intro w; go_simp⟩, fun _ => rfl⟩ ?_
          refine wpAnyIn_ready (rs := [4, 6]) (by kernel_rfl) (by simp) (AllReadyIn.cons rfl (fun K hK => ?_) (AllReadyIn.cons rfl (fun K hK => ?_) AllReadyIn.nil))
          · go_simp
            refine hK _ _ ?_
            clear hK K
            refine wpAnyIn_ready (rs := [6]) (by kernel_rfl) (by simp) (AllReadyIn.cons rfl (fun K hK => ?_) AllReadyIn.nil)
            go_simp
            gi_wp2_with ((gi_at_call 39; refine ((callsIn_wide (n := _)).2 (H39.out _)).mono ?_; rintro e W2 ⟨rfl, hB⟩; have hB2 : Below W1.heap.size W1 W2 := (Below.refl _ W1).drew.trans hB; clear hB; have g0 := cell_below y0 hB2; have g1 := cell_below y1 hB2; have g2 := cell_below y2 hB2; have g3 := cell_below y3 hB2; have gp := cell_below yp hB2; have gs4 := cell_below ys4 hB2; have gs5 := cell_below ys5 hB2))
            refine wpAnyIn_ready (rs := [7]) (by kernel_rfl) (by simp) (AllReadyIn.cons rfl (fun K hK => ?_) AllReadyIn.nil)
            go_simp
            gi_wp2_with ((gi_at_call 38; refine ((callsIn_wide (n := _)).2 (H38.out _)).mono ?_; rintro e W3 ⟨rfl, hB⟩; have hB3 : Below W1.heap.size W1 W3 := hB2.trans (hB.mono hB2.size); clear hB; have kp := cell_below yp hB3; have k4 := cell_below ys4 hB3; have k5 := cell_below ys5 hB3; have kf : ∀ i, W3.frozen? ⟨M + 3, i, none⟩ = false := fun i => (hB3.frozen (p := ⟨M + 3, i, none⟩) hl3).trans (yf i)))
            refine wpAnyIn_take (i := 8) (v := .pointer (some ⟨M + 3, 0, none⟩)) rfl rfl (by kernel_rfl) (by kernel_rfl) (by kernel_rfl) (fun _ _ _ h => h) ⟨Or.inl ⟨by rfl, by intro w; go_simp⟩, fun _ => rfl⟩ ?_
            refine wpAnyIn_take (i := 9) (v := .pointer (some ⟨M + 3, 4, none⟩)) rfl rfl (by kernel_rfl) (by kernel_rfl) (by kernel_rfl) (fun _ _ _ h => h) ⟨Or.inl ⟨by rfl, by intro w; go_simp⟩, fun _ => rfl⟩ ?_
            refine wpAnyIn_ready (rs := [10]) (by kernel_rfl) (by simp) (AllReadyIn.cons rfl (fun K hK => ?_) AllReadyIn.nil)
            go_simp
            refine hK _ _ ?_
            clear hK K
            refine wpAnyIn_done (by kernel_rfl) ?_ _
            gi_wp2
            rw [hz4]
            exact HFin.out _ hB3
          · go_simp
            gi_wp2_with ((gi_at_call 39; refine ((callsIn_wide (n := _)).2 (H39.out _)).mono ?_; rintro e W2 ⟨rfl, hB⟩; have hB2 : Below W1.heap.size W1 W2 := (Below.refl _ W1).drew.trans hB; clear hB; have g0 := cell_below y0 hB2; have g1 := cell_below y1 hB2; have g2 := cell_below y2 hB2; have g3 := cell_below y3 hB2; have gp := cell_below yp hB2; have gs4 := cell_below ys4 hB2; have gs5 := cell_below ys5 hB2))
            refine wpAnyIn_ready (rs := [4]) (by kernel_rfl) (by simp) (AllReadyIn.cons rfl (fun K hK => ?_) AllReadyIn.nil)
            go_simp
            refine hK _ _ ?_
            clear hK K
            refine wpAnyIn_ready (rs := [7]) (by kernel_rfl) (by simp) (AllReadyIn.cons rfl (fun K hK => ?_) AllReadyIn.nil)
            go_simp
            gi_wp2_with ((gi_at_call 38; refine ((callsIn_wide (n := _)).2 (H38.out _)).mono ?_; rintro e W3 ⟨rfl, hB⟩; have hB3 : Below W1.heap.size W1 W3 := hB2.trans (hB.mono hB2.size); clear hB; have kp := cell_below yp hB3; have k4 := cell_below ys4 hB3; have k5 := cell_below ys5 hB3; have kf : ∀ i, W3.frozen? ⟨M + 3, i, none⟩ = false := fun i => (hB3.frozen (p := ⟨M + 3, i, none⟩) hl3).trans (yf i)))
            refine wpAnyIn_take (i := 8) (v := .pointer (some ⟨M + 3, 0, none⟩)) rfl rfl (by kernel_rfl) (by kernel_rfl) (by kernel_rfl) (fun _ _ _ h => h) ⟨Or.inl ⟨by rfl, by intro w; go_simp⟩, fun _ => rfl⟩ ?_
            refine wpAnyIn_take (i := 9) (v := .pointer (some ⟨M + 3, 4, none⟩)) rfl rfl (by kernel_rfl) (by kernel_rfl) (by kernel_rfl) (fun _ _ _ h => h) ⟨Or.inl ⟨by rfl, by intro w; go_simp⟩, fun _ => rfl⟩ ?_
            refine wpAnyIn_ready (rs := [10]) (by kernel_rfl) (by simp) (AllReadyIn.cons rfl (fun K hK => ?_) AllReadyIn.nil)
            go_simp
            refine hK _ _ ?_
            clear hK K
            refine wpAnyIn_done (by kernel_rfl) ?_ _
            gi_wp2
            rw [hz4]
            exact HFin.out _ hB3
        · go_simp
          gi_wp2_with ((gi_at_call 39; refine ((callsIn_wide (n := _)).2 (H39.out _)).mono ?_; rintro e W2 ⟨rfl, hB⟩; have hB2 : Below W1.heap.size W1 W2 := (Below.refl _ W1).drew.trans hB; clear hB; have g0 := cell_below y0 hB2; have g1 := cell_below y1 hB2; have g2 := cell_below y2 hB2; have g3 := cell_below y3 hB2; have gp := cell_below yp hB2; have gs4 := cell_below ys4 hB2; have gs5 := cell_below ys5 hB2))
          refine wpAnyIn_ready (rs := [1]) (by kernel_rfl) (by simp) (AllReadyIn.cons rfl (fun K hK => ?_) AllReadyIn.nil)
          go_simp
          refine hK _ _ ?_
          clear hK K
          refine wpAnyIn_take (i := 2) (v := .pointer (some ⟨M + 3, 0, none⟩)) rfl rfl (by kernel_rfl) (by kernel_rfl) (by kernel_rfl) (fun _ _ _ h => h) ⟨Or.inl ⟨by rfl, by intro w; go_simp⟩, fun _ => rfl⟩ ?_
          refine wpAnyIn_take (i := 3) (v := .pointer (some ⟨M + 3, 4, none⟩)) rfl rfl (by kernel_rfl) (by kernel_rfl) (by kernel_rfl) (fun _ _ _ h => h) ⟨Or.inl ⟨by rfl, by intro w; go_simp⟩, fun _ => rfl⟩ ?_
          refine wpAnyIn_ready (rs := [4]) (by kernel_rfl) (by simp) (AllReadyIn.cons rfl (fun K hK => ?_) AllReadyIn.nil)
          go_simp
          refine hK _ _ ?_
          clear hK K
          refine wpAnyIn_ready (rs := [7]) (by kernel_rfl) (by simp) (AllReadyIn.cons rfl (fun K hK => ?_) AllReadyIn.nil)
          go_simp
          gi_wp2_with ((gi_at_call 38; refine ((callsIn_wide (n := _)).2 (H38.out _)).mono ?_; rintro e W3 ⟨rfl, hB⟩; have hB3 : Below W1.heap.size W1 W3 := hB2.trans (hB.mono hB2.size); clear hB; have kp := cell_below yp hB3; have k4 := cell_below ys4 hB3; have k5 := cell_below ys5 hB3; have kf : ∀ i, W3.frozen? ⟨M + 3, i, none⟩ = false := fun i => (hB3.frozen (p := ⟨M + 3, i, none⟩) hl3).trans (yf i)))
          refine wpAnyIn_take (i := 8) (v := .pointer (some ⟨M + 3, 0, none⟩)) rfl rfl (by kernel_rfl) (by kernel_rfl) (by kernel_rfl) (fun _ _ _ h => h) ⟨Or.inl ⟨by rfl, by intro w; go_simp⟩, fun _ => rfl⟩ ?_
          refine wpAnyIn_take (i := 9) (v := .pointer (some ⟨M + 3, 4, none⟩)) rfl rfl (by kernel_rfl) (by kernel_rfl) (by kernel_rfl) (fun _ _ _ h => h) ⟨Or.inl ⟨by rfl, by intro w; go_simp⟩, fun _ => rfl⟩ ?_
          refine wpAnyIn_ready (rs := [10]) (by kernel_rfl) (by simp) (AllReadyIn.cons rfl (fun K hK => ?_) AllReadyIn.nil)
          go_simp
          refine hK _ _ ?_
          clear hK K
          refine wpAnyIn_done (by kernel_rfl) ?_ _
          gi_wp2
          rw [hz4]
          exact HFin.out _ hB3
      · go_simp
        refine hK _ _ ?_
        clear hK K
        refine wpAnyIn_take (i := 2) (v := .pointer (some ⟨M + 3, 0, none⟩)) rfl rfl (by kernel_rfl) (by kernel_rfl) (by kernel_rfl) (fun _ _ _ h => h) ⟨Or.inl ⟨by rfl, by intro w; go_simp⟩, fun _ => rfl⟩ ?_
        refine wpAnyIn_take (i := 3) (v := .pointer (some ⟨M + 3, 4, none⟩)) rfl rfl (by kernel_rfl) (by kernel_rfl) (by kernel_rfl) (fun _ _ _ h => h) ⟨Or.inl ⟨by rfl, by intro w; go_simp⟩, fun _ => rfl⟩ ?_
        refine wpAnyIn_ready (rs := [0, 4, 6]) (by kernel_rfl) (by simp) (AllReadyIn.cons rfl (fun K hK => ?_) (AllReadyIn.cons rfl (fun K hK => ?_) (AllReadyIn.cons rfl (fun K hK => ?_) AllReadyIn.nil)))
        · go_simp
          refine hK _ _ ?_
          clear hK K
          refine wpAnyIn_ready (rs := [4, 6]) (by kernel_rfl) (by simp) (AllReadyIn.cons rfl (fun K hK => ?_) (AllReadyIn.cons rfl (fun K hK => ?_) AllReadyIn.nil))
          · go_simp
            refine hK _ _ ?_
            clear hK K
            refine wpAnyIn_ready (rs := [6]) (by kernel_rfl) (by simp) (AllReadyIn.cons rfl (fun K hK => ?_) AllReadyIn.nil)
            go_simp
            gi_wp2_with ((gi_at_call 39; refine ((callsIn_wide (n := _)).2 (H39.out _)).mono ?_; rintro e W2 ⟨rfl, hB⟩; have hB2 : Below W1.heap.size W1 W2 := (Below.refl _ W1).drew.trans hB; clear hB; have g0 := cell_below y0 hB2; have g1 := cell_below y1 hB2; have g2 := cell_below y2 hB2; have g3 := cell_below y3 hB2; have gp := cell_below yp hB2; have gs4 := cell_below ys4 hB2; have gs5 := cell_below ys5 hB2))
            refine wpAnyIn_ready (rs := [7]) (by kernel_rfl) (by simp) (AllReadyIn.cons rfl (fun K hK => ?_) AllReadyIn.nil)
            go_simp
            gi_wp2_with ((gi_at_call 38; refine ((callsIn_wide (n := _)).2 (H38.out _)).mono ?_; rintro e W3 ⟨rfl, hB⟩; have hB3 : Below W1.heap.size W1 W3 := hB2.trans (hB.mono hB2.size); clear hB; have kp := cell_below yp hB3; have k4 := cell_below ys4 hB3; have k5 := cell_below ys5 hB3; have kf : ∀ i, W3.frozen? ⟨M + 3, i, none⟩ = false := fun i => (hB3.frozen (p := ⟨M + 3, i, none⟩) hl3).trans (yf i)))
            refine wpAnyIn_take (i := 8) (v := .pointer (some ⟨M + 3, 0, none⟩)) rfl rfl (by kernel_rfl) (by kernel_rfl) (by kernel_rfl) (fun _ _ _ h => h) ⟨Or.inl ⟨by rfl, by intro w; go_simp⟩, fun _ => rfl⟩ ?_
            refine wpAnyIn_take (i := 9) (v := .pointer (some ⟨M + 3, 4, none⟩)) rfl rfl (by kernel_rfl) (by kernel_rfl) (by kernel_rfl) (fun _ _ _ h => h) ⟨Or.inl ⟨by rfl, by intro w; go_simp⟩, fun _ => rfl⟩ ?_
            refine wpAnyIn_ready (rs := [10]) (by kernel_rfl) (by simp) (AllReadyIn.cons rfl (fun K hK => ?_) AllReadyIn.nil)
            go_simp
            refine hK _ _ ?_
            clear hK K
            refine wpAnyIn_done (by kernel_rfl) ?_ _
            gi_wp2
            rw [hz4]
            exact HFin.out _ hB3
          · go_simp
            gi_wp2_with ((gi_at_call 39; refine ((callsIn_wide (n := _)).2 (H39.out _)).mono ?_; rintro e W2 ⟨rfl, hB⟩; have hB2 : Below W1.heap.size W1 W2 := (Below.refl _ W1).drew.trans hB; clear hB; have g0 := cell_below y0 hB2; have g1 := cell_below y1 hB2; have g2 := cell_below y2 hB2; have g3 := cell_below y3 hB2; have gp := cell_below yp hB2; have gs4 := cell_below ys4 hB2; have gs5 := cell_below ys5 hB2))
            refine wpAnyIn_ready (rs := [4]) (by kernel_rfl) (by simp) (AllReadyIn.cons rfl (fun K hK => ?_) AllReadyIn.nil)
            go_simp
            refine hK _ _ ?_
            clear hK K
            refine wpAnyIn_ready (rs := [7]) (by kernel_rfl) (by simp) (AllReadyIn.cons rfl (fun K hK => ?_) AllReadyIn.nil)
            go_simp
            gi_wp2_with ((gi_at_call 38; refine ((callsIn_wide (n := _)).2 (H38.out _)).mono ?_; rintro e W3 ⟨rfl, hB⟩; have hB3 : Below W1.heap.size W1 W3 := hB2.trans (hB.mono hB2.size); clear hB; have kp := cell_below yp hB3; have k4 := cell_below ys4 hB3; have k5 := cell_below ys5 hB3; have kf : ∀ i, W3.frozen? ⟨M + 3, i, none⟩ = false := fun i => (hB3.frozen (p := ⟨M + 3, i, none⟩) hl3).trans (yf i)))
            refine wpAnyIn_take (i := 8) (v := .pointer (some ⟨M + 3, 0, none⟩)) rfl rfl (by kernel_rfl) (by kernel_rfl) (by kernel_rfl) (fun _ _ _ h => h) ⟨Or.inl ⟨by rfl, by intro w; go_simp⟩, fun _ => rfl⟩ ?_
            refine wpAnyIn_take (i := 9) (v := .pointer (some ⟨M + 3, 4, none⟩)) rfl rfl (by kernel_rfl) (by kernel_rfl) (by kernel_rfl) (fun _ _ _ h => h) ⟨Or.inl ⟨by rfl, by intro w; go_simp⟩, fun _ => rfl⟩ ?_
            refine wpAnyIn_ready (rs := [10]) (by kernel_rfl) (by simp) (AllReadyIn.cons rfl (fun K hK => ?_) AllReadyIn.nil)
            go_simp
            refine hK _ _ ?_
            clear hK K
            refine wpAnyIn_done (by kernel_rfl) ?_ _
            gi_wp2
            rw [hz4]
            exact HFin.out _ hB3
        · go_simp
          refine hK _ _ ?_
          clear hK K
          refine wpAnyIn_ready (rs := [0, 6]) (by kernel_rfl) (by simp) (AllReadyIn.cons rfl (fun K hK => ?_) (AllReadyIn.cons rfl (fun K hK => ?_) AllReadyIn.nil))
          · go_simp
            refine hK _ _ ?_
            clear hK K
            refine wpAnyIn_ready (rs := [6]) (by kernel_rfl) (by simp) (AllReadyIn.cons rfl (fun K hK => ?_) AllReadyIn.nil)
            go_simp
            gi_wp2_with ((gi_at_call 39; refine ((callsIn_wide (n := _)).2 (H39.out _)).mono ?_; rintro e W2 ⟨rfl, hB⟩; have hB2 : Below W1.heap.size W1 W2 := (Below.refl _ W1).drew.trans hB; clear hB; have g0 := cell_below y0 hB2; have g1 := cell_below y1 hB2; have g2 := cell_below y2 hB2; have g3 := cell_below y3 hB2; have gp := cell_below yp hB2; have gs4 := cell_below ys4 hB2; have gs5 := cell_below ys5 hB2))
            refine wpAnyIn_ready (rs := [7]) (by kernel_rfl) (by simp) (AllReadyIn.cons rfl (fun K hK => ?_) AllReadyIn.nil)
            go_simp
            gi_wp2_with ((gi_at_call 38; refine ((callsIn_wide (n := _)).2 (H38.out _)).mono ?_; rintro e W3 ⟨rfl, hB⟩; have hB3 : Below W1.heap.size W1 W3 := hB2.trans (hB.mono hB2.size); clear hB; have kp := cell_below yp hB3; have k4 := cell_below ys4 hB3; have k5 := cell_below ys5 hB3; have kf : ∀ i, W3.frozen? ⟨M + 3, i, none⟩ = false := fun i => (hB3.frozen (p := ⟨M + 3, i, none⟩) hl3).trans (yf i)))
            refine wpAnyIn_take (i := 8) (v := .pointer (some ⟨M + 3, 0, none⟩)) rfl rfl (by kernel_rfl) (by kernel_rfl) (by kernel_rfl) (fun _ _ _ h => h) ⟨Or.inl ⟨by rfl, by intro w; go_simp⟩, fun _ => rfl⟩ ?_
            refine wpAnyIn_take (i := 9) (v := .pointer (some ⟨M + 3, 4, none⟩)) rfl rfl (by kernel_rfl) (by kernel_rfl) (by kernel_rfl) (fun _ _ _ h => h) ⟨Or.inl ⟨by rfl, by intro w; go_simp⟩, fun _ => rfl⟩ ?_
            refine wpAnyIn_ready (rs := [10]) (by kernel_rfl) (by simp) (AllReadyIn.cons rfl (fun K hK => ?_) AllReadyIn.nil)
            go_simp
            refine hK _ _ ?_
            clear hK K
            refine wpAnyIn_done (by kernel_rfl) ?_ _
            gi_wp2
            rw [hz4]
            exact HFin.out _ hB3
          · go_simp
            gi_wp2_with ((gi_at_call 39; refine ((callsIn_wide (n := _)).2 (H39.out _)).mono ?_; rintro e W2 ⟨rfl, hB⟩; have hB2 : Below W1.heap.size W1 W2 := (Below.refl _ W1).drew.trans hB; clear hB; have g0 := cell_below y0 hB2; have g1 := cell_below y1 hB2; have g2 := cell_below y2 hB2; have g3 := cell_below y3 hB2; have gp := cell_below yp hB2; have gs4 := cell_below ys4 hB2; have gs5 := cell_below ys5 hB2))
            refine wpAnyIn_ready (rs := [0, 7]) (by kernel_rfl) (by simp) (AllReadyIn.cons rfl (fun K hK => ?_) (AllReadyIn.cons rfl (fun K hK => ?_) AllReadyIn.nil))
            · go_simp
              refine hK _ _ ?_
              clear hK K
              refine wpAnyIn_ready (rs := [7]) (by kernel_rfl) (by simp) (AllReadyIn.cons rfl (fun K hK => ?_) AllReadyIn.nil)
              go_simp
              gi_wp2_with ((gi_at_call 38; refine ((callsIn_wide (n := _)).2 (H38.out _)).mono ?_; rintro e W3 ⟨rfl, hB⟩; have hB3 : Below W1.heap.size W1 W3 := hB2.trans (hB.mono hB2.size); clear hB; have kp := cell_below yp hB3; have k4 := cell_below ys4 hB3; have k5 := cell_below ys5 hB3; have kf : ∀ i, W3.frozen? ⟨M + 3, i, none⟩ = false := fun i => (hB3.frozen (p := ⟨M + 3, i, none⟩) hl3).trans (yf i)))
              refine wpAnyIn_take (i := 8) (v := .pointer (some ⟨M + 3, 0, none⟩)) rfl rfl (by kernel_rfl) (by kernel_rfl) (by kernel_rfl) (fun _ _ _ h => h) ⟨Or.inl ⟨by rfl, by intro w; go_simp⟩, fun _ => rfl⟩ ?_
              refine wpAnyIn_take (i := 9) (v := .pointer (some ⟨M + 3, 4, none⟩)) rfl rfl (by kernel_rfl) (by kernel_rfl) (by kernel_rfl) (fun _ _ _ h => h) ⟨Or.inl ⟨by rfl, by intro w; go_simp⟩, fun _ => rfl⟩ ?_
              refine wpAnyIn_ready (rs := [10]) (by kernel_rfl) (by simp) (AllReadyIn.cons rfl (fun K hK => ?_) AllReadyIn.nil)
              go_simp
              refine hK _ _ ?_
              clear hK K
              refine wpAnyIn_done (by kernel_rfl) ?_ _
              gi_wp2
              rw [hz4]
              exact HFin.out _ hB3
            · go_simp
              gi_wp2_with ((gi_at_call 38; refine ((callsIn_wide (n := _)).2 (H38.out _)).mono ?_; rintro e W3 ⟨rfl, hB⟩; have hB3 : Below W1.heap.size W1 W3 := hB2.trans (hB.mono hB2.size); clear hB; have kp := cell_below yp hB3; have k4 := cell_below ys4 hB3; have k5 := cell_below ys5 hB3; have kf : ∀ i, W3.frozen? ⟨M + 3, i, none⟩ = false := fun i => (hB3.frozen (p := ⟨M + 3, i, none⟩) hl3).trans (yf i)))
              refine wpAnyIn_ready (rs := [0]) (by kernel_rfl) (by simp) (AllReadyIn.cons rfl (fun K hK => ?_) AllReadyIn.nil)
              go_simp
              refine hK _ _ ?_
              clear hK K
              refine wpAnyIn_take (i := 8) (v := .pointer (some ⟨M + 3, 0, none⟩)) rfl rfl (by kernel_rfl) (by kernel_rfl) (by kernel_rfl) (fun _ _ _ h => h) ⟨Or.inl ⟨by rfl, by intro w; go_simp⟩, fun _ => rfl⟩ ?_
              refine wpAnyIn_take (i := 9) (v := .pointer (some ⟨M + 3, 4, none⟩)) rfl rfl (by kernel_rfl) (by kernel_rfl) (by kernel_rfl) (fun _ _ _ h => h) ⟨Or.inl ⟨by rfl, by intro w; go_simp⟩, fun _ => rfl⟩ ?_
              refine wpAnyIn_ready (rs := [10]) (by kernel_rfl) (by simp) (AllReadyIn.cons rfl (fun K hK => ?_) AllReadyIn.nil)
              go_simp
              refine hK _ _ ?_
              clear hK K
              refine wpAnyIn_done (by kernel_rfl) ?_ _
              gi_wp2
              rw [hz4]
              exact HFin.out _ hB3
        · go_simp
          gi_wp2_with ((gi_at_call 39; refine ((callsIn_wide (n := _)).2 (H39.out _)).mono ?_; rintro e W2 ⟨rfl, hB⟩; have hB2 : Below W1.heap.size W1 W2 := (Below.refl _ W1).drew.trans hB; clear hB; have g0 := cell_below y0 hB2; have g1 := cell_below y1 hB2; have g2 := cell_below y2 hB2; have g3 := cell_below y3 hB2; have gp := cell_below yp hB2; have gs4 := cell_below ys4 hB2; have gs5 := cell_below ys5 hB2))
          refine wpAnyIn_ready (rs := [0, 4]) (by kernel_rfl) (by simp) (AllReadyIn.cons rfl (fun K hK => ?_) (AllReadyIn.cons rfl (fun K hK => ?_) AllReadyIn.nil))
          · go_simp
            refine hK _ _ ?_
            clear hK K
            refine wpAnyIn_ready (rs := [4]) (by kernel_rfl) (by simp) (AllReadyIn.cons rfl (fun K hK => ?_) AllReadyIn.nil)
            go_simp
            refine hK _ _ ?_
            clear hK K
            refine wpAnyIn_ready (rs := [7]) (by kernel_rfl) (by simp) (AllReadyIn.cons rfl (fun K hK => ?_) AllReadyIn.nil)
            go_simp
            gi_wp2_with ((gi_at_call 38; refine ((callsIn_wide (n := _)).2 (H38.out _)).mono ?_; rintro e W3 ⟨rfl, hB⟩; have hB3 : Below W1.heap.size W1 W3 := hB2.trans (hB.mono hB2.size); clear hB; have kp := cell_below yp hB3; have k4 := cell_below ys4 hB3; have k5 := cell_below ys5 hB3; have kf : ∀ i, W3.frozen? ⟨M + 3, i, none⟩ = false := fun i => (hB3.frozen (p := ⟨M + 3, i, none⟩) hl3).trans (yf i)))
            refine wpAnyIn_take (i := 8) (v := .pointer (some ⟨M + 3, 0, none⟩)) rfl rfl (by kernel_rfl) (by kernel_rfl) (by kernel_rfl) (fun _ _ _ h => h) ⟨Or.inl ⟨by rfl, by intro w; go_simp⟩, fun _ => rfl⟩ ?_
            refine wpAnyIn_take (i := 9) (v := .pointer (some ⟨M + 3, 4, none⟩)) rfl rfl (by kernel_rfl) (by kernel_rfl) (by kernel_rfl) (fun _ _ _ h => h) ⟨Or.inl ⟨by rfl, by intro w; go_simp⟩, fun _ => rfl⟩ ?_
            refine wpAnyIn_ready (rs := [10]) (by kernel_rfl) (by simp) (AllReadyIn.cons rfl (fun K hK => ?_) AllReadyIn.nil)
            go_simp
            refine hK _ _ ?_
            clear hK K
            refine wpAnyIn_done (by kernel_rfl) ?_ _
            gi_wp2
            rw [hz4]
            exact HFin.out _ hB3
          · go_simp
            refine hK _ _ ?_
            clear hK K
            refine wpAnyIn_ready (rs := [0, 7]) (by kernel_rfl) (by simp) (AllReadyIn.cons rfl (fun K hK => ?_) (AllReadyIn.cons rfl (fun K hK => ?_) AllReadyIn.nil))
            · go_simp
              refine hK _ _ ?_
              clear hK K
              refine wpAnyIn_ready (rs := [7]) (by kernel_rfl) (by simp) (AllReadyIn.cons rfl (fun K hK => ?_) AllReadyIn.nil)
              go_simp
              gi_wp2_with ((gi_at_call 38; refine ((callsIn_wide (n := _)).2 (H38.out _)).mono ?_; rintro e W3 ⟨rfl, hB⟩; have hB3 : Below W1.heap.size W1 W3 := hB2.trans (hB.mono hB2.size); clear hB; have kp := cell_below yp hB3; have k4 := cell_below ys4 hB3; have k5 := cell_below ys5 hB3; have kf : ∀ i, W3.frozen? ⟨M + 3, i, none⟩ = false := fun i => (hB3.frozen (p := ⟨M + 3, i, none⟩) hl3).trans (yf i)))
              refine wpAnyIn_take (i := 8) (v := .pointer (some ⟨M + 3, 0, none⟩)) rfl rfl (by kernel_rfl) (by kernel_rfl) (by kernel_rfl) (fun _ _ _ h => h) ⟨Or.inl ⟨by rfl, by intro w; go_simp⟩, fun _ => rfl⟩ ?_
              refine wpAnyIn_take (i := 9) (v := .pointer (some ⟨M + 3, 4, none⟩)) rfl rfl (by kernel_rfl) (by kernel_rfl) (by kernel_rfl) (fun _ _ _ h => h) ⟨Or.inl ⟨by rfl, by intro w; go_simp⟩, fun _ => rfl⟩ ?_
              refine wpAnyIn_ready (rs := [10]) (by kernel_rfl) (by simp) (AllReadyIn.cons rfl (fun K hK => ?_) AllReadyIn.nil)
              go_simp
              refine hK _ _ ?_
              clear hK K
              refine wpAnyIn_done (by kernel_rfl) ?_ _
              gi_wp2
              rw [hz4]
              exact HFin.out _ hB3
            · go_simp
              gi_wp2_with ((gi_at_call 38; refine ((callsIn_wide (n := _)).2 (H38.out _)).mono ?_; rintro e W3 ⟨rfl, hB⟩; have hB3 : Below W1.heap.size W1 W3 := hB2.trans (hB.mono hB2.size); clear hB; have kp := cell_below yp hB3; have k4 := cell_below ys4 hB3; have k5 := cell_below ys5 hB3; have kf : ∀ i, W3.frozen? ⟨M + 3, i, none⟩ = false := fun i => (hB3.frozen (p := ⟨M + 3, i, none⟩) hl3).trans (yf i)))
              refine wpAnyIn_ready (rs := [0]) (by kernel_rfl) (by simp) (AllReadyIn.cons rfl (fun K hK => ?_) AllReadyIn.nil)
              go_simp
              refine hK _ _ ?_
              clear hK K
              refine wpAnyIn_take (i := 8) (v := .pointer (some ⟨M + 3, 0, none⟩)) rfl rfl (by kernel_rfl) (by kernel_rfl) (by kernel_rfl) (fun _ _ _ h => h) ⟨Or.inl ⟨by rfl, by intro w; go_simp⟩, fun _ => rfl⟩ ?_
              refine wpAnyIn_take (i := 9) (v := .pointer (some ⟨M + 3, 4, none⟩)) rfl rfl (by kernel_rfl) (by kernel_rfl) (by kernel_rfl) (fun _ _ _ h => h) ⟨Or.inl ⟨by rfl, by intro w; go_simp⟩, fun _ => rfl⟩ ?_
              refine wpAnyIn_ready (rs := [10]) (by kernel_rfl) (by simp) (AllReadyIn.cons rfl (fun K hK => ?_) AllReadyIn.nil)
              go_simp
              refine hK _ _ ?_
              clear hK K
              refine wpAnyIn_done (by kernel_rfl) ?_ _
              gi_wp2
              rw [hz4]
              exact HFin.out _ hB3
      · go_simp
        gi_wp2_with ((gi_at_call 39; refine ((callsIn_wide (n := _)).2 (H39.out _)).mono ?_; rintro e W2 ⟨rfl, hB⟩; have hB2 : Below W1.heap.size W1 W2 := (Below.refl _ W1).drew.trans hB; clear hB; have g0 := cell_below y0 hB2; have g1 := cell_below y1 hB2; have g2 := cell_below y2 hB2; have g3 := cell_below y3 hB2; have gp := cell_below yp hB2; have gs4 := cell_below ys4 hB2; have gs5 := cell_below ys5 hB2))
        refine wpAnyIn_ready (rs := [0, 1]) (by kernel_rfl) (by simp) (AllReadyIn.cons rfl (fun K hK => ?_) (AllReadyIn.cons rfl (fun K hK => ?_) AllReadyIn.nil))
        · go_simp
          refine hK _ _ ?_
          clear hK K
          refine wpAnyIn_ready (rs := [1]) (by kernel_rfl) (by simp) (AllReadyIn.cons rfl (fun K hK => ?_) AllReadyIn.nil)
          go_simp
          refine hK _ _ ?_
          clear hK K
          refine wpAnyIn_take (i := 2) (v := .pointer (some ⟨M + 3, 0, none⟩)) rfl rfl (by kernel_rfl) (by kernel_rfl) (by kernel_rfl) (fun _ _ _ h => h) ⟨Or.inl ⟨by rfl, by intro w; go_simp⟩, fun _ => rfl⟩ ?_
          refine wpAnyIn_take (i := 3) (v := .pointer (some ⟨M + 3, 4, none⟩)) rfl rfl (by kernel_rfl) (by kernel_rfl) (by kernel_rfl) (fun _ _ _ h => h) ⟨Or.inl ⟨by rfl, by intro w; go_simp⟩, fun _ => rfl⟩ ?_
          refine wpAnyIn_ready (rs := [4]) (by kernel_rfl) (by simp) (AllReadyIn.cons rfl (fun K hK => ?_) AllReadyIn.nil)
          go_simp
          refine hK _ _ ?_
          clear hK K
          refine wpAnyIn_ready (rs := [7]) (by kernel_rfl) (by simp) (AllReadyIn.cons rfl (fun K hK => ?_) AllReadyIn.nil)
          go_simp
          gi_wp2_with ((gi_at_call 38; refine ((callsIn_wide (n := _)).2 (H38.out _)).mono ?_; rintro e W3 ⟨rfl, hB⟩; have hB3 : Below W1.heap.size W1 W3 := hB2.trans (hB.mono hB2.size); clear hB; have kp := cell_below yp hB3; have k4 := cell_below ys4 hB3; have k5 := cell_below ys5 hB3; have kf : ∀ i, W3.frozen? ⟨M + 3, i, none⟩ = false := fun i => (hB3.frozen (p := ⟨M + 3, i, none⟩) hl3).trans (yf i)))
          refine wpAnyIn_take (i := 8) (v := .pointer (some ⟨M + 3, 0, none⟩)) rfl rfl (by kernel_rfl) (by kernel_rfl) (by kernel_rfl) (fun _ _ _ h => h) ⟨Or.inl ⟨by rfl, by intro w; go_simp⟩, fun _ => rfl⟩ ?_
          refine wpAnyIn_take (i := 9) (v := .pointer (some ⟨M + 3, 4, none⟩)) rfl rfl (by kernel_rfl) (by kernel_rfl) (by kernel_rfl) (fun _ _ _ h => h) ⟨Or.inl ⟨by rfl, by intro w; go_simp⟩, fun _ => rfl⟩ ?_
          refine wpAnyIn_ready (rs := [10]) (by kernel_rfl) (by simp) (AllReadyIn.cons rfl (fun K hK => ?_) AllReadyIn.nil)
          go_simp
          refine hK _ _ ?_
          clear hK K
          refine wpAnyIn_done (by kernel_rfl) ?_ _
          gi_wp2
          rw [hz4]
          exact HFin.out _ hB3
        · go_simp
          refine hK _ _ ?_
          clear hK K
          refine wpAnyIn_take (i := 2) (v := .pointer (some ⟨M + 3, 0, none⟩)) rfl rfl (by kernel_rfl) (by kernel_rfl) (by kernel_rfl) (fun _ _ _ h => h) ⟨Or.inl ⟨by rfl, by intro w; go_simp⟩, fun _ => rfl⟩ ?_
          refine wpAnyIn_take (i := 3) (v := .pointer (some ⟨M + 3, 4, none⟩)) rfl rfl (by kernel_rfl) (by kernel_rfl) (by kernel_rfl) (fun _ _ _ h => h) ⟨Or.inl ⟨by rfl, by intro w; go_simp⟩, fun _ => rfl⟩ ?_
          refine wpAnyIn_ready (rs := [0, 4]) (by kernel_rfl) (by simp) (AllReadyIn.cons rfl (fun K hK => ?_) (AllReadyIn.cons rfl (fun K hK => ?_) AllReadyIn.nil))
          · go_simp
            refine hK _ _ ?_
            clear hK K
            refine wpAnyIn_ready (rs := [4]) (by kernel_rfl) (by simp) (AllReadyIn.cons rfl (fun K hK => ?_) AllReadyIn.nil)
            go_simp
            refine hK _ _ ?_
            clear hK K
            refine wpAnyIn_ready (rs := [7]) (by kernel_rfl) (by simp) (AllReadyIn.cons rfl (fun K hK => ?_) AllReadyIn.nil)
            go_simp
            gi_wp2_with ((gi_at_call 38; refine ((callsIn_wide (n := _)).2 (H38.out _)).mono ?_; rintro e W3 ⟨rfl, hB⟩; have hB3 : Below W1.heap.size W1 W3 := hB2.trans (hB.mono hB2.size); clear hB; have kp := cell_below yp hB3; have k4 := cell_below ys4 hB3; have k5 := cell_below ys5 hB3; have kf : ∀ i, W3.frozen? ⟨M + 3, i, none⟩ = false := fun i => (hB3.frozen (p := ⟨M + 3, i, none⟩) hl3).trans (yf i)))
            refine wpAnyIn_take (i := 8) (v := .pointer (some ⟨M + 3, 0, none⟩)) rfl rfl (by kernel_rfl) (by kernel_rfl) (by kernel_rfl) (fun _ _ _ h => h) ⟨Or.inl ⟨by rfl, by intro w; go_simp⟩, fun _ => rfl⟩ ?_
            refine wpAnyIn_take (i := 9) (v := .pointer (some ⟨M + 3, 4, none⟩)) rfl rfl (by kernel_rfl) (by kernel_rfl) (by kernel_rfl) (fun _ _ _ h => h) ⟨Or.inl ⟨by rfl, by intro w; go_simp⟩, fun _ => rfl⟩ ?_
            refine wpAnyIn_ready (rs := [10]) (by kernel_rfl) (by simp) (AllReadyIn.cons rfl (fun K hK => ?_) AllReadyIn.nil)
            go_simp
            refine hK _ _ ?_
            clear hK K
            refine wpAnyIn_done (by kernel_rfl) ?_ _
            gi_wp2
            rw [hz4]
            exact HFin.out _ hB3
          · go_simp
            refine hK _ _ ?_
            clear hK K
            refine wpAnyIn_ready (rs := [0, 7]) (by kernel_rfl) (by simp) (AllReadyIn.cons rfl (fun K hK => ?_) (AllReadyIn.cons rfl (fun K hK => ?_) AllReadyIn.nil))
            · go_simp
              refine hK _ _ ?_
              clear hK K
              refine wpAnyIn_ready (rs := [7]) (by kernel_rfl) (by simp) (AllReadyIn.cons rfl (fun K hK => ?_) AllReadyIn.nil)
              go_simp
              gi_wp2_with ((gi_at_call 38; refine ((callsIn_wide (n := _)).2 (H38.out _)).mono ?_; rintro e W3 ⟨rfl, hB⟩; have hB3 : Below W1.heap.size W1 W3 := hB2.trans (hB.mono hB2.size); clear hB; have kp := cell_below yp hB3; have k4 := cell_below ys4 hB3; have k5 := cell_below ys5 hB3; have kf : ∀ i, W3.frozen? ⟨M + 3, i, none⟩ = false := fun i => (hB3.frozen (p := ⟨M + 3, i, none⟩) hl3).trans (yf i)))
              refine wpAnyIn_take (i := 8) (v := .pointer (some ⟨M + 3, 0, none⟩)) rfl rfl (by kernel_rfl) (by kernel_rfl) (by kernel_rfl) (fun _ _ _ h => h) ⟨Or.inl ⟨by rfl, by intro w; go_simp⟩, fun _ => rfl⟩ ?_
              refine wpAnyIn_take (i := 9) (v := .pointer (some ⟨M + 3, 4, none⟩)) rfl rfl (by kernel_rfl) (by kernel_rfl) (by kernel_rfl) (fun _ _ _ h => h) ⟨Or.inl ⟨by rfl, by intro w; go_simp⟩, fun _ => rfl⟩ ?_
              refine wpAnyIn_ready (rs := [10]) (by kernel_rfl) (by simp) (AllReadyIn.cons rfl (fun K hK => ?_) AllReadyIn.nil)
              go_simp
              refine hK _ _ ?_
              clear hK K
              refine wpAnyIn_done (by kernel_rfl) ?_ _
              gi_wp2
              rw [hz4]
              exact HFin.out _ hB3
            · go_simp
              gi_wp2_with ((gi_at_call 38; refine ((callsIn_wide (n := _)).2 (H38.out _)).mono ?_; rintro e W3 ⟨rfl, hB⟩; have hB3 : Below W1.heap.size W1 W3 := hB2.trans (hB.mono hB2.size); clear hB; have kp := cell_below yp hB3; have k4 := cell_below ys4 hB3; have k5 := cell_below ys5 hB3; have kf : ∀ i, W3.frozen? ⟨M + 3, i, none⟩ = false := fun i => (hB3.frozen (p := ⟨M + 3, i, none⟩) hl3).trans (yf i)))
              refine wpAnyIn_ready (rs := [0]) (by kernel_rfl) (by simp) (AllReadyIn.cons rfl (fun K hK => ?_) AllReadyIn.nil)
              go_simp
              refine hK _ _ ?_
              clear hK K
              refine wpAnyIn_take (i := 8) (v := .pointer (some ⟨M + 3, 0, none⟩)) rfl rfl (by kernel_rfl) (by kernel_rfl) (by kernel_rfl) (fun _ _ _ h => h) ⟨Or.inl ⟨by rfl, by intro w; go_simp⟩, fun _ => rfl⟩ ?_
              refine wpAnyIn_take (i := 9) (v := .pointer (some ⟨M + 3, 4, none⟩)) rfl rfl (by kernel_rfl) (by kernel_rfl) (by kernel_rfl) (fun _ _ _ h => h) ⟨Or.inl ⟨by rfl, by intro w; go_simp⟩, fun _ => rfl⟩ ?_
              refine wpAnyIn_ready (rs := [10]) (by kernel_rfl) (by simp) (AllReadyIn.cons rfl (fun K hK => ?_) AllReadyIn.nil)
              go_simp
              refine hK _ _ ?_
              clear hK K
              refine wpAnyIn_done (by kernel_rfl) ?_ _
              gi_wp2
              rw [hz4]
              exact HFin.out _ hB3
  case done =>
    intro D xs W hD hS hi hdf
    rw [hz4] at hD
    obtain ⟨v', P'⟩ := hi.at1 (fun e => by rw [hS] at e; have := congrArg List.length e; simp at this)
    have HD : Hid (PS M n rev F Z pb cap BB k (updL LL j [(f, z)]) (updL cc j (z - f + 1)) (updL vv j v') h hs g gs (sz + (z - f + 1)) W ∧ PK M w W ∧ W.heap[D]? = some (.deferred (some [])) ∧ w.heap.size + 4 ≤ D) := ⟨P', hi.pk, hdf, hD⟩
    have hdf' := hdf
    clear hi hdf hseq hIt hparts hB0 hP hD P'
    refine ⟨by simp, .inl ⟨_, _, rfl, run_takeDeferred hdf', ?_⟩⟩
    refine ⟨.tuple #[], ?_, rfl, ?_⟩
    · simp [results, go_sem]
    · obtain ⟨p1, p2, p3, p4⟩ := HD.out
      have hg := grownBy_putObj' W D (.deferred none)
      refine ⟨v', p1.grown (B := w.heap.size + 4) (by omega) (fun h0 => by have := hBBl h0; omega) hg (fun r e => by cases e; exact ⟨p4, _, p3, rfl⟩), p2.os, p2.tape, p2.output, by simpa using p2.size, fun b hb hc => ?_⟩
      exact (World.putObj_heap_other (by omega)).trans (p2.block b hb hc)
end
end Go.Proofs.Ybulkdlic
