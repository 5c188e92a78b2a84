/-
  DERIVED. alloc.LawS5618BWhole: THE POOL IN MEMORY, with its free sets and its two maps.
-/
import Derived.Test.YbulkdlicBPlain3
import Derived.Test.YbulkdlicBTier
import Derived.Test.YbulkdlicBMap
namespace Go.Proofs.Ybulkdlic
open Go.RowKit

/-- The tiers, in the order of their numbers. -/
structure Geo (n : Nat) (F Z : Nat → Nat) : Prop where
  le : n ≤ 256
  fz : ∀ i, i < n → F i ≤ Z i ∧ Z i ≤ F i + 255 ∧ Z i < 1000000
  sep : ∀ i j, i < j → j < n → Z i < F j

def pOf (M n : Nat) (rev : Bool) (F Z : Nat → Nat) (pb : Option Addr) (cap BB : Nat) : PL :=
  { n := n, cap := cap, BB := BB, TB := M + 2, PB := M + 3, pb := pb, o := fun i => pr rev n i * 7, Fh := fun _ => 0, Fl := fun i => (F i : Int), Lh := fun _ => 0, Ll := fun i => (Z i : Int) }

structure PS (M n : Nat) (rev : Bool) (F Z : Nat → Nat) (pb : Option Addr) (cap BB k : Nat) (LL : Nat → List (Nat × Nat)) (cc : Nat → Nat) (vv : Nat → Value) (h : List UInt8 → Option Nat) (hs : Nat) (g : Nat → Bool) (gs sz : Nat) (w : World) : Prop where
  pool : (pOf M n rev F Z pb cap BB).In w
  pbs : 0 < n → pb = some ⟨BB, 0, none⟩
  cH : w.cell? ⟨M + 3, 0, none⟩ = some (.map (some M))
  cB : w.cell? ⟨M + 3, 1, none⟩ = some (.map (some (M + 1)))
  cT : w.cell? ⟨M + 3, 2, none⟩ = some (.slice (some ⟨M + 2, 0, none⟩) n n)
  c4 : w.cell? ⟨M + 3, 4, none⟩ = some (.int .u64 0)
  c5 : w.cell? ⟨M + 3, 5, none⟩ = some (.int .u64 (sz : Int))
  fP : ∀ i, w.frozen? ⟨M + 3, i, none⟩ = false
  fs : ∀ t, t < n → FS (M + 4) (M + 2) (t * 7 + 4) (LL t) (cc t) (vv t) w
  ap : ∀ s t, s < n → t < n → s ≠ t → (vv s).ownBlock = none ∨ (vv s).ownBlock ≠ (vv t).ownBlock
  ab : ∀ t, t < n → (vv t).ownBlock ≠ some BB
  mH : HMap w M k h hs
  mB : BMp w (M + 1) k g gs
  bb : 0 < n → M + 4 ≤ BB
  lt : M + 4 ≤ w.heap.size

theorem own_block {w w' : World} {base e size n : Nat} {v : Value} {xs : List Value} (h : w.ownsRow base e size v n xs) (hb : ∀ g, v.ownBlock = some g → w'.heap[g]? = w.heap[g]?) : w'.ownsRow base e size v n xs := by
  refine ⟨h.1, h.2.imp id ?_⟩
  rintro ⟨g, cap, cur, rfl, h2, h3, h4⟩
  exact ⟨g, cap, cur, rfl, h2, (hb g rfl).trans h3, h4⟩

section
variable {M n : Nat} {rev : Bool} {F Z : Nat → Nat} {pb : Option Addr} {cap BB k : Nat} {LL : Nat → List (Nat × Nat)} {cc : Nat → Nat} {vv : Nat → Value} {h : List UInt8 → Option Nat} {hs : Nat} {g : Nat → Bool} {gs sz : Nat} {w w' : World}

theorem PS.below (P : PS M n rev F Z pb cap BB k LL cc vv h hs g gs sz w) (hb : Below w.heap.size w w') : PS M n rev F Z pb cap BB k LL cc vv h hs g gs sz w' :=
  ⟨P.pool.below hb, P.pbs, cell_below P.cH hb, cell_below P.cB hb, cell_below P.cT hb, cell_below P.c4 hb, cell_below P.c5 hb, fun i => (hb.frozen (p := ⟨M + 3, i, none⟩) (by have := P.lt; simp; omega)).trans (P.fP i), fun t ht => (P.fs t ht).below hb, P.ap, P.ab, P.mH.kept (grown_below hb) (by simp), P.mB.kept (grown_below hb) (by simp), P.bb, Nat.le_trans P.lt hb.size⟩

/-- A map's block alone has turned. -/
theorem PS.maps (P : PS M n rev F Z pb cap BB k LL cc vv h hs g gs sz w) {b : Nat} (hb : b = M ∨ b = M + 1) (hg : w.grownBy w' (some b)) {k' : Nat} {h' : List UInt8 → Option Nat} {hs' : Nat} {g' : Nat → Bool} {gs' : Nat} (mH : HMap w' M k' h' hs') (mB : BMp w' (M + 1) k' g' gs') :
    PS M n rev F Z pb cap BB k' LL cc vv h' hs' g' gs' sz w' := by
  have hl := P.lt
  have blk : ∀ x, x < w.heap.size → M + 2 ≤ x → w'.heap[x]? = w.heap[x]? := fun x h1 h2 => hg.block x h1 (fun e => by cases e; omega)
  have cel : ∀ x o u, M + 2 ≤ x → w.cell? ⟨x, o, none⟩ = some u → w'.cell? ⟨x, o, none⟩ = some u := fun x o u h2 hc => (World.cell?_of_block (w := w) (blk x (World.block_lt_of_cell? _ _ hc) h2)).trans hc
  refine ⟨⟨cel _ _ _ (by show M + 2 ≤ M + 3; omega) P.pool.sl, fun i hi => cel _ _ _ (by show M + 2 ≤ BB; have := P.bb (by have : i < n := hi; omega); omega) (P.pool.byv i hi), fun i hi => cel _ _ _ (Nat.le_refl _) (P.pool.f0 i hi), fun i hi => cel _ _ _ (Nat.le_refl _) (P.pool.f1 i hi), fun i hi => cel _ _ _ (Nat.le_refl _) (P.pool.f2 i hi), fun i hi => cel _ _ _ (Nat.le_refl _) (P.pool.f3 i hi)⟩, P.pbs, cel _ _ _ (by omega) P.cH, cel _ _ _ (by omega) P.cB, cel _ _ _ (by omega) P.cT, cel _ _ _ (by omega) P.c4, cel _ _ _ (by omega) P.c5, fun i => (World.frozen?_of_block (w := w) (blk (M + 3) (by omega) (by omega))).trans (P.fP i), fun t ht => ?_, P.ap, P.ab, mH, mB, P.bb, Nat.le_trans hl hg.size⟩
  have f := P.fs t ht
  refine ⟨cel _ _ _ (Nat.le_refl _) f.run, cel _ _ _ (Nat.le_refl _) f.chi, cel _ _ _ (Nat.le_refl _) f.clo, fun i => (World.frozen?_of_block (w := w) (blk (M + 2) (by omega) (by omega))).trans (f.fro i), f.own.kept hg ?_, f.lt, Nat.le_trans f.bs hg.size⟩
  cases e : (vv t).ownBlock with
  | none => exact .inl rfl
  | some x => exact .inr (fun e2 => by have := (f.own.lt x e).1; cases e2; omega)

def updL {α : Type} (f : Nat → α) (t : Nat) (x : α) : Nat → α := fun s => if s = t then x else f s
theorem updL_same {α : Type} {f : Nat → α} {t : Nat} {x : α} : updL f t x t = x := if_pos rfl
theorem updL_other {α : Type} {f : Nat → α} {s t : Nat} {x : α} (hne : s ≠ t) : updL f t x s = f s := if_neg hne

/-- One tier's free set has turned. -/
theorem PS.turn (P : PS M n rev F Z pb cap BB k LL cc vv h hs g gs sz w) {t : Nat} (ht : t < n) {L' : List (Nat × Nat)} {c' : Nat} {v' : Value} (f' : FS (M + 4) (M + 2) (t * 7 + 4) L' c' v' w') (u : FU (M + 2) (t * 7 + 4) (vv t) w w' v') :
    PS M n rev F Z pb cap BB k (updL LL t L') (updL cc t c') (updL vv t v') h hs g gs sz w' := by
  have hl := P.lt
  have ft := P.fs t ht
  have own : ∀ x, (vv t).ownBlock = some x → M + 4 ≤ x ∧ x < w.heap.size := fun x e => ft.own.lt x e
  have blk : ∀ x, x < w.heap.size → x < M + 2 ∨ x = M + 3 ∨ x = BB ∧ M + 4 ≤ BB → w'.heap[x]? = w.heap[x]? := fun x h1 h2 => u.block x h1 (by omega) (fun e => by
    rcases h2 with h2 | h2 | h2
    · have := (own x e.symm).1; omega
    · have := (own x e.symm).1; omega
    · exact P.ab t ht (by rw [← e, h2.1]))
  have c3 : ∀ o z, w.cell? ⟨M + 3, o, none⟩ = some z → w'.cell? ⟨M + 3, o, none⟩ = some z := fun o z hc => (World.cell?_of_block (w := w) (blk _ (World.block_lt_of_cell? _ _ hc) (.inr (.inl rfl)))).trans hc
  have cB' : ∀ o z, 0 < n → w.cell? ⟨BB, o, none⟩ = some z → w'.cell? ⟨BB, o, none⟩ = some z := fun o z h0 hc => (World.cell?_of_block (w := w) (blk _ (World.block_lt_of_cell? _ _ hc) (.inr (.inr ⟨rfl, P.bb h0⟩)))).trans hc
  have cT' : ∀ i d z, d < 4 → w.cell? ⟨M + 2, i * 7 + d, none⟩ = some z → w'.cell? ⟨M + 2, i * 7 + d, none⟩ = some z := fun i d z hd hc => (u.cell (i * 7 + d) (by omega) (by omega) (by omega)).trans hc
  have hmg : ∀ b, b < M + 2 → w'.heap[b]? = w.heap[b]? := fun b hb => blk b (by omega) (.inl hb)
  refine ⟨⟨c3 _ _ P.pool.sl, fun i hi => cB' _ _ (by have : i < n := hi; omega) (P.pool.byv i hi), fun i hi => cT' _ 0 _ (by omega) (P.pool.f0 i hi), fun i hi => cT' _ 1 _ (by omega) (P.pool.f1 i hi), fun i hi => cT' _ 2 _ (by omega) (P.pool.f2 i hi), fun i hi => cT' _ 3 _ (by omega) (P.pool.f3 i hi)⟩, P.pbs, c3 _ _ P.cH, c3 _ _ P.cB, c3 _ _ P.cT, c3 _ _ P.c4, c3 _ _ P.c5, fun i => (World.frozen?_of_block (w := w) (blk (M + 3) (by omega) (by omega))).trans (P.fP i), fun s hs => ?_, fun s r hs hr hne => ?_, fun s hs => ?_, ?_, ?_, P.bb, Nat.le_trans hl u.size⟩
  · by_cases e : s = t
    · subst e
      rw [updL_same, updL_same, updL_same]
      exact f'
    · rw [updL_other e, updL_other e, updL_other e]
      have f := P.fs s hs
      refine ⟨(u.cell _ (by omega) (by omega) (by omega)).trans f.run, (u.cell _ (by omega) (by omega) (by omega)).trans f.chi, (u.cell _ (by omega) (by omega) (by omega)).trans f.clo, fun i => (u.fro i).trans (f.fro i), own_block f.own (fun x e => ?_), f.lt, Nat.le_trans f.bs u.size⟩
      have hx := f.own.lt x e
      refine u.block x hx.2 (by omega) (fun e2 => ?_)
      rcases P.ap s t hs ht (by assumption) with h1 | h1
      · rw [h1] at e; cases e
      · exact h1 (e.trans e2)
  · have fresh : ∀ q, q < n → q ≠ t → (vv q).ownBlock = none ∨ (vv q).ownBlock ≠ v'.ownBlock := fun q hq hne => by
      rcases u.at_ with h1 | ⟨x, h1, h2⟩
      · rw [h1]; exact P.ap q t hq ht hne
      · refine .inr (fun e => ?_)
        have := ((P.fs q hq).own.lt x (e.trans h1)).2
        omega
    by_cases e1 : s = t
    · subst e1
      rw [updL_same, updL_other (Ne.symm hne)]
      rcases fresh r hr (Ne.symm hne) with h1 | h1
      · rw [h1]
        cases v'.ownBlock with
        | none => exact .inl rfl
        | some _ => exact .inr (by simp)
      · exact .inr (Ne.symm h1)
    · rw [updL_other e1]
      by_cases e2 : r = t
      · subst e2
        rw [updL_same]
        exact fresh s hs e1
      · rw [updL_other e2]
        exact P.ap s r hs hr hne
  · by_cases e1 : s = t
    · subst e1
      rw [updL_same]
      rcases u.at_ with h1 | ⟨x, h1, h2⟩
      · rw [h1]; exact P.ab s hs
      · intro e
        rw [h1] at e
        cases e
        have hbyv : w.cell? ⟨BB, 0, none⟩ = _ := P.pool.byv 0 (by show 0 < n; omega)
        have := World.block_lt_of_cell? _ _ hbyv
        simp at this
        omega
    · rw [updL_other e1]
      exact P.ab s hs
  · obtain ⟨D, d1, d2⟩ := P.mH
    obtain ⟨es, cl, e1, e2⟩ := d1
    exact ⟨D, ⟨es, cl, (hmg M (by omega)).trans e1, e2⟩, d2⟩
  · obtain ⟨D, d1, d2⟩ := P.mB
    obtain ⟨es, cl, e1, e2⟩ := d1
    exact ⟨D, ⟨es, cl, (hmg (M + 1) (by omega)).trans e1, e2⟩, d2⟩

theorem pr_pr' {n i : Nat} (rev : Bool) (hi : i < n) : pr rev n (pr rev n i) = i := by unfold pr; split <;> omega
theorem pr_lt' {n i : Nat} (rev : Bool) (hi : i < n) : pr rev n i < n := by unfold pr; split <;> omega

theorem cmp0 (a b : Nat) : cmp3 0 (a : Int) 0 (b : Int) < 0 ↔ a < b := by rw [cmp3_lt]; omega
theorem cmp0g (a b : Nat) : cmp3 0 (a : Int) 0 (b : Int) > 0 ↔ b < a := by rw [cmp3_gt]; omega
theorem cmp0l (a b : Nat) : cmp3 0 (a : Int) 0 (b : Int) ≤ 0 ↔ a ≤ b := by rw [cmp3_le]; omega
theorem pOf_ok {M n : Nat} {rev : Bool} {F Z : Nat → Nat} {pb : Option Addr} {cap BB : Nat} (u v i : Nat) :
    (pOf M n rev F Z pb cap BB).aL 0 (u : Int) i = ((if F i < u then u else F i : Nat) : Int) ∧ (pOf M n rev F Z pb cap BB).zL 0 (v : Int) i = ((if v < Z i then v else Z i : Nat) : Int) ∧ (pOf M n rev F Z pb cap BB).aH 0 (u : Int) i = 0 ∧ (pOf M n rev F Z pb cap BB).zH 0 (v : Int) i = 0 := by
  refine ⟨?_, ?_, ?_, ?_⟩
  · show (if cmp3 0 (F i : Int) 0 (u : Int) < 0 then (u : Int) else (F i : Int)) = _
    by_cases e : F i < u
    · rw [if_pos ((cmp0 _ _).2 e), if_pos e]
    · rw [if_neg (fun x => e ((cmp0 _ _).1 x)), if_neg e]
  · show (if cmp3 0 (Z i : Int) 0 (v : Int) > 0 then (v : Int) else (Z i : Int)) = _
    by_cases e : v < Z i
    · rw [if_pos ((cmp0g _ _).2 e), if_pos e]
    · rw [if_neg (fun x => e ((cmp0g _ _).1 x)), if_neg e]
  · show (if cmp3 0 (F i : Int) 0 (u : Int) < 0 then (0 : Int) else 0) = 0
    split <;> rfl
  · show (if cmp3 0 (Z i : Int) 0 (v : Int) > 0 then (0 : Int) else 0) = 0
    split <;> rfl
theorem pOf_ok' {M n : Nat} {rev : Bool} {F Z : Nat → Nat} {pb : Option Addr} {cap BB : Nat} (u v i : Nat) :
    (pOf M n rev F Z pb cap BB).ok 0 (u : Int) 0 (v : Int) i = decide ((if F i < u then u else F i) ≤ (if v < Z i then v else Z i)) := by
  obtain ⟨h1, h2, h3, h4⟩ := @pOf_ok M n rev F Z pb cap BB u v i
  unfold PL.ok
  rw [h1, h2, h3, h4]
  congr 1
  exact propext (cmp0l _ _)

/-- Where x lies among the tiers. -/
theorem Geo.pos (G : Geo n F Z) (x : Nat) : ∃ i, i ≤ n ∧ (∀ k, k < i → Z k < x) ∧ ∀ k, i ≤ k → k < n → x ≤ Z k := by
  have key : ∀ m, m ≤ n → ∃ i, i ≤ m ∧ (∀ k, k < i → Z k < x) ∧ ∀ k, i ≤ k → k < m → x ≤ Z k := by
    intro m
    induction m with
    | zero => intro _; exact ⟨0, Nat.le_refl _, fun k hk => by omega, fun k _ hk => by omega⟩
    | succ m ih =>
      intro hm
      obtain ⟨i, h1, h2, h3⟩ := ih (by omega)
      by_cases e : Z m < x
      · refine ⟨m + 1, Nat.le_refl _, fun k hk => ?_, fun k h1 h2 => by omega⟩
        by_cases ek : k = m
        · rw [ek]; exact e
        · have := G.sep k m (by omega) (by omega)
          have := (G.fz m (by omega)).1
          omega
      · refine ⟨i, by omega, h2, fun k hk hk2 => ?_⟩
        by_cases ek : k = m
        · rw [ek]; omega
        · exact h3 k hk (by omega)
  exact key n (Nat.le_refl _)

/-- tierOf. -/
theorem PS.tierOf (G : Geo n F Z) (P : PS M n rev F Z pb cap BB k LL cc vv h hs g gs sz w) (x : Nat) :
    Calls Yba.prog 30 #[.pointer (some ⟨M + 3, 0, none⟩), .agg #[.int .u64 0, .int .u64 (x : Int)]] w fun e w' =>
      ((∃ t, t < n ∧ F (pr rev n t) ≤ x ∧ x ≤ Z (pr rev n t) ∧ e = .returned (.tuple #[.pointer (some ⟨M + 2, t * 7, none⟩), .bool true])) ∨ ((∀ t, t < n → ¬ (F (pr rev n t) ≤ x ∧ x ≤ Z (pr rev n t))) ∧ e = .returned (.tuple #[.pointer none, .bool false]))) ∧ Below w.heap.size w w' := by
  obtain ⟨i, h1, h2, h3⟩ := G.pos x
  have hl := P.lt
  have key : ∀ m, i + m ≤ n → (∀ j, i ≤ j → j < i + m → F j ≤ x) → (i + m < n → x < F (i + m)) → _ := fun m him hok hno => tierOf_any (pOf M n rev F Z pb cap BB) i m x w P.pool (by show n ≤ 65536; have := G.le; omega) (pl_ix P.pbs) him (fun k hk => (cmp0 _ _).2 (h2 k hk)) (fun k hk hk2 e => by have := h3 k hk hk2; have := (cmp0 _ _).1 e; omega)
    (fun j hj hj2 => by
      rw [pOf_ok', decide_eq_true_eq]
      have := hok j hj hj2
      have := h3 j hj (by have : i + m ≤ n := him; omega)
      split <;> split <;> omega)
    (fun hm => by
      rw [pOf_ok', decide_eq_false_iff_not]
      have := hno hm
      have := h3 (i + m) (by omega) hm
      split <;> split <;> omega)
    (by show M + 3 < _; omega) (by show M + 2 < _; omega) (fun h0 => World.block_lt_of_cell? _ _ (P.pool.byv 0 h0))
  by_cases hin : i < n ∧ F i ≤ x
  · refine (key 1 (by omega) (fun j hj hj2 => by rw [show j = i by omega]; exact hin.2) (fun hm => by have := G.sep i (i + 1) (by omega) hm; have := h3 i (Nat.le_refl _) hin.1; omega)).mono ?_
    rintro e w' ⟨rfl, hb⟩
    refine ⟨.inl ⟨pr rev n i, pr_lt' rev hin.1, ?_, ?_, ?_⟩, hb⟩
    · rw [pr_pr' rev hin.1]; exact hin.2
    · rw [pr_pr' rev hin.1]; exact h3 i (Nat.le_refl _) hin.1
    · rfl
  · refine (key 0 (by omega) (fun j hj hj2 => by omega) (fun hm => by show x < F i; have : i < n := hm; omega)).mono ?_
    rintro e w' ⟨rfl, hb⟩
    refine ⟨.inr ⟨fun t ht hx => ?_, rfl⟩, hb⟩
    have hq := pr_lt' rev ht
    revert hx hq
    generalize pr rev n t = j
    intro hx hq
    rcases Nat.lt_trichotomy j i with hji | hji | hji
    · have := h2 j hji; omega
    · subst hji; exact hin ⟨hq, hx.1⟩
    · have := G.sep i j hji hq
      have := h3 i (Nat.le_refl _) (by omega)
      omega
end

end Go.Proofs.Ybulkdlic
