/-
  DERIVED. alloc.LawS5618AWhole: THE TWO RANGES: their side goals.
-/
import Derived.Test.YbulkdlicRound
import Derived.LaidEqlPtr
namespace Go.Proofs.Ybulkdlic
open Go.RowKit Go.Shelf

/-- Two pointers into one block. -/
theorem run_equal_ptr_block {P : Program} {tp te : TypeId} {j : TypeInfo} (w : World) (b i k : Nat) (hp : P.underlying tp = some (.pointer te)) (hte : P.info? te = some j) (hsz : j.size ≠ 0) :
    (Op.equal tp (.pointer (some ⟨b, i, none⟩)) (.pointer (some ⟨b, k, none⟩))).run P w = .ok (decide (i = k)) w := by
  by_cases e : i = k
  · subst e
    have h : ∀ d : Nat, (Op.equalIn (d + 1) tp (.pointer (some ⟨b, i, none⟩)) (.pointer (some ⟨b, i, none⟩))).run P w = .ok true w := fun d => by
      simp [Op.equalIn, run_underlying hp, sizeOf, typeInfo, hte, run_sameAddr_same]
    simp [Op.equal, Op.maxDepth, h 9999]
  · have hs : (sameAddr ⟨b, i, none⟩ ⟨b, k, none⟩).run P w = .ok false w := by simp [sameAddr]
    have h : ∀ d : Nat, (Op.equalIn (d + 1) tp (.pointer (some ⟨b, i, none⟩)) (.pointer (some ⟨b, k, none⟩))).run P w = .ok false w := fun d => by
      simp [Op.equalIn, run_underlying hp, sizeOf, typeInfo, hte, hsz, hs]
    simp [Op.equal, Op.maxDepth, h 9999, e]

theorem info44_some : ∃ j, Yba.prog.info? 44 = some j ∧ j.size ≠ 0 := by
  have h := info44
  cases e : Yba.prog.info? 44 with
  | none => rw [e] at h; simp at h
  | some j => rw [e] at h; simp at h; exact ⟨j, rfl, by omega⟩
theorem under40 : Yba.prog.underlying 40 = some (.pointer 44) := by kernel_rfl
theorem equal40 (W : World) (b i k : Nat) : (Op.equal 40 (.pointer (some ⟨b, i, none⟩)) (.pointer (some ⟨b, k, none⟩))).run Yba.prog W = .ok (decide (i = k)) W := by
  obtain ⟨j, h1, h2⟩ := info44_some
  exact run_equal_ptr_block W b i k under40 h1 h2
theorem neq40 (W : World) (b i k : Nat) : (binOp .neq 40 (.pointer (some ⟨b, i, none⟩)) (.pointer (some ⟨b, k, none⟩))).run Yba.prog W = .ok (.bool (!decide (i = k))) W := by
  simp only [binOp]
  simp [equal40]

/-- The wide fence asks nothing. -/
theorem asked_wide (P : Program) (o : Oper) (a : Act) (C : World → Prop) : Oper.askedIn Fence.wide P o a C = True := eq_true fun _ _ _ _ => trivial

theorem wide_fn (f : FuncId) : Fence.wide.fn f = True := rfl

/-- What a round keeps of the iterator's own. -/
theorem PL.It.kr {p : PL} {E x y Z bp br : Nat} {th tl uh ul : Int} {W W' : World} (hk : KR x y Z W W') (hx : E ≤ x ∨ (x ≠ p.PB ∧ x ≠ p.TB ∧ x ≠ p.BB)) (hy : E ≤ y) (hPB : p.PB < E) (hTB : p.TB < E) (hBB : 0 < p.n → p.BB < E) (hZ : E ≤ Z)
    (hb1 : bp < Z ∧ bp ≠ x ∧ bp ≠ y) (hb2 : br < Z ∧ br ≠ x ∧ br ≠ y) (h : p.It bp br th tl uh ul W) : p.It bp br th tl uh ul W' := by
  have kc : ∀ {b o : Nat} {v : Value}, b < Z → b ≠ x → b ≠ y → W.cell? ⟨b, o, none⟩ = some v → W'.cell? ⟨b, o, none⟩ = some v := fun {b o} {_} h1 h2 h3 hv => (hk.cell h1 h2 h3).trans hv
  have n1 : p.PB < Z ∧ p.PB ≠ x ∧ p.PB ≠ y := ⟨by omega, by omega, by omega⟩
  have n2 : p.TB < Z ∧ p.TB ≠ x ∧ p.TB ≠ y := ⟨by omega, by omega, by omega⟩
  have n3 : ∀ {k}, k < p.n → p.BB < Z ∧ p.BB ≠ x ∧ p.BB ≠ y := fun {k} hk => by have := hBB (by omega); exact ⟨by omega, by omega, by omega⟩
  exact ⟨⟨kc n1.1 n1.2.1 n1.2.2 h.pool.sl, fun k hk => kc (n3 hk).1 (n3 hk).2.1 (n3 hk).2.2 (h.pool.byv k hk), fun k hk => kc n2.1 n2.2.1 n2.2.2 (h.pool.f0 k hk), fun k hk => kc n2.1 n2.2.1 n2.2.2 (h.pool.f1 k hk), fun k hk => kc n2.1 n2.2.1 n2.2.2 (h.pool.f2 k hk), fun k hk => kc n2.1 n2.2.1 n2.2.2 (h.pool.f3 k hk)⟩,
    kc hb1.1 hb1.2.1 hb1.2.2 h.bp, kc hb2.1 hb2.2.1 hb2.2.2 h.r0, kc hb2.1 hb2.2.1 hb2.2.2 h.r1, kc hb2.1 hb2.2.1 hb2.2.2 h.r2, kc hb2.1 hb2.2.1 hb2.2.2 h.r3⟩

/-- A round that goes on: the count up by one. -/
theorem round_on {bo bk Z B q nq : Nat} {to tk : TypeId} {vo : Value} {A W : World} (hne : bo ≠ bk) (hkr : KR bo bk Z A W) (hbo : Boxed W bo to vo) (hbk : Boxed W bk tk (.int .i64 (q : Int))) :
    KeepsFrom B W ((W.drewN nq).setCell ⟨bk, 0, none⟩ (.int .i64 ((q : Int) + 1))) ∧ KR bo bk Z W ((W.drewN nq).setCell ⟨bk, 0, none⟩ (.int .i64 ((q : Int) + 1))) ∧
      KR bo bk Z A ((W.drewN nq).setCell ⟨bk, 0, none⟩ (.int .i64 ((q : Int) + 1))) ∧ Boxed ((W.drewN nq).setCell ⟨bk, 0, none⟩ (.int .i64 ((q : Int) + 1))) bo to vo ∧ Boxed ((W.drewN nq).setCell ⟨bk, 0, none⟩ (.int .i64 ((q : Int) + 1))) bk tk (.int .i64 (((q + 1 : Nat)) : Int)) := by
  have h1 : KR bo bk Z W ((W.drewN nq).setCell ⟨bk, 0, none⟩ (.int .i64 ((q : Int) + 1))) := KR.trans (KR.of_below (below_drewN (Below.refl _ W) nq)) (KR.setCell _ _ (.inr (.inl rfl)))
  have b0 : Boxed (W.drewN nq) bo to vo := hbo.kept (grown_below (below_drewN (Below.refl _ W) nq)) (by simp)
  have b1 : Boxed (W.drewN nq) bk tk (.int .i64 (q : Int)) := hbk.kept (grown_below (below_drewN (Below.refl _ W) nq)) (by simp)
  refine ⟨?_, h1, hkr.trans h1, b0.other hne _, b1.set _⟩
  exact ((KeepsOthers.of_grownBy (grown_below (below_drewN (Below.refl _ W) nq)) (fun j o e => by cases e)).trans (KeepsOthers.setCell _ _ _)).from B

/-- A round that stops. -/
theorem round_off {bo B nq : Nat} {W : World} (v : Value) : KeepsFrom B W ((W.drewN nq).setCell ⟨bo, 0, none⟩ v) :=
  ((KeepsOthers.of_grownBy (grown_below (below_drewN (Below.refl _ W) nq)) (fun j o e => by cases e)).trans (KeepsOthers.setCell _ _ _)).from B

/-- The relation abides what the range itself lays. -/
theorem kr_own {β : Type} (x y Z B : Nat) (A : World) (hZ : Z ≤ A.heap.size) (hB : Z ≤ B) : OwnFrom B (fun (_ : β) W => KR x y Z A W) := fun _ _ _ _ hs hg hr => hs.grown hg (Nat.le_trans hZ hs.size) (fun r e => Nat.le_trans hB (hr r e).1)

section
variable {w : World} {n : Nat} {rev : Bool} {h : Int} {gap ln : Nat → Nat} {pb : Option Addr} {cap BB : Nat} {th tl uh ul : Int} {i0 c : Nat}

theorem pl_ok (hcd : ∀ k, k < n → (Cond h (firN gap ln) (lasN gap ln) th tl uh ul k ↔ i0 ≤ k ∧ k < i0 + c)) (hic : i0 + c ≤ n) : ∀ k, i0 ≤ k → k < i0 + c → (plOf w n rev h gap ln pb cap BB).ok th tl uh ul k = true := fun k h1 h2 => by
  have h3 := (ok_iff h (firN gap ln) (lasN gap ln) th tl uh ul k (by unfold firN lasN; omega)).2 ((hcd k (by omega)).2 ⟨h1, h2⟩)
  unfold PL.ok
  exact decide_eq_true h3
theorem pl_no (hcd : ∀ k, k < n → (Cond h (firN gap ln) (lasN gap ln) th tl uh ul k ↔ i0 ≤ k ∧ k < i0 + c)) : i0 + c < n → (plOf w n rev h gap ln pb cap BB).ok th tl uh ul (i0 + c) = false := fun h1 => by
  unfold PL.ok
  refine decide_eq_false fun h3 => ?_
  have h4 := (hcd _ h1).1 ((ok_iff h (firN gap ln) (lasN gap ln) th tl uh ul (i0 + c) (by unfold firN lasN; omega)).1 h3)
  omega
end

theorem size40 (W : World) : (sizeOf 40).run Yba.prog W = .ok 1 W := by kernel_rfl
theorem elem48 : Yba.prog.elem 48 = 40 := by kernel_rfl
theorem pl_ix {BB n cap : Nat} {pb : Option Addr} (hpb : 0 < n → pb = some ⟨BB, 0, none⟩) : ∀ (k : Nat), k < n → ∀ W, (Instr.indexAt 48 (.slice pb n cap) (.int .i64 k)).run Yba.prog W = .ok (.pointer (some ⟨BB, k, none⟩)) W := fun k hk W => by
  rw [hpb (by omega), run_indexAt_slice W 48 ⟨BB, 0, none⟩ n cap .i64 k (by rw [elem48]; exact Yba.underlying48), if_pos (by omega), elem48, size40]
  simp [Result.andThen, Addr.add]
  intro e; omega

theorem KR.below {x y Z : Nat} {A B : World} (h : KR x y Z A B) (E : Nat) (h1 : E ≤ x) (h2 : E ≤ y) (h3 : E ≤ Z) : Below E A B := ⟨h.os, h.tape, h.output, h.size, fun b hb => h.block b (by omega) (by omega) (by omega)⟩

/-- The iterator's own, its two captured variables laid afresh. -/
theorem it_start {p : PL} {th tl uh ul : Int} {W : World} (hp : p.In W) : p.It W.heap.size (W.heap.size + 1) th tl uh ul ((W.alloc (.cells #[.pointer (some ⟨p.PB, 0, none⟩)] 33)).alloc (.cells #[.int .u64 th, .int .u64 tl, .int .u64 uh, .int .u64 ul] 31)) := by
  refine ⟨hp.below (((Below.refl _ W).alloc (Nat.le_refl _) _).alloc (by simp) _), keepA _ (newAt rfl rfl), ?_, ?_, ?_, ?_⟩
  all_goals exact newAt (by simp) rfl

/-- The wanted indices' slice, written out. -/
theorem DInv.vi_form {w : World} {n : Nat} {rev : Bool} {h : Int} {gap ln : Nat → Nat} {pb : Option Addr} {cap BB M : Nat} {th tl uh ul : Int} {i0 qi qp : Nat} {vi vp : Value} {wr : World} (D : DInv w n rev h gap ln pb cap BB M th tl uh ul i0 qi qp vi vp wr) : ∃ p cp, vi = .slice p qi cp := by
  rcases D.oi.2 with ⟨rfl, h0⟩ | ⟨g, cp, _, rfl, _⟩
  · exact ⟨none, 0, by rw [show qi = 0 by simpa using h0]⟩
  · exact ⟨_, _, rfl⟩

/-- range2, where a break comes to the same place as the end. -/
theorem range2x {α : Type} {F : Fence} {n : Nat} {P : Program} {g : Operand} {ps : Array Tmp} {assign body : Code} {Q : Exit → Act → World → Prop} {a : Act} {w : World}
    (hro : F.round = none) (h1 : 1 ≤ n) {gf : Nat} {lb : Array Value} (hg : a.eval g = .func (.func gf) #[] lb) (hFg : F.fn gf) (eg : ∀ args w, (callFunc gf args).run P w = .ok (.enter gf args) w)
    (p1 p2 s1 s2 : Nat) (tv : α → Value) (pv : α → Value) (pcs : α → Array Value) {Kp : World → World → Prop} {S Sp : List α → Prop} {N : Nat} {w0 : World} (hseq : SeqStopsK F (n - 1) P gf lb (fun x => #[tv x, pv x]) Kp S Sp N w0)
    (hKt : ∀ {A B C : World}, Kp A B → Kp B C → Kp A C) (hKb : ∀ (W : World) (l : Nat) (o o' : Obj), w.heap.size ≤ l → W.heap[l]? = some o → o.isCells = false → o.isWalk = false → Kp W (W.putObj l o')) (hb0 : Below w0.heap.size w0 w) (hps : ps.size = 2)
    (I : List α → World → Prop) (Ix : Code → List α → World → Prop) (hI : OwnFrom w.heap.size I) (hIx : ∀ c, OwnFrom w.heap.size (Ix c)) (h0 : I [] w)
    (R : World → Prop) (hR1 : ∀ xs W, S xs → I xs W → R W) (id : Nat) (hQ : ∀ a w, Q .normal a w → Q (.exit id) a w) (hR2 : ∀ c pre W, Sp pre → Ix c pre W → c = .exit id ∧ R W)
    (hassign : ∀ (l : Nat) (pre : List α) (x : α) (W : World) (K : Act → World → Prop), I pre W →
      (∀ W' Bx, KeepsFrom w.heap.size W W' → Kp W W' → I pre W' → w.heap.size ≤ Bx → W'.heap[Bx]? = some (.cells (pcs x) 31 (0, 0)) → K (bframe a p1 p2 s1 s2 (tv x) (pv x) Bx) W') →
      assign.wpIn (F.inRound l) (n - 1 - 1) P (Exit.then K (fun _ _ _ => False)) { tmps := (ps.zip #[tv x, pv x]).foldl (fun t (p, v) => t.setIfInBounds p v) a.tmps, defers := [] } W)
    (hbody : ∀ (l : Nat) (pre : List α) (x : α) (Bx : Nat) (W : World), I pre W → w.heap.size ≤ Bx → W.heap[Bx]? = some (.cells (pcs x) 31 (0, 0)) → pre.length < N → body.wpIn (F.inRound l) (n - 1 - 1) P (ownPostG w.heap.size Kp I Ix (pre ++ [x]) W) (bframe a p1 p2 s1 s2 (tv x) (pv x) Bx) W)
    (hend : ∀ (D : Nat) (W : World), w.heap.size ≤ D → R W → W.heap[D]? = some (.deferred (some [])) → Q .normal { a with defers := { target := .collected D, args := #[] } :: a.defers } W) :
    (Code.rangeFunc g ps assign body).wpIn F n P Q a w := by
  refine range2 hro h1 hg hFg eg p1 p2 s1 s2 tv pv pcs hseq hKt hKb hb0 hps I Ix hI hIx h0 hassign hbody (fun D xs W h2 h3 h4 h5 => hend D W h2 (hR1 xs W h3 h4) h5) (fun D c pre W h2 h3 h4 h5 => ?_)
  obtain ⟨rfl, h6⟩ := hR2 c pre W h3 h4
  exact wpIn_exit (hQ _ _ (hend D W h2 h6 h5))

theorem KR.below_same {x y Z : Nat} {A B : World} (h : KR x y Z A B) (hx : B.heap[x]? = A.heap[x]?) (E : Nat) (h2 : E ≤ y) (h3 : E ≤ Z) : Below E A B :=
  ⟨h.os, h.tape, h.output, h.size, fun b hb => by
    by_cases e : b = x
    · rw [e]; exact hx
    · exact h.block b (by omega) e (by omega)⟩

/-- How many the second range is to see. -/
def wm (s c : Nat) : Nat := if s ≠ 0 ∧ s < c then s else c
theorem wm_all {s c : Nat} (h : s = 0 ∨ c < s) : wm s c = c := by unfold wm; rw [if_neg (by omega)]
theorem wm_stop {s c : Nat} (h : 0 < s) (h1 : s ≤ c) : wm s c = s := by unfold wm; split <;> omega

theorem ownFrom_imp {β : Type} {B : Nat} {p : β → Prop} {I : β → World → Prop} (h : OwnFrom B I) : OwnFrom B (fun s W => p s → I s W) := fun s W W' row hs hg hr hp => h s W W' row (hs hp) hg hr

theorem get_map {W : World} {b : Nat} (h : W.heap[b]? = some (.map #[] 0)) : ∀ n, (getObj b).run Yba.prog (W.drewN n) = .ok (.map #[] 0) (W.drewN n) := fun n => MapKept.run_getObj_map (w := W.drewN n) h
theorem len45 {W : World} {b : Nat} (h : W.heap[b]? = some (.map #[] 0)) : ∀ n ty, (Builtin.len_ #[45] ty #[.map (some b)]).run Yba.prog (W.drewN n) = .ok (.int .i64 0) (W.drewN n) := fun n ty => by
  simp [Builtin.len_, run_underlying Yba.underlying45, get_map h, goInt, Result.andThen]
theorem len46 {W : World} {b : Nat} (h : W.heap[b]? = some (.map #[] 0)) : ∀ n ty, (Builtin.len_ #[46] ty #[.map (some b)]).run Yba.prog (W.drewN n) = .ok (.int .i64 0) (W.drewN n) := fun n ty => by
  simp [Builtin.len_, run_underlying Yba.underlying46, get_map h, goInt, Result.andThen]

theorem below_put {B : Nat} {A W : World} (h : Below B A W) (l : Nat) (o : Obj) (hl : B ≤ l) : Below B A (W.putObj l o) := h.trans ⟨rfl, rfl, rfl, by simp, fun b hb => World.putObj_heap_other (by omega)⟩

/-- x behind pre: a prefix of all just when x's turn has come. -/
theorem pre_next {c : Nat} {pre : List (Fin c)} {x : Fin c} (h : (pre ++ [x]) <+: List.finRange c) : x.1 = pre.length := by
  obtain ⟨t, ht⟩ := h
  have h1 : (List.finRange c)[pre.length]? = some x := by rw [← ht]; simp
  obtain ⟨h2, h3⟩ := List.getElem?_eq_some_iff.1 h1
  rw [← h3]; simp

end Go.Proofs.Ybulkdlic
