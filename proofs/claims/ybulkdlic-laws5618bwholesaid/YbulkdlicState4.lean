/-
  DERIVED. alloc.LawS5618AWhole: THE THIRD LOOP's TWO APPENDS, at the operation.
-/
import Derived.Test.YbulkdlicState3
namespace Go.Proofs.Ybulkdlic
open Go.RowKit Go.Shelf

theorem info3 : (Yba.prog.info? 3).map (fun i => (i.zero, i.size, i.bytes)) = some (some (.int .i64 0), 1, 8) := by kernel_rfl

theorem news1 {W : World} {S : Nat} (hS : W.heap.size = S) (u : Value) (t : TypeId) : ∀ (j : Nat) (x : Value), [u][j]? = some x → (W.alloc (.cells #[u] t)).cell? ((⟨S, 0, none⟩ : Addr).add j) = some x := by
  subst hS; exact cell_one_new W u t
theorem news4 {W : World} {S : Nat} (hS : W.heap.size = S) (a b c d : Value) (t : TypeId) : ∀ (j : Nat) (x : Value), [a, b, c, d][j]? = some x → (W.alloc (.cells #[a, b, c, d] t)).cell? ((⟨S, 0, none⟩ : Addr).add j) = some x := by
  subst hS; exact World.news_of_block (heap_alloc_new W (.cells #[a, b, c, d] t))

theorem grow_cell {X w1 : World} {v : Value} {n0 : Nat} (hg : X.grownBy w1 v.ownBlock) (hv : ∀ b, v.ownBlock = some b → b < n0) {b o : Nat} {u : Value} (hb : n0 ≤ b) (hc : X.cell? ⟨b, o, none⟩ = some u) : w1.cell? ⟨b, o, none⟩ = some u := by
  rw [hg.cell_far ⟨b, o, none⟩ (World.block_lt_of_cell? _ _ hc) (fun e => by have := hv b e.symm; omega)]
  exact hc

section
variable {w : World} {n : Nat} {rev : Bool} {h : Int} {gap ln : Nat → Nat} {pb : Option Addr} {cap BB M : Nat} {th tl uh ul : Int} {i0 q : Nat} {vi vp : Value} {wr : World}

/-- 'wantIdx = append(wantIdx, i)' at the operation: X, the world where the one-cell block has been laid. -/
theorem app1 {ops : Array Oper} {rest : List Oper} {o : Oper} {a : Act} {Q : Exit → Act → World → Prop} {X : World} (hgd : o.guard = none) (kk S : Nat)
    (ho : o.op = .call { callee := .builtin .append, args := #[.tmp 171, .tmp 173], argTypes := #[35, 35] }) (hk : i0 + q = kk) (hq : q ≤ 65536)
    (D : DInv w n rev h gap ln pb cap BB M th tl uh ul i0 q q vi vp X) (hS : X.heap.size = S)
    (h1 : a.eval (.tmp 171) = vi) (h2 : a.eval (.tmp 173) = .slice (some ⟨S, 0, none⟩) 1 1)
    (H : ∀ g1 cap1 w1, w1.cell? ⟨M + 1 + 1, 0, none⟩ = some vi → w1.frozen? ⟨M + 1 + 1, 0, none⟩ = false → w1.cell? ⟨M + 1 + 1 + 1, 0, none⟩ = some vp → (X.alloc (.cells #[.int .i64 (kk : Int)] 3)).grownBy w1 vi.ownBlock →
      DInv w n rev h gap ln pb cap BB M th tl uh ul i0 (q + 1) q (.slice (some ⟨g1, 0, none⟩) (q + 1) cap1) vp (w1.setCell ⟨M + 1 + 1, 0, none⟩ (.slice (some ⟨g1, 0, none⟩) (q + 1) cap1)) →
      wpList Yba.prog ops Q rest (a.put o.dst (.slice (some ⟨g1, 0, none⟩) (q + 1) cap1)) w1) :
    wpList Yba.prog ops Q (o :: rest) a (X.alloc (.cells #[.int .i64 (kk : Int)] 3)) := by
  obtain ⟨i3, hi, hz0, hz1, hz2⟩ := info_parts info3
  have l2 := lt_of_block D.bq
  refine wpList_append_lies _ hgd (.tmp 171) (.tmp 173) 35 ho (M + 4) 3 i3 (.int .i64 0) 1 8 Yba.underlying35 hi hz0 hz1 hz2 rfl (by decide) vi q _ h1 (D.oi.alloc _) ⟨S, 0, none⟩ 1 1 [.int .i64 (kk : Int)] h2 rfl (news1 hS _ _) (by simp [Value.oneCell']) (by omega) (by unfold maxLen; omega) (by omega) (by simp only [World.size_alloc]; omega) _ rfl ?_
  intro g1 cap1 w1 hown hgrow _ _
  obtain ⟨e1, e2, e3, e4⟩ := d_app1 hk D hown hgrow
  have hq1 := (e3.block _ (by omega)).trans D.bq
  exact H g1 cap1 w1 e1 e2 (by show w1.cell? ⟨M + 3, 0, none⟩ = some vp; simp [World.cell?, hq1]) hgrow e4

/-- 'wantPart = append(wantPart, space.Range{First: first, Last: last})' at the operation. -/
theorem app2 {ops : Array Oper} {rest : List Oper} {o : Oper} {a : Act} {Q : Exit → Act → World → Prop} {X : World} {qi : Nat} (hgd : o.guard = none) (kk S : Nat) (A B C E : Int)
    (ho : o.op = .call { callee := .builtin .append, args := #[.tmp 175, .tmp 179], argTypes := #[25, 25] }) (hk : i0 + q = kk) (hq : q ≤ 65536)
    (D : DInv w n rev h gap ln pb cap BB M th tl uh ul i0 qi q vi vp X) (hS : X.heap.size = S)
    (hp : pcells (plOf w n rev h gap ln pb cap BB) th tl uh ul kk = [.int .u64 A, .int .u64 B, .int .u64 C, .int .u64 E])
    (h1 : a.eval (.tmp 175) = vp) (h2 : a.eval (.tmp 179) = .slice (some ⟨S, 0, none⟩) 1 1)
    (H : ∀ g1 cap1 w1, w1.cell? ⟨M + 1 + 1 + 1, 0, none⟩ = some vp → w1.frozen? ⟨M + 1 + 1 + 1, 0, none⟩ = false →
      DInv w n rev h gap ln pb cap BB M th tl uh ul i0 qi (q + 1) vi (.slice (some ⟨g1, 0, none⟩) (q + 1) cap1) (w1.setCell ⟨M + 1 + 1 + 1, 0, none⟩ (.slice (some ⟨g1, 0, none⟩) (q + 1) cap1)) →
      wpList Yba.prog ops Q rest (a.put o.dst (.slice (some ⟨g1, 0, none⟩) (q + 1) cap1)) w1) :
    wpList Yba.prog ops Q (o :: rest) a (X.alloc (.cells #[.int .u64 A, .int .u64 B, .int .u64 C, .int .u64 E] 31)) := by
  obtain ⟨i3, hi, hz0, hz1, hz2⟩ := info_parts info31
  have l2 := lt_of_block D.bq
  refine wpList_append_lies _ hgd (.tmp 175) (.tmp 179) 25 ho (M + 4) 31 i3 (.agg rzero) 4 32 Yba.underlying25 hi hz0 hz1 hz2 rfl (by decide) vp q _ h1 (D.oq.alloc _) ⟨S, 0, none⟩ 1 1 [.int .u64 A, .int .u64 B, .int .u64 C, .int .u64 E] h2 rfl (news4 hS _ _ _ _ _) (by simp [Value.oneCell']) (by omega) (by unfold maxLen; omega) (by omega) (by simp only [World.size_alloc]; omega) _ rfl ?_
  intro g1 cap1 w1 hown hgrow _ _
  rw [← hp] at hown
  obtain ⟨e1, e2, e4⟩ := d_app2 hk D _ hown hgrow
  exact H g1 cap1 w1 e1 e2 e4

/-- The part, by the two comparisons. -/
theorem pc (f1 z1 : Bool) (k : Nat) (hf : (cmp3 th tl h (firN gap ln k) > 0) ↔ f1 = true) (hz : (cmp3 uh ul h (lasN gap ln k) < 0) ↔ z1 = true) :
    pcells (plOf w n rev h gap ln pb cap BB) th tl uh ul k = [.int .u64 (if f1 then th else h), .int .u64 (if f1 then tl else (firN gap ln k : Int)), .int .u64 (if z1 then uh else h), .int .u64 (if z1 then ul else (lasN gap ln k : Int))] := by
  rw [cmp3_swap] at hf
  rw [← cmp3_swap] at hz
  simp only [pcells, PL.aH, PL.aL, PL.zH, PL.zL, plOf, hf, hz]
end

end Go.Proofs.Ybulkdlic
