/-
  DERIVED. alloc.LawS5618AWhole: THE THIRD LOOP: what is wanted.
-/
import Derived.Test.YbulkdlicState2
namespace Go.Proofs.Ybulkdlic
open Go.RowKit Go.Shelf

/-- The law's pool as the iterator's contract speaks of it. -/
def plOf (w : World) (n : Nat) (rev : Bool) (h : Int) (gap ln : Nat → Nat) (pb : Option Addr) (cap BB : Nat) : PL :=
  { n := n, cap := cap, BB := BB, TB := w.heap.size + 6, PB := w.heap.size + 7, pb := pb, o := fun i => pr rev n i * 7, Fh := fun _ => h, Fl := fun i => (firN gap ln i : Int), Lh := fun _ => h, Ll := fun i => (lasN gap ln i : Int) }

theorem CB.pl {w : World} {n : Nat} {rev : Bool} {h : Int} {gap ln : Nat → Nat} {pb : Option Addr} {cap BB M : Nat} {th tl uh ul : Int} {wr : World} (q : CB w n rev h gap ln pb cap BB M th tl uh ul wr) : (plOf w n rev h gap ln pb cap BB).In wr :=
  ⟨q.p3, q.row, fun k hk => q.tiers k 0 hk (by omega), fun k hk => q.tiers k 1 hk (by omega), fun k hk => q.tiers k 2 hk (by omega), fun k hk => q.tiers k 3 hk (by omega)⟩

/-- How many are wanted after k rounds. -/
def cnt (i0 c k : Nat) : Nat := min c (k - i0)
theorem cnt_skip {i0 c k : Nat} (h : ¬ (i0 ≤ k ∧ k < i0 + c)) : cnt i0 c (k + 1) = cnt i0 c k := by unfold cnt; omega
theorem cnt_take {i0 c k : Nat} (h : i0 ≤ k ∧ k < i0 + c) : cnt i0 c (k + 1) = cnt i0 c k + 1 ∧ i0 + cnt i0 c k = k := by unfold cnt; omega
theorem cnt_all {i0 c n : Nat} (h : i0 + c ≤ n) : cnt i0 c n = c := by unfold cnt; omega

/-- The four cells of the part of tier k. -/
def pcells (p : PL) (th tl uh ul : Int) (k : Nat) : List Value := [.int .u64 (p.aH th tl k), .int .u64 (p.aL th tl k), .int .u64 (p.zH uh ul k), .int .u64 (p.zL uh ul k)]

/-- The third loop's state: qi, qp: how many of each row. -/
structure DInv (w : World) (n : Nat) (rev : Bool) (h : Int) (gap ln : Nat → Nat) (pb : Option Addr) (cap BB M : Nat) (th tl uh ul : Int) (i0 qi qp : Nat) (vi vp : Value) (wr : World) : Prop where
  cb : CB w n rev h gap ln pb cap BB M th tl uh ul wr
  bi : wr.heap[M + 2]? = some (.cells #[vi] 35 (0, 0))
  bq : wr.heap[M + 3]? = some (.cells #[vp] 25 (0, 0))
  oi : wr.ownsRow (M + 4) 3 1 vi qi ((List.range qi).map fun x => .int .i64 ((i0 + x : Nat) : Int))
  oq : wr.ownsRow (M + 4) 31 4 vp qp ((List.range qp).flatMap fun x => pcells (plOf w n rev h gap ln pb cap BB) th tl uh ul (i0 + x))

section
variable {w : World} {n : Nat} {rev : Bool} {h : Int} {gap ln : Nat → Nat} {pb : Option Addr} {cap BB M : Nat} {th tl uh ul : Int} {i0 qi qp : Nat} {vi vp : Value} {wr wr' : World}

theorem DInv.later (q : DInv w n rev h gap ln pb cap BB M th tl uh ul i0 qi qp vi vp wr) (hb : Below wr.heap.size wr wr') : DInv w n rev h gap ln pb cap BB M th tl uh ul i0 qi qp vi vp wr' := by
  have l1 := lt_of_block q.bi
  have l2 := lt_of_block q.bq
  refine ⟨q.cb.later (hb.mono (by omega)), (hb.block _ l1).trans q.bi, (hb.block _ l2).trans q.bq, q.oi.kept (grown_below hb) ?_, q.oq.kept (grown_below hb) ?_⟩
  · cases vi.ownBlock <;> simp
  · cases vp.ownBlock <;> simp

/-- A row of one element type is not in the block of a row of another. -/
theorem apart {e e' size size' : Nat} {v v' : Value} {k k' : Nat} {xs xs' : List Value} {B B' : Nat} (h1 : wr.ownsRow B e size v k xs) (h2 : wr.ownsRow B' e' size' v' k' xs') (hne : e ≠ e') : v.ownBlock = none ∨ v.ownBlock ≠ v'.ownBlock := by
  rcases h1.2 with ⟨rfl, _⟩ | ⟨g, _, _, rfl, _, hg, _⟩
  · exact .inl rfl
  · right
    intro e0
    rcases h2.2 with ⟨rfl, _⟩ | ⟨g', _, _, rfl, _, hg', _⟩
    · simp [Value.ownBlock] at e0
    · simp [Value.ownBlock] at e0
      subst e0
      rw [hg] at hg'
      cases hg'
      exact hne rfl

/-- The index appended. -/
theorem d_app1 {w1 : World} {g1 cap1 kk : Nat} (hk : i0 + qi = kk) (q : DInv w n rev h gap ln pb cap BB M th tl uh ul i0 qi qp vi vp wr)
    (hown : w1.ownsRow (M + 4) 3 1 (.slice (some ⟨g1, 0, none⟩) (qi + 1) cap1) (qi + 1) (((List.range qi).map fun x => .int .i64 ((i0 + x : Nat) : Int)) ++ [.int .i64 (kk : Int)]))
    (hg : (wr.alloc (.cells #[.int .i64 (kk : Int)] 3)).grownBy w1 vi.ownBlock) :
    w1.cell? ⟨M + 2, 0, none⟩ = some vi ∧ w1.frozen? ⟨M + 2, 0, none⟩ = false ∧ Below (M + 4) wr w1 ∧
      DInv w n rev h gap ln pb cap BB M th tl uh ul i0 (qi + 1) qp (.slice (some ⟨g1, 0, none⟩) (qi + 1) cap1) vp (w1.setCell ⟨M + 2, 0, none⟩ (.slice (some ⟨g1, 0, none⟩) (qi + 1) cap1)) := by
  subst hk
  have l1 := lt_of_block q.bi
  have l2 := lt_of_block q.bq
  have hb1 : Below (M + 4) wr w1 := ((Below.refl _ wr).alloc (by omega) (.cells #[.int .i64 ((i0 + qi : Nat) : Int)] 3)).grown hg (by simp; omega) (fun j hj => (q.oi.lt j hj).1)
  have hbi1 := (hb1.block _ (by omega)).trans q.bi
  have hoq1 : w1.ownsRow (M + 4) 31 4 vp qp _ := (q.oq.alloc (.cells #[.int .i64 ((i0 + qi : Nat) : Int)] 3)).kept hg (apart q.oq q.oi (by decide))
  refine ⟨by simp [World.cell?, hbi1], by simp [World.frozen?, hbi1], hb1, ?_, ?_, ?_, ?_, ?_⟩
  · exact q.cb.later ((hb1.mono (show M + 2 ≤ M + 4 by omega)).setCell (p := ⟨M + 2, 0, none⟩) (Nat.le_refl _) _)
  · exact heap_setCell_same w1 (M + 2) 0 _ 35 _ hbi1
  · rw [Below.heap_setCell _ _ _ _ (by show M + 3 ≠ M + 2; omega)]
    exact (hb1.block _ (by omega)).trans q.bq
  · rw [List.range_succ, List.map_append]
    exact ownsRow_setCell_below hown (by show M + 2 < M + 4; omega) _
  · exact ownsRow_setCell_below hoq1 (by show M + 2 < M + 4; omega) _

/-- The part appended. -/
theorem d_app2 {w1 : World} {g1 cap1 kk : Nat} (hk : i0 + qp = kk) (q : DInv w n rev h gap ln pb cap BB M th tl uh ul i0 qi qp vi vp wr) (o : Obj)
    (hown : w1.ownsRow (M + 4) 31 4 (.slice (some ⟨g1, 0, none⟩) (qp + 1) cap1) (qp + 1) (((List.range qp).flatMap fun x => pcells (plOf w n rev h gap ln pb cap BB) th tl uh ul (i0 + x)) ++ pcells (plOf w n rev h gap ln pb cap BB) th tl uh ul kk))
    (hg : (wr.alloc o).grownBy w1 vp.ownBlock) :
    w1.cell? ⟨M + 3, 0, none⟩ = some vp ∧ w1.frozen? ⟨M + 3, 0, none⟩ = false ∧
      DInv w n rev h gap ln pb cap BB M th tl uh ul i0 qi (qp + 1) vi (.slice (some ⟨g1, 0, none⟩) (qp + 1) cap1) (w1.setCell ⟨M + 3, 0, none⟩ (.slice (some ⟨g1, 0, none⟩) (qp + 1) cap1)) := by
  subst hk
  have l1 := lt_of_block q.bi
  have l2 := lt_of_block q.bq
  have hb1 : Below (M + 4) wr w1 := ((Below.refl _ wr).alloc (by omega) o).grown hg (by simp; omega) (fun j hj => (q.oq.lt j hj).1)
  have hbq1 := (hb1.block _ (by omega)).trans q.bq
  have hoi1 : w1.ownsRow (M + 4) 3 1 vi qi _ := (q.oi.alloc o).kept hg (apart q.oi q.oq (by decide))
  refine ⟨by simp [World.cell?, hbq1], by simp [World.frozen?, hbq1], ?_, ?_, ?_, ?_, ?_⟩
  · exact q.cb.later ((hb1.mono (show M + 2 ≤ M + 4 by omega)).setCell (p := ⟨M + 3, 0, none⟩) (by show M + 2 ≤ M + 3; omega) _)
  · rw [Below.heap_setCell _ _ _ _ (by show M + 2 ≠ M + 3; omega)]
    exact (hb1.block _ (by omega)).trans q.bi
  · exact heap_setCell_same w1 (M + 3) 0 _ 25 _ hbq1
  · exact ownsRow_setCell_below hoi1 (by show M + 3 < M + 4; omega) _
  · rw [List.range_succ, List.flatMap_append]
    simp only [List.flatMap_cons, List.flatMap_nil, List.append_nil]
    exact ownsRow_setCell_below hown (by show M + 3 < M + 4; omega) _

theorem d_start (th tl uh ul : Int) (i0 c : Nat) {w' : World} {M : Nat} (hM : w'.heap.size = M) (hB : BInv w n rev (sval h gap ln) n wr) (hP : NPost wr n (fun j => sval h gap ln (pr rev n j)) rev pb cap BB w') :
    DInv w n rev h gap ln pb cap BB M th tl uh ul i0 (cnt i0 c 0) (cnt i0 c 0) (.slice none 0 0) (.slice none 0 0) ((((w'.alloc (.cells #[.pointer (some ⟨w.heap.size + 4 + 3, 0, none⟩)] 33)).alloc (.cells #[.int .u64 th, .int .u64 tl, .int .u64 uh, .int .u64 ul] 31)).alloc (.cells #[.slice none 0 0] 35)).alloc (.cells #[.slice none 0 0] 25)) := by
  subst hM
  have e : cnt i0 c 0 = 0 := by unfold cnt; omega
  rw [e]
  refine ⟨c_start th tl uh ul hB hP, ?_, ?_, World.ownsRow_nil _ _ _ _, World.ownsRow_nil _ _ _ _⟩
  · rw [Below.heap_alloc _ _ _ (by simp)]
    have h := heap_alloc_new ((w'.alloc (.cells #[.pointer (some ⟨w.heap.size + 4 + 3, 0, none⟩)] 33)).alloc (.cells #[.int .u64 th, .int .u64 tl, .int .u64 uh, .int .u64 ul] 31)) (.cells #[.slice none 0 0] 35)
    simpa using h
  · have h := heap_alloc_new (((w'.alloc (.cells #[.pointer (some ⟨w.heap.size + 4 + 3, 0, none⟩)] 33)).alloc (.cells #[.int .u64 th, .int .u64 tl, .int .u64 uh, .int .u64 ul] 31)).alloc (.cells #[.slice none 0 0] 35)) (.cells #[.slice none 0 0] 25)
    simpa using h
end

end Go.Proofs.Ybulkdlic
