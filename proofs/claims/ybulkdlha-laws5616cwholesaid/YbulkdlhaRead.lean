/-
  DERIVED. octocell.LawS5616CWhole: what is read of the finished table: whole buckets, owners, the answer of isUnclaimed.
-/
import Derived.Test.YbulkdlhaClaim
namespace Go.Proofs.Ybulkdlha
open Go.RowKit

theorem neq30_zero (w : World) : (binOp .neq 30 (.agg #[.int .u64 0, .int .i64 0, .int .i64 0, .int .i64 0, .int .i64 0, .int .i64 0, .int .i64 0, .int .i64 0, .int .i64 0, .int .i64 0, .int .i64 0, .int .i64 0, .int .i64 0, .int .i64 0, .int .i64 0, .int .i64 0, .int .i64 0, .int .i64 0]) (.agg #[.int .u64 0, .int .i64 0, .int .i64 0, .int .i64 0, .int .i64 0, .int .i64 0, .int .i64 0, .int .i64 0, .int .i64 0, .int .i64 0, .int .i64 0, .int .i64 0, .int .i64 0, .int .i64 0, .int .i64 0, .int .i64 0, .int .i64 0, .int .i64 0])).run Yba.prog w = .ok (.bool false) w := by kernel_rfl

theorem load_agg (W : World) (g c : Nat) (vs : List Value) (hl : vs.length = 18) (h : ∀ j v, vs[j]? = some v → W.cell? ⟨g, c + j, none⟩ = some v) :
    (Instr.loadAt 30 (.pointer (some ⟨g, c, none⟩))).run Yba.prog W = .ok (.agg vs.toArray) W := by
  have ha : (isAgg 30).run Yba.prog W = .ok true W := by kernel_rfl
  have hld := run_loadCells_list (P := Yba.prog) W ⟨g, c, none⟩ vs (fun j v hv => by
    rw [Go.WideShapes.add_plain]; exact h j v hv)
  rw [hl] at hld
  simp [Instr.loadAt, Instr.sureAddr, loadVar, ha, hld]

theorem load_row {W : World} {g n : Nat} {f : Nat → Value} (h : W.rowIs g 30 (n * 18) f) (k : Nat) (hk : k < n) (vs : List Value) (hl : vs.length = 18) (hv : ∀ j v, vs[j]? = some v → v = f (k * 18 + j)) :
    (Instr.loadAt 30 (.pointer (some ⟨g, k * 18, none⟩))).run Yba.prog W = .ok (.agg vs.toArray) W := by
  refine load_agg W g (k * 18) vs hl fun j v hj => ?_
  have hj18 : j < 18 := by rw [← hl]; exact (List.getElem?_eq_some_iff.1 hj).1
  rw [h.cell (by omega), hv j v hj]

theorem load_marked {W : World} {g sl o : Nat} (h : W.rowIs g 30 (sl * 18) (bcell o sl)) (k : Nat) (hk : k < sl) :
    (Instr.loadAt 30 (.pointer (some ⟨g, k * 18, none⟩))).run Yba.prog W = .ok (.agg #[.int .u64 ((o : Int) * sl + k + 1), .int .i64 (o : Int), .int .i64 (k : Int), .int .i64 0, .int .i64 0, .int .i64 0, .int .i64 0, .int .i64 0, .int .i64 0, .int .i64 0, .int .i64 0, .int .i64 0, .int .i64 0, .int .i64 0, .int .i64 0, .int .i64 0, .int .i64 0, .int .i64 0]) W := by
  refine load_row h k hk [.int .u64 ((o : Int) * sl + k + 1), .int .i64 (o : Int), .int .i64 (k : Int), .int .i64 0, .int .i64 0, .int .i64 0, .int .i64 0, .int .i64 0, .int .i64 0, .int .i64 0, .int .i64 0, .int .i64 0, .int .i64 0, .int .i64 0, .int .i64 0, .int .i64 0, .int .i64 0, .int .i64 0] rfl fun j v hj => ?_
  have hd : (k * 18 + j) / 18 = k ∨ 18 ≤ j := by omega
  have hm : (k * 18 + j) % 18 = j % 18 := by omega
  match j, hj with
  | 0, hj => cases hj; have e : (k * 18 + 0) / 18 = k := by omega
             simp [bcell]
  | 1, hj => cases hj; simp [bcell]
  | 2, hj => cases hj; have e : (k * 18 + 2) / 18 = k := by omega
             simp [bcell, e]
  | 3, hj => cases hj; simp [bcell]
  | 4, hj => cases hj; simp [bcell]
  | 5, hj => cases hj; simp [bcell]
  | 6, hj => cases hj; simp [bcell]
  | 7, hj => cases hj; simp [bcell]
  | 8, hj => cases hj; simp [bcell]
  | 9, hj => cases hj; simp [bcell]
  | 10, hj => cases hj; simp [bcell]
  | 11, hj => cases hj; simp [bcell]
  | 12, hj => cases hj; simp [bcell]
  | 13, hj => cases hj; simp [bcell]
  | 14, hj => cases hj; simp [bcell]
  | 15, hj => cases hj; simp [bcell]
  | 16, hj => cases hj; simp [bcell]
  | 17, hj => cases hj; simp [bcell]

theorem load_zero {W : World} {g sl : Nat} (h : W.rowIs g 30 (sl * 18) zcell) (k : Nat) (hk : k < sl) :
    (Instr.loadAt 30 (.pointer (some ⟨g, k * 18, none⟩))).run Yba.prog W = .ok (.agg #[.int .u64 0, .int .i64 0, .int .i64 0, .int .i64 0, .int .i64 0, .int .i64 0, .int .i64 0, .int .i64 0, .int .i64 0, .int .i64 0, .int .i64 0, .int .i64 0, .int .i64 0, .int .i64 0, .int .i64 0, .int .i64 0, .int .i64 0, .int .i64 0]) W := by
  refine load_row h k hk zeros.toList rfl fun j v hj => ?_
  have hj18 : j < 18 := by
    have := (List.getElem?_eq_some_iff.1 hj).1
    exact this
  rw [← zeros_at, show (k * 18 + j) % 18 = j by omega]
  have e : zeros[j]? = some v := by simpa using hj
  rw [getElem!_def, e]

theorem TInv.later {w : World} {cnt sl half k : Nat} {own G : Nat → Nat} {wr W : World} (h : TInv w cnt sl half k own G wr) (hb : Below wr.heap.size wr W) : TInv w cnt sl half k own G W :=
  ⟨h.owner.of_block (hb.block _ h.owner.lt), h.segs.of_block (hb.block _ h.segs.lt), h.own_ok, fun j hj ho => (h.blocks j hj ho).of_block (hb.block _ (h.blocks j hj ho).lt), h.apart, h.high, h.below.trans (hb.mono h.below.size)⟩

/-- An owner owns itself. -/
theorem TInv.own_own {w : World} {cnt sl half k : Nat} {own G : Nat → Nat} {wr : World} (h : TInv w cnt sl half k own G wr) {j : Nat} (hj : j < k) : own (own j) = own j := by
  rcases h.own_ok j hj with e | ⟨h0, h1, h2, e⟩
  · rw [e]; exact e
  · rw [e]; exact (h.own_ok (j - half) (by omega)).low (by omega)

theorem TInv.marked {w : World} {cnt sl half k : Nat} {own G : Nat → Nat} {wr : World} (h : TInv w cnt sl half k own G wr) {j : Nat} (hj : j < k) : wr.rowIs (G (own j)) 30 (sl * 18) (bcell (own j) sl) :=
  h.blocks (own j) (by have := (h.own_ok j hj).le; omega) (h.own_own hj)

/-- isUnclaimed of a segment of the finished table: whether it is not its own owner. -/
theorem un_any {w : World} {cnt sl half : Nat} {own G : Nat → Nat} {W : World} (h : TInv w cnt sl half cnt own G W) (T I : Nat) (hc : W.cell? ⟨T, 0, none⟩ = some (.slice (some ⟨w.heap.size + 1, 0, none⟩) cnt cnt)) (hcnt : cnt ≤ 16) (hhalf : (cnt : Int) / 2 = (half : Int)) (hI : I < cnt) (hs1 : 1 ≤ sl) (hpar : cnt = 1 ∨ cnt = half + half) :
    Calls Yba.prog 5 #[.pointer (some ⟨T, 0, none⟩), .int .i64 (I : Int)] W fun e w' => e = .returned (.bool (decide (own I ≠ I))) ∧ ∃ n, w' = W.drewN n := by
  by_cases hlow : half = 0 ∨ I < half
  · have ho : own I = I := by
      rcases h.own_ok I hI with e | e
      · exact e
      · omega
    have hd : decide (own I ≠ I) = false := by simp [ho]
    rw [hd]
    exact un_low T _ cnt half I W hc hcnt hhalf hlow
  · have ca : W.cell? ⟨w.heap.size + 1, I, none⟩ = some (.slice (some ⟨G (own I), 0, none⟩) sl sl) := by rw [h.segs.cell hI, if_pos hI]
    have cb : W.cell? ⟨w.heap.size + 1, I - half, none⟩ = some (.slice (some ⟨G (own (I - half)), 0, none⟩) sl sl) := by rw [h.segs.cell (by omega), if_pos (by omega)]
    have hl : own (I - half) = I - half := (h.own_ok (I - half) (by omega)).low (by omega)
    refine un_high T _ cnt half sl I _ _ _ W hc hcnt hhalf (by omega) (by omega) hI hs1 ca cb fun n => ?_
    by_cases ho : own I = I
    · have hd : decide (own I ≠ I) = false := by simp [ho]
      rw [hd]
      refine eql32_other (w := W.drewN n) (h.marked hI) (h.marked (j := I - half) (by omega)) fun e => ?_
      have := h.apart (own I) (own (I - half)) (by omega) (by omega) (by rw [ho, ho]) (by rw [hl, hl]) e
      omega
    · have hd : decide (own I ≠ I) = true := by simp [ho]
      rw [hd]
      have e : own I = own (I - half) := by
        rcases h.own_ok I hI with e | e
        · exact absurd e ho
        · omega
      rw [e]
      exact eql32_same _ _

end Go.Proofs.Ybulkdlha
