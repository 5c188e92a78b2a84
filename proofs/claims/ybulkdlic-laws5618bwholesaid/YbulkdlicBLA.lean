/-
  DERIVED. alloc.LawS5618BWhole: THE LAW's OWN ARRAYS.
-/
import Derived.Test.YbulkdlicBL32
namespace Go.Proofs.Ybulkdlic
open Go.RowKit

/-- The arrays that the law has made by now. -/
structure LA (M n E m cg GB QB RB CB NB VB OB : Nat) (pG : Option Addr) (bv : Nat → Nat) (g0 : Nat → Bool) (h0 : List UInt8 → Option Nat) (nm : Nat → ByteArray) (ov : Nat → Value) (LL0 : Nat → List (Nat × Nat)) (cc0 : Nat → Nat) (w : World) : Prop where
  e : M + 4 ≤ E
  nb : E ≤ NB
  vb : E ≤ VB
  ob : E ≤ OB
  qb : E ≤ QB
  rb : E ≤ RB
  cb : E ≤ CB
  gb : M + 4 ≤ GB
  hix : ∀ (i : Nat), i < m → ∀ W, (Instr.indexAt 55 (.slice pG m cg) (.int .i64 i)).run Yba.prog W = .ok (.pointer (some ⟨GB, i * 2, none⟩)) W
  hbv : ∀ i, i < m → bv i < 18446744073709551616 ∧ w.cell? ⟨GB, i * 2, none⟩ = some (.int .u64 0) ∧ w.cell? ⟨GB, i * 2 + 1, none⟩ = some (.int .u64 (bv i : Int)) ∧ w.cell? ⟨QB, i, none⟩ = some (.bool (g0 (bv i)))
  hnm : ∀ i, i < 5 → (nm i).size ≤ maxLen ∧ w.cell? ⟨NB, i, none⟩ = some (.string (nm i)) ∧ w.cell? ⟨VB, i * 2, none⟩ = some (.int .u64 0) ∧ w.cell? ⟨VB, i * 2 + 1, none⟩ = some (.int .u64 (((h0 (nm i).data.toList).getD 0 : Nat) : Int)) ∧ w.cell? ⟨OB, i, none⟩ = some (.bool (h0 (nm i).data.toList).isSome)
  hov : ∀ t, t < n → w.cell? ⟨RB, t, none⟩ = some (ov t) ∧ w.ownsRow E 31 4 (ov t) (LL0 t).length (flat (LL0 t)) ∧ w.cell? ⟨CB, t * 2, none⟩ = some (.int .u64 0) ∧ w.cell? ⟨CB, t * 2 + 1, none⟩ = some (.int .u64 (cc0 t : Int))

section
variable {M n E m cg GB QB RB CB NB VB OB : Nat} {pG : Option Addr} {bv : Nat → Nat} {g0 : Nat → Bool} {h0 : List UInt8 → Option Nat} {nm : Nat → ByteArray} {ov : Nat → Value} {LL0 : Nat → List (Nat × Nat)} {cc0 : Nat → Nat} {w w' : World}

/-- The arrays' blocks have not turned. -/
theorem LA.same (a : LA M n E m cg GB QB RB CB NB VB OB pG bv g0 h0 nm ov LL0 cc0 w) (hb : ∀ j, j < w.heap.size → (E ≤ j ∨ j = GB) → w'.heap[j]? = w.heap[j]?) : LA M n E m cg GB QB RB CB NB VB OB pG bv g0 h0 nm ov LL0 cc0 w' := by
  have cel : ∀ b o u, (E ≤ b ∨ b = GB) → w.cell? ⟨b, o, none⟩ = some u → w'.cell? ⟨b, o, none⟩ = some u := fun b o u h1 h2 => (World.cell?_of_block (w := w) (hb b (World.block_lt_of_cell? _ _ h2) h1)).trans h2
  exact ⟨a.e, a.nb, a.vb, a.ob, a.qb, a.rb, a.cb, a.gb, a.hix, fun i hi => ⟨(a.hbv i hi).1, cel _ _ _ (.inr rfl) (a.hbv i hi).2.1, cel _ _ _ (.inr rfl) (a.hbv i hi).2.2.1, cel _ _ _ (.inl a.qb) (a.hbv i hi).2.2.2⟩, fun i hi => ⟨(a.hnm i hi).1, cel _ _ _ (.inl a.nb) (a.hnm i hi).2.1, cel _ _ _ (.inl a.vb) (a.hnm i hi).2.2.1, cel _ _ _ (.inl a.vb) (a.hnm i hi).2.2.2.1, cel _ _ _ (.inl a.ob) (a.hnm i hi).2.2.2.2⟩, fun t ht => ⟨cel _ _ _ (.inl a.rb) (a.hov t ht).1, own_block (a.hov t ht).2.1 (fun x e => hb x ((a.hov t ht).2.1.lt x e).2 (.inl ((a.hov t ht).2.1.lt x e).1)), cel _ _ _ (.inl a.cb) (a.hov t ht).2.2.1, cel _ _ _ (.inl a.cb) (a.hov t ht).2.2.2⟩⟩
theorem LA.below (a : LA M n E m cg GB QB RB CB NB VB OB pG bv g0 h0 nm ov LL0 cc0 w) (hb : Below w.heap.size w w') : LA M n E m cg GB QB RB CB NB VB OB pG bv g0 h0 nm ov LL0 cc0 w' := a.same (fun j hj _ => hb.block j hj)
theorem LA.rel {vv : Nat → Value} (a : LA M n E m cg GB QB RB CB NB VB OB pG bv g0 h0 nm ov LL0 cc0 w) (r : RF M n vv w w') (hv : ∀ t, t < n → ∀ b, (vv t).ownBlock = some b → b < E ∧ b ≠ GB) : LA M n E m cg GB QB RB CB NB VB OB pG bv g0 h0 nm ov LL0 cc0 w' :=
  a.same (fun j hj h1 => r.block j hj (by have := a.e; have := a.gb; omega) (fun t ht e => by have := hv t ht j e; omega))
end

theorem mrg_len : ∀ (L : List (Nat × Nat)), (mrg L).length ≤ L.length
  | [] => by rw [mrg]; exact Nat.le_refl _
  | [a] => by rw [mrg]; exact Nat.le_refl _
  | a :: b :: t => by
    rw [mrg]
    split
    · have := mrg_len ((a.1, b.2) :: t)
      simp only [List.length_cons] at this ⊢
      omega
    · have := mrg_len (b :: t)
      simp only [List.length_cons] at this ⊢
      omega
  termination_by L => L.length

theorem updH_none {h : List UInt8 → Option Nat} {t : List UInt8} (e : h t = none) : updH h t none = h := funext fun u => by
  unfold updH
  split
  · rename_i e2; rw [e2, e]
  · rfl

end Go.Proofs.Ybulkdlic
