/-
  DERIVED. alloc.LawS5618AWhole: slices.SortFunc OVER THE ROW OF POINTERS TO THE TIERS, off the shelf.
-/
import Derived.Test.YbulkdlicShelf
import Derived.Test.YbulkdlicLeaf
import Derived.Shelf.SlSortCmp.NoneTotal
namespace Go.Proofs.Ybulkdlic
open Go.RowKit Go.Shelf
open Go.Sort hiding Below

theorem heap_sortWorld {α : Type} [Inhabited α] (enc : α → Value) (w : World) (blk off m : Nat) (d : Array α) (os : Array Obj) (b : Nat) (hb : b < w.heap.size) (hne : b ≠ blk) : (sortWorld enc w blk off m d os).heap[b]? = w.heap[b]? := by
  unfold sortWorld
  rw [heap_grow_old _ _ (by rw [Go.Sort.size_putRow]; exact hb)]
  unfold putRow mapBlock
  show (w.heap.modify blk _)[b]? = _
  rw [Array.getElem?_modify, if_neg (fun e => hne e.symm)]

theorem size_sortWorld {α : Type} [Inhabited α] (enc : α → Value) (w : World) (blk off m : Nat) (d : Array α) (os : Array Obj) : w.heap.size ≤ (sortWorld enc w blk off m d os).heap.size := by
  unfold sortWorld
  rw [size_grow, Go.Sort.size_putRow]
  exact Nat.le_add_right _ _

theorem below_sortWorld {α : Type} [Inhabited α] (enc : α → Value) (w : World) (blk off m : Nat) (d : Array α) (os : Array Obj) (B : Nat) (hB : B ≤ blk) (hB' : B ≤ w.heap.size) : Below B w (sortWorld enc w blk off m d os) :=
  ⟨rfl, rfl, rfl, size_sortWorld .., fun b hb => heap_sortWorld enc w blk off m d os b (by omega) (by omega)⟩

def tenc (TB : Nat) {n : Nat} (x : Fin n) : Value := .pointer (some ⟨TB, x.1 * 7, none⟩)

set_option maxRecDepth 100000 in
/-- 'slices.SortFunc' over the row of pointers to the tiers: sorted by their first numbers. -/
theorem sort_any (m TB blk cap : Nat) (fh fl : Nat → Int) (rk : Fin (m + 1) → Nat) (L : List (Fin (m + 1))) (w : World) (hm : m + 1 ≤ 65536)
    (hrk : ∀ x y : Fin (m + 1), cmp3 (fh x) (fl x) (fh y) (fl y) < 0 ↔ rk x < rk y) (hinj : ∀ x y, rk x = rk y → x = y)
    (hL : L.Perm (List.finRange (m + 1))) (hLs : L.Pairwise fun x y => rk x ≤ rk y)
    (hrow : ∀ j : Fin (m + 1), w.cell? ⟨blk, j.1, none⟩ = some (tenc TB j) ∧ w.frozen? ⟨blk, j.1, none⟩ = false) (hne : TB ≠ blk)
    (hT : ∀ j, j < m + 1 → w.cell? ⟨TB, j * 7, none⟩ = some (.int .u64 (fh j)) ∧ w.cell? ⟨TB, j * 7 + 1, none⟩ = some (.int .u64 (fl j))) :
    Calls Yba.prog 22 #[.slice (some ⟨blk, 0, none⟩) (m + 1) cap, .func (.func 23) #[] #[]] w fun e w' =>
      e = .returned (.tuple #[]) ∧ (∀ i, i < m + 1 → ∃ x, L[i]? = some x ∧ w'.cell? ⟨blk, i, none⟩ = some (tenc TB x)) ∧ (∀ b, b < w.heap.size → b ≠ blk → w'.heap[b]? = w.heap[b]?) ∧ (∀ B, B ≤ blk → B ≤ w.heap.size → Below B w w') := by
  have hblk : blk < w.heap.size := World.block_lt_of_cell? _ _ (hrow 0).1
  have hTB : TB < w.heap.size := World.block_lt_of_cell? _ _ (hT 0 (by omega)).1
  let cf : Fin (m + 1) → Fin (m + 1) → Int := fun x y => cmp3 (fh x) (fl x) (fh y) (fl y)
  have hlt : ∀ x y, ltOf cf x y = decide (rk x < rk y) := fun x y => by
    unfold ltOf
    simp only [cf, hrk]
  have hO : SWO (ltOf cf) := ⟨fun x => by rw [hlt]; simp, fun x y z h1 h2 => by rw [hlt] at *; simp at *; omega, fun x y z h1 h2 => by rw [hlt] at *; simp at *; omega⟩
  let d : Array (Fin (m + 1)) := (List.finRange (m + 1)).toArray
  have hd : d.size = m + 1 := by simp [d]
  have hda : ∀ j : Fin (m + 1), d[j.1]! = j := fun j => by
    rw [getElem!_pos d j.1 (by rw [hd]; exact j.2)]
    simp [d]
  have hH : Holds (tenc TB) w blk 0 d := fun j hj => by
    have hj' : j < m + 1 := by rw [hd] at hj; exact hj
    have e := hda ⟨j, hj'⟩
    simp only at e
    rw [e, Nat.zero_add]
    exact hrow ⟨j, hj'⟩
  have hc : CmpLays1 Yba.prog 23 #[] (tenc TB) cf blk 0 d.size w := fun q os dk hs x y => by
    have key : ∀ a : Addr, a.block = TB → (sortWorld (tenc TB) w blk 0 q dk os).cell? a = w.cell? a := fun a ha => World.cell?_of_block (w := w) (heap_sortWorld _ w blk 0 q dk os a.block (by rw [ha]; exact hTB) (by rw [ha]; exact hne))
    exact new1_any TB (x.1 * 7) (y.1 * 7) (fh x) (fl x) (fh y) (fl y) _ ((key _ rfl).trans (hT x.1 x.2).1) ((key _ rfl).trans (hT x.1 x.2).2) ((key _ rfl).trans (hT y.1 y.2).1) ((key _ rfl).trans (hT y.1 y.2).2)
  have h := Any.slices_SortFunc_total Yba.lays22 (tenc TB) (fun _ => rfl) cf hO 23 #[] blk 0 cap d w (enters_of Yba.func23 (by kernel_rfl) rfl) hc hH hblk (by rw [hd]; omega) (fun x y h1 h2 => hinj x y (by rw [hlt] at h1 h2; simp at h1 h2; omega))
  rw [hd] at h
  refine Calls.mono h ?_
  rintro e w' ⟨he, q, os, rfl⟩
  have hms : (d.toList.mergeSort fun x y => !(ltOf cf) y x) = L := by
    have hle : ∀ x y, (!(ltOf cf) y x) = decide (rk x ≤ rk y) := fun x y => by
      rw [hlt]
      by_cases e : rk y < rk x
      · simp [e]
      · simp [e]; omega
    have hp := List.mergeSort_perm d.toList (fun x y => !(ltOf cf) y x)
    have hs := List.pairwise_mergeSort (le := fun x y => !(ltOf cf) y x) (fun x y z h1 h2 => by rw [hle] at *; simp at *; omega) (fun x y => by rw [hle, hle]; simp; omega) d.toList
    have hdl : d.toList = List.finRange (m + 1) := by simp [d]
    refine List.Perm.eq_of_pairwise (le := fun x y => rk x ≤ rk y) (fun x y _ _ h1 h2 => hinj x y (by omega)) (hs.imp fun {x y} h => by rw [hle] at h; simpa using h) hLs (hp.trans (by rw [hdl]; exact hL.symm))
  refine ⟨he, fun i hi => ?_, fun b hb hne' => heap_sortWorld _ w blk 0 q _ os b hb hne', fun B hB hB' => below_sortWorld _ w blk 0 q _ os B hB hB'⟩
  rw [hms]
  have hLl : L.length = m + 1 := by rw [hL.length_eq]; simp
  refine ⟨L[i]'(by omega), by simp, ?_⟩
  have hh := holds_sortWorld (tenc TB) w blk 0 q d L.toArray os hblk hH (by simp [hLl, hd]) i (by simp; omega)
  rw [Nat.zero_add] at hh
  rw [hh.1, getElem!_pos L.toArray i (by simp; omega)]
  simp

theorem sort_none (p : Option Addr) (cap : Nat) (w : World) : Calls Yba.prog 22 #[.slice p 0 cap, .func (.func 23) #[] #[]] w fun e w' => e = .returned (.tuple #[]) ∧ w' = w := AnyF.slices_SortFunc_none (ρ := Yba.lays22_ren) { Yba.lays22 with } p cap _ w

end Go.Proofs.Ybulkdlic
