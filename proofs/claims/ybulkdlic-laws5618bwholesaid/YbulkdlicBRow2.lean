/-
  DERIVED. alloc.LawS5618BWhole: A ROW OF NUMBERS (two cells each): the borrowed values.
-/
import Derived.Test.YbulkdlicBMk
namespace Go.Proofs.Ybulkdlic
open Go.RowKit

def nc (x : Nat) : List Value := [.int .u64 0, .int .u64 (x : Int)]
def flat2 (L : List Nat) : List Value := L.flatMap nc
theorem flat2_append (L M : List Nat) : flat2 (L ++ M) = flat2 L ++ flat2 M := by simp [flat2]
theorem flat2_one (x : Nat) : flat2 [x] = nc x := by simp [flat2]
theorem flat2_at {L : List Nat} : ∀ {j x : Nat}, L[j]? = some x → ∀ d, d < 2 → (flat2 L)[j * 2 + d]? = (nc x)[d]? := by
  induction L with
  | nil => intro j x h; simp at h
  | cons a t ih =>
    intro j x h d hd
    cases j with
    | zero =>
      simp at h
      subst h
      show (nc a ++ flat2 t)[0 * 2 + d]? = _
      rw [List.getElem?_append_left (by simp [nc]; omega)]
      simp
    | succ j =>
      simp at h
      have := ih h d hd
      show (nc a ++ flat2 t)[(j + 1) * 2 + d]? = _
      rw [List.getElem?_append_right (by simp [nc]; omega), ← this]
      congr 1
      simp [nc]
      omega
theorem flat2_cells (L : List Nat) : ∀ v ∈ flat2 L, v.oneCell' = true := by
  intro v hv
  obtain ⟨r, _, hr⟩ := List.mem_flatMap.1 hv
  simp [nc] at hr
  rcases hr with rfl | rfl <;> rfl
theorem elem55 : Yba.prog.elem 55 = 29 := by kernel_rfl
theorem size29 (W : World) : (sizeOf 29).run Yba.prog W = .ok 2 W := by kernel_rfl

/-- The row as it is read. -/
theorem row_view29 {w : World} {base m : Nat} {v : Value} {L : List Nat} (h : w.ownsRow base 29 2 v m (flat2 L)) (hm : L.length = m) :
    ∃ g p cp, v = .slice p m cp ∧ (∀ (i : Nat), i < m → ∀ W, (Instr.indexAt 55 (.slice p m cp) (.int .i64 i)).run Yba.prog W = .ok (.pointer (some ⟨g, i * 2, none⟩)) W) ∧
      (∀ i, i < m → w.cell? ⟨g, i * 2, none⟩ = some (.int .u64 0) ∧ w.cell? ⟨g, i * 2 + 1, none⟩ = some (.int .u64 ((L.getD i 0 : Nat) : Int))) ∧ (0 < m → base ≤ g ∧ ∃ cur, w.heap[g]? = some (.cells cur 29 (0, 0))) := by
  rcases h.2 with ⟨rfl, rfl⟩ | ⟨g, cp, cur, rfl, h2, h3, _⟩
  · exact ⟨0, none, 0, rfl, fun k hk => by omega, fun k hk => by omega, fun h => by omega⟩
  · refine ⟨g, _, cp, rfl, fun k hk W => ?_, fun k hk => ?_, fun _ => ⟨h2, _, h3⟩⟩
    · rw [run_indexAt_slice W 55 ⟨g, 0, none⟩ m cp .i64 k (by rw [elem55]; exact und55), if_pos (by omega), elem55, size29]
      simp [Result.andThen, Addr.add]
      intro e; omega
    · have hat : L[k]? = some (L.getD k 0) := by rw [List.getD_eq_getElem?_getD, List.getElem?_eq_getElem (by omega)]; rfl
      have hlen : (flat2 L).length = m * 2 := by have := h.1; omega
      have key : ∀ d u, d < 2 → (nc (L.getD k 0))[d]? = some u → w.cell? ⟨g, k * 2 + d, none⟩ = some u := fun d u hd hu => by
        rw [h.cellAt (k * 2 + d) (by omega), flat2_at hat d hd, hu]
      exact ⟨key 0 _ (by omega) rfl, key 1 _ (by omega) rfl⟩
theorem own_form29 {w : World} {base n : Nat} {v : Value} {G : List Value} (h : w.ownsRow base 29 2 v n G) : ∃ p cp, v = .slice p n cp := by
  rcases h.2 with ⟨rfl, h0⟩ | ⟨g, cp, _, rfl, _⟩
  · exact ⟨none, 0, by rw [h0]⟩
  · exact ⟨_, _, rfl⟩
theorem news_nc {w : World} {vb x : Nat} (h : w.heap[vb]? = some (.cells (nc x).toArray 29 (0, 0))) : ∀ j u, (nc x)[j]? = some u → w.cell? ((⟨vb, 0, none⟩ : Addr).add j) = some u := World.news_of_block h
/-- An operation of the pool keeps the row. -/
theorem PK.row29 {M base m : Nat} {w w' : World} {v : Value} {xs : List Value} (hk : PK M w w') (h : w.ownsRow base 29 2 v m xs) (hb : M + 4 ≤ base) : w'.ownsRow base 29 2 v m xs := by
  refine own_block h (fun g e => ?_)
  rcases h.2 with ⟨rfl, _⟩ | ⟨g', cp, cur, rfl, h2, h3, _⟩
  · cases e
  · cases e
    exact hk.block g' (h.lt g' rfl).2 (.inr ⟨by omega, _, _, _, h3, by decide⟩)

end Go.Proofs.Ybulkdlic
