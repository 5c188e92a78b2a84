/-
  DERIVED. apportion: WHAT THE TWO CARDS SHARE: the arguments opened; closed facts of the program.
-/
import Derived.Test.YbulkdlfyFmtParts
import Derived.ProofKit
import Derived.ShutString
import Derived.ChangeOld
import Derived.SizedLaws
import Derived.Deep.Slices
import Derived.SevenToldRow
import Derived.Stop.JoinedTold
namespace Go.Proofs.YbulkdlfyFmt
open Go.ChangeShapes Go.WideShapes Go.ChangeAt Go.RowKit Go.Deep
open Go.ChangeMaps (open_string shut_string)
open Go.Extern.Stop Go.Stop Go.Extern

theorem own : ownKnob Ybaf.prog.godebug = none := by kernel_rfl
theorem laidOutP : laidOutB Ybaf.prog = true := by kernel_rfl
theorem cells9 : Ybaf.prog.cellsOf 9 = 1 := by kernel_rfl
theorem cells4 : Ybaf.prog.cellsOf 4 = 1 := by kernel_rfl

section
variable {H : Type} {enc : TypeId × Value → H}

/-- A slice of strings that came in. -/
theorem view22 {W : World} {ao : Option Addr} {len cap : Nat} {d : DataW H} {p : List MemPlace} (h : DataW.Trod enc Ybaf.prog W 0 (fun _ => true) true 22 (.slice ao len cap) d p) :
    len ≤ maxLen ∧ ∃ S : Nat → ByteArray, (∀ j, (S j).size ≤ maxLen) ∧ ∀ j, j < len → Spot 22 (.slice ao len cap) j W (.string (S j)) := by
  obtain ⟨fuel, hf⟩ := h
  rcases open_slice1 Ybaf.underlying22 cells9 hf with ⟨hcs, _⟩ | ⟨a, l, c, m, n, V, D, Pl, hcs, _, hl, hm, hmm, _, hx⟩
  · simp [Value.cells] at hcs
    obtain ⟨rfl, rfl, rfl⟩ := hcs
    exact ⟨Nat.zero_le _, fun _ => ByteArray.empty, fun _ => by simp [maxLen], fun j hj => by omega⟩
  · simp [Value.cells] at hcs
    obtain ⟨rfl, rfl, rfl⟩ := hcs
    have hm' : m = cap := by simpa using hmm
    subst hm'
    have each : ∀ i, i < len → ∃ s : ByteArray, s.size ≤ maxLen ∧ W.cell? (a.add i) = some (.string s) := by
      intro i hi
      obtain ⟨h1, h2⟩ := hx i (by omega)
      obtain ⟨s, e1, _, e3⟩ := DataW.trod_string Ybaf.underlying9 h2
      simp at e1
      rw [e1] at h1
      exact ⟨s, e3, h1⟩
    obtain ⟨S, hS⟩ := choose_lt each
    refine ⟨by omega, fun j => if j < len then S j else ByteArray.empty, fun j => ?_, fun j hj => ?_⟩
    · by_cases h : j < len
      · simp only [if_pos h]; exact (hS j h).1
      · simp only [if_neg h]; simp [maxLen]
    · simp only [if_pos hj]
      exact spot22 hj (hS j hj).2

/-- A slice of bools that came in. -/
theorem view23 {W : World} {ao : Option Addr} {len cap : Nat} {d : DataW H} {p : List MemPlace} (h : DataW.Trod enc Ybaf.prog W 0 (fun _ => true) true 23 (.slice ao len cap) d p) :
    len ≤ maxLen ∧ ∃ N : Nat → Bool, ∀ j, j < len → Spot 23 (.slice ao len cap) j W (.bool (N j)) := by
  obtain ⟨fuel, hf⟩ := h
  rcases open_slice1 Ybaf.underlying23 cells4 hf with ⟨hcs, _⟩ | ⟨a, l, c, m, n, V, D, Pl, hcs, _, hl, hm, hmm, _, hx⟩
  · simp [Value.cells] at hcs
    obtain ⟨rfl, rfl, rfl⟩ := hcs
    exact ⟨Nat.zero_le _, fun _ => false, fun j hj => by omega⟩
  · simp [Value.cells] at hcs
    obtain ⟨rfl, rfl, rfl⟩ := hcs
    have hm' : m = cap := by simpa using hmm
    subst hm'
    have each : ∀ i, i < len → ∃ x : Bool, W.cell? (a.add i) = some (.bool x) := by
      intro i hi
      obtain ⟨h1, h2⟩ := hx i (by omega)
      obtain ⟨x, e1, _⟩ := DataW.trod_bool Ybaf.underlying4 h2
      simp at e1
      rw [e1] at h1
      exact ⟨x, h1⟩
    obtain ⟨N, hN⟩ := choose_lt each
    exact ⟨by omega, N, fun j hj => spot23 hj (hN j hj)⟩
end

theorem laidOutC : laidOutB Ybaf.pinned.checked.prog = true := by kernel_rfl
theorem stops : Ybaf.pinned.checked.prog.stops = ["fmt.errorf", "fmt.Sprintf"] := by kernel_rfl
theorem stopKnobs : Ybaf.pinned.checked.prog.stopKnobs = [] := by kernel_rfl
theorem quiet (os : Os) : Stop.quiet Ybaf.pinned.checked.prog os := by
  intro k hk
  rw [stopKnobs] at hk
  cases hk

end Go.Proofs.YbulkdlfyFmt
