/-
  DERIVED. alloc.LawS5618AWhole: THE TWO RANGES OVER 'parts(r)': what a round keeps.
-/
import Derived.Test.YbulkdlicState4
namespace Go.Proofs.Ybulkdlic
open Go.RowKit Go.Shelf

/-- All blocks below Z but x and y lie as they lay. -/
structure KR (x y Z : Nat) (W W' : World) : Prop where
  os : W'.os = W.os
  tape : W'.tape = W.tape
  output : W'.output = W.output
  size : W.heap.size ≤ W'.heap.size
  block : ∀ b, b < Z → b ≠ x → b ≠ y → W'.heap[b]? = W.heap[b]?

theorem KR.refl (x y Z : Nat) (W : World) : KR x y Z W W := ⟨rfl, rfl, rfl, Nat.le_refl _, fun _ _ _ _ => rfl⟩
theorem KR.trans {x y Z : Nat} {A B C : World} (h : KR x y Z A B) (k : KR x y Z B C) : KR x y Z A C :=
  ⟨k.os.trans h.os, k.tape.trans h.tape, k.output.trans h.output, Nat.le_trans h.size k.size, fun b h1 h2 h3 => (k.block b h1 h2 h3).trans (h.block b h1 h2 h3)⟩
theorem KR.of_below {x y Z : Nat} {A B : World} (h : Below Z A B) : KR x y Z A B := ⟨h.os, h.tape, h.output, h.size, fun b h1 _ _ => h.block b h1⟩
theorem KR.setCell {x y Z : Nat} {W : World} (p : Addr) (v : Value) (hp : p.block = x ∨ p.block = y ∨ Z ≤ p.block) : KR x y Z W (W.setCell p v) :=
  ⟨rfl, rfl, rfl, by simp, fun b h1 h2 h3 => Below.heap_setCell _ _ _ _ (by omega)⟩
theorem KR.putObj {x y Z : Nat} {W : World} (l : Nat) (o : Obj) (hl : Z ≤ l) : KR x y Z W (W.putObj l o) :=
  ⟨rfl, rfl, rfl, by simp, fun b h1 _ _ => World.putObj_heap_other (by omega)⟩
theorem KR.grown {x y Z : Nat} {A W W' : World} {row : Option Nat} (h : KR x y Z A W) (hg : W.grownBy W' row) (hZ : Z ≤ W.heap.size) (hr : ∀ r, row = some r → Z ≤ r) : KR x y Z A W' :=
  ⟨hg.os.trans h.os, hg.tape.trans h.tape, hg.output.trans h.output, Nat.le_trans h.size hg.size, fun b h1 h2 h3 => (hg.block b (by omega) (fun e => by have := hr b e.symm; omega)).trans (h.block b h1 h2 h3)⟩
theorem KR.cell {x y Z : Nat} {W W' : World} (h : KR x y Z W W') {b o : Nat} (h1 : b < Z) (h2 : b ≠ x) (h3 : b ≠ y) : W'.cell? ⟨b, o, none⟩ = W.cell? ⟨b, o, none⟩ := World.cell?_of_block (w := W) (h.block b h1 h2 h3)

end Go.Proofs.Ybulkdlic
