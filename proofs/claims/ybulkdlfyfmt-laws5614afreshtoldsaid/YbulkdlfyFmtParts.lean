/-
  DERIVED. apportion: THE PARTS that LawS5614AWhole and LawS5614AFresh share: the contracts of zzs5614apick (function 6) and of (*Ledger).account (function 7), the map of pointers as a plain datum, what a round of the building loop does.
-/
import Derived.Test.YbulkdlfyFmtStop
import Derived.WalkKit
import Derived.WalkSpells
import Derived.WalkLawsBesides
import Derived.Maps.OwnSet
import Derived.Maps.OwnOps
import Derived.Deep.OwnRows
import Derived.BigQuiet
import Derived.BigRegion
namespace Go.Proofs.YbulkdlfyFmt
open Go.RowKit Go.Extern.Stop Go.Stop Go.Extern Go.Maps
set_option linter.unusedVariables false
attribute [local go_sem] call22 guardAll fmt0 fmt0r op9_113 op9_113w ptr80 elem80 isError80

/-- How an element of the map reads in these proofs: a pointer as a token of itself. -/
def ptrElem (v : Value) : Option (DataW (Option Addr) × List MemPlace) := match v with | .pointer p => some (.held p, []) | _ => none

theorem keyed9 : Keyed Ybaf.prog 9 := string_keyed Ybaf.underlying9
theorem zero27 (w : World) : (zeroValue 27).run Ybaf.prog w = .ok (.pointer none) w := by kernel_rfl

/-- The look-up as an equation. -/
theorem look_run {w : World} {b n : Nat} {D : DataW (Option Addr)} (h : w.ownsMap Ybaf.prog 9 ptrElem b n D) (s : ByteArray) (hs : s.size ≤ maxLen) (p : Option Addr)
    (hat : D.atKey (.string s.data.toList) (.held none) = .held p) : (Instr.lookup 26 (.map (some b)) (.string s) false).run Ybaf.prog w = .ok (.pointer p) w := by
  obtain ⟨v, ps, hrun, hv⟩ := h.lookup keyed9 Ybaf.underlying26 (zero27 w) (zd := .held none) (zp := []) rfl (WideMaps.keyOf_string_mk Ybaf.underlying9 hs)
  rw [hat] at hv
  rw [hrun]
  cases v <;> simp [ptrElem] at hv
  rw [hv.1]

theorem account_found (g b n : Nat) (D : DataW (Option Addr)) (s : ByteArray) (a : Addr) (w : World) (hc : w.cell? ⟨g, 2, none⟩ = some (.map (some b))) (h : w.ownsMap Ybaf.prog 9 ptrElem b n D) (hs : s.size ≤ maxLen)
    (hat : D.atKey (.string s.data.toList) (.held none) = .held (some a)) :
    Calls Ybaf.prog 7 #[.pointer (some ⟨g, 0, none⟩), .string s] w fun e w' => e = .returned (.tuple #[.pointer (some a), .nilIface]) ∧ w' = w := by
  have hlk := look_run h s hs _ hat
  clear h hat
  go_enter Ybaf.func7, Ybaf.ntmps7
  go_wp2
  go_ret2
  exact ⟨rfl, rfl⟩

theorem account_none (F : Interp) (g b n : Nat) (D : DataW (Option Addr)) (s : ByteArray) (w : World) (hF : F.answers w.tape) (hc : w.cell? ⟨g, 2, none⟩ = some (.map (some b))) (h : w.ownsMap Ybaf.prog 9 ptrElem b n D) (hs : s.size ≤ maxLen)
    (hat : D.atKey (.string s.data.toList) (.held none) = .held none) :
    Calls Ybaf.prog 7 #[.pointer (some ⟨g, 0, none⟩), .string s] w fun e w' => (∃ x, e = .returned (.tuple #[.pointer none, .iface 80 x])) ∧ Below w.heap.size w w' := by
  have hlk := look_run h s hs _ hat
  clear h hat
  have hF' := answers_open hF
  go_enter Ybaf.func7, Ybaf.ntmps7
  go_wp2
  go_ret2
  exact ⟨⟨_, rfl⟩, (((Below.refl _ _).alloc (Nat.le_refl _) _).alloc (by simp) _).drew⟩

theorem lt_of_cell {w : World} {a : Addr} {v : Value} (h : w.cell? a = some v) : a.block < w.heap.size := by
  rcases Nat.lt_or_ge a.block w.heap.size with h' | h'
  · exact h'
  · simp [World.cell?, Array.getElem?_eq_none h'] at h

/-- The broker that the law asks for. -/
theorem pick_other (len : Nat) (ao : Option Addr) (cap : Nat) (pk : Int) (other : ByteArray) (u : Bool) (w : World) (h : u = true ∨ len = 0) :
    Calls Ybaf.prog 6 #[.slice ao len cap, .int .u8 pk, .string other, .bool u] w fun e w' => e = .returned (.string other) ∧ w' = w := by
  rcases h with rfl | rfl
  · go_enter Ybaf.func6, Ybaf.ntmps6
    go_wp2
    go_ret
    exact ⟨rfl, rfl⟩
  · cases u
    all_goals
      go_enter Ybaf.func6, Ybaf.ntmps6
      go_wp2
      go_ret
      exact ⟨rfl, rfl⟩

/-- Element j of the slice v (of type t) lies in old memory and holds x. -/
def Spot (t : TypeId) (v : Value) (j : Nat) (w : World) (x : Value) : Prop :=
  ∃ b o, b < w.heap.size ∧ (∀ W, (Instr.indexAt t v (.int .i64 j)).run Ybaf.prog W = .ok (.pointer (some ⟨b, o, none⟩)) W) ∧ w.cell? ⟨b, o, none⟩ = some x

theorem Spot.later {t : TypeId} {v : Value} {j : Nat} {w w' : World} {x : Value} (h : Spot t v j w x) (hb : Below w.heap.size w w') :
    ∃ b o, b < w.heap.size ∧ (∀ W, (Instr.indexAt t v (.int .i64 j)).run Ybaf.prog W = .ok (.pointer (some ⟨b, o, none⟩)) W) ∧ w'.cell? ⟨b, o, none⟩ = some x := by
  obtain ⟨b, o, h1, h2, h3⟩ := h
  exact ⟨b, o, h1, h2, (hb.cell (p := ⟨b, o, none⟩) h1).trans h3⟩

theorem spot_none {w : World} {p : Addr} {x : Value} (h : w.cell? p = some x) : p = ⟨p.block, p.off, none⟩ := by
  have h0 := World.cell?_spot h
  obtain ⟨b, o, sp⟩ := p
  subst h0
  rfl

/-! From a slice that has an address to its elements. -/
theorem elem22 : Ybaf.prog.elem 22 = 9 := by kernel_rfl
theorem size9 (W : World) : (sizeOf 9).run Ybaf.prog W = .ok 1 W := by kernel_rfl
theorem spot22 {a : Addr} {len cap j : Nat} {w : World} {x : Value} (hj : j < len) (hc : w.cell? (a.add j) = some x) : Spot 22 (.slice (some a) len cap) j w x := by
  refine ⟨(a.add j).block, (a.add j).off, lt_of_cell hc, fun W => ?_, ?_⟩
  · rw [← spot_none hc, run_indexAt_slice W 22 a len cap .i64 j (by rw [elem22]; exact Ybaf.underlying22), if_pos (by omega), elem22, size9]
    simp [Result.andThen]
  · rw [← spot_none hc]; exact hc
theorem elem23 : Ybaf.prog.elem 23 = 4 := by kernel_rfl
theorem size4 (W : World) : (sizeOf 4).run Ybaf.prog W = .ok 1 W := by kernel_rfl
theorem spot23 {a : Addr} {len cap j : Nat} {w : World} {x : Value} (hj : j < len) (hc : w.cell? (a.add j) = some x) : Spot 23 (.slice (some a) len cap) j w x := by
  refine ⟨(a.add j).block, (a.add j).off, lt_of_cell hc, fun W => ?_, ?_⟩
  · rw [← spot_none hc, run_indexAt_slice W 23 a len cap .i64 j (by rw [elem23]; exact Ybaf.underlying23), if_pos (by omega), elem23, size4]
    simp [Result.andThen]
  · rw [← spot_none hc]; exact hc

theorem pick_id (ao : Option Addr) (len cap : Nat) (S : Nat → ByteArray) (pk : Int) (other : ByteArray) (w : World) (h0 : 0 < len) (hl : len ≤ 1048576) (hp0 : 0 ≤ pk) (hp1 : pk ≤ 255)
    (hc : ∀ j, j < len → Spot 22 (.slice ao len cap) j w (.string (S j))) :
    Calls Ybaf.prog 6 #[.slice ao len cap, .int .u8 pk, .string other, .bool false] w fun e w' => e = .returned (.string (S (pk % len).toNat)) ∧ w' = w := by
  have hz : ((len : Int) == 0) = false := by simp; omega
  have hm0 : 0 ≤ pk % (len : Int) := Int.emod_nonneg _ (by omega)
  have hm1 : pk % (len : Int) < len := Int.emod_lt_of_pos _ (by omega)
  obtain ⟨b, o, h1, h2, h3⟩ := hc (pk % (len : Int)).toNat (by omega)
  rw [show (((pk % (len : Int)).toNat : Nat) : Int) = pk % (len : Int) by omega] at h2
  clear hc
  go_enter Ybaf.func6, Ybaf.ntmps6
  go_wp2
  go_ret
  exact ⟨rfl, rfl⟩

/-! ### The plain part: what the map holds, and the last entry of an id -/
def mkUpTo (S : Nat → ByteArray) (Pt : Nat → Option Addr) : Nat → DataW (Option Addr)
  | 0 => .map []
  | k + 1 => (mkUpTo S Pt k).put (.string (S k).data.toList) (.held (Pt k))
def lastUpTo (S : Nat → ByteArray) (Pt : Nat → Option Addr) (s : ByteArray) : Nat → Option Addr
  | 0 => none
  | k + 1 => if (S k).data.toList = s.data.toList then Pt k else lastUpTo S Pt s k

theorem mkUpTo_congr (S : Nat → ByteArray) (Pt Pt' : Nat → Option Addr) : ∀ k, (∀ j, j < k → Pt j = Pt' j) → mkUpTo S Pt k = mkUpTo S Pt' k
  | 0, _ => rfl
  | k + 1, h => by rw [mkUpTo, mkUpTo, mkUpTo_congr S Pt Pt' k (fun j hj => h j (by omega)), h k (by omega)]

theorem mkUpTo_isMap (S : Nat → ByteArray) (Pt : Nat → Option Addr) : ∀ k, IsMap (mkUpTo S Pt k)
  | 0 => isMap_empty
  | k + 1 => (mkUpTo_isMap S Pt k).put _ _

theorem mkUpTo_at (S : Nat → ByteArray) (Pt : Nat → Option Addr) (s : ByteArray) : ∀ k, (mkUpTo S Pt k).atKey (.string s.data.toList) (.held none) = .held (lastUpTo S Pt s k)
  | 0 => rfl
  | k + 1 => by
    rw [mkUpTo, lastUpTo]
    by_cases h : (S k).data.toList = s.data.toList
    · rw [if_pos h, h, atKey_put_same (k := .string s.data.toList) (mkUpTo_isMap S Pt k) trivial]
    · rw [if_neg h, atKey_put_other (fun e => h (by injection e with e; exact e.symm)), mkUpTo_at S Pt s k]

/-- What the first loop has built after k rounds. -/
structure Inv (w : World) (S : Nat → ByteArray) (len k : Nat) (Pt : Nat → Option Addr) (wr : World) : Prop where
  row : wr.rowIs w.heap.size 27 len (fun j => .pointer (if j < k then Pt j else none))
  map : wr.ownsMap Ybaf.prog 9 ptrElem (w.heap.size + 1) k (mkUpTo S Pt k)
  below : Below w.heap.size w wr
  accts : ∀ j a, j < k → Pt j = some a → ∃ g, a = ⟨g, 0, none⟩ ∧ w.heap.size + 1 < g ∧ wr.cell? ⟨g, 0, none⟩ = some (.string (S j))

theorem info27 : (Ybaf.prog.info? 27).map (fun i => (i.zero, i.size, i.bytes)) = some (some (.pointer none), 1, 8) := by kernel_rfl

theorem make26 (n : Int) (w : World) : (Instr.makeMap 26 (some (.int .i64 n))).run Ybaf.prog w = .ok (.map (some w.heap.size)) (w.alloc (.map #[] 0)) := by kernel_rfl


/-- ONE ROUND's STORE INTO THE MAP. -/
theorem step {w : World} {S : Nat → ByteArray} {len k : Nat} {Pt : Nat → Option Addr} {wr : World} (hinv : Inv w S len k Pt wr) (hk : k < len) (hl : len ≤ 1048576) (hsz : (S k).size ≤ maxLen) (x : Option Addr) (W1 : World)
    (hrow : W1.rowIs w.heap.size 27 len (fun j => if j = k then .pointer x else .pointer (if j < k then Pt j else none)))
    (hmap : W1.ownsMap Ybaf.prog 9 ptrElem (w.heap.size + 1) k (mkUpTo S Pt k))
    (hb : Below w.heap.size w W1)
    (hold : ∀ g, w.heap.size + 1 < g → g < wr.heap.size → W1.heap[g]? = wr.heap[g]?)
    (hnew : ∀ a, x = some a → ∃ g, a = ⟨g, 0, none⟩ ∧ w.heap.size + 1 < g ∧ W1.cell? ⟨g, 0, none⟩ = some (.string (S k))) :
    ∃ w2 Pt', (Instr.mapUpdate 26 (.map (some (w.heap.size + 1))) (.string (S k)) (.pointer x)).run Ybaf.prog W1.drew = .ok () w2 ∧ Inv w S len (k + 1) Pt' w2 := by
  obtain ⟨w2, hrun, hown, hg⟩ := hmap.drew.update keyed9 Ybaf.underlying26 (by unfold maxLen; omega) (WideMaps.keyOf_string_mk Ybaf.underlying9 hsz) (val := .pointer x) (d := .held x) (ps := []) rfl
  have hlt := hmap.lt
  refine ⟨w2, fun j => if j = k then x else Pt j, hrun, ?_, ?_, ?_, ?_⟩
  · refine (hrow.drew.of_block (hg.block _ (by simpa using hrow.lt) (by simp))).congr fun j hj => ?_
    by_cases e : j = k
    · subst e; simp
    · rw [if_neg e, if_neg e]
      by_cases e2 : j < k
      · rw [if_pos e2, if_pos (by omega)]
      · rw [if_neg e2, if_neg (by omega)]
  · rw [mkUpTo, mkUpTo_congr S _ Pt k (fun j hj => if_neg (by omega)), if_pos rfl]
    exact hown
  · exact hb.drew.grown hg hb.size (fun j hj => by cases hj; omega)
  · intro j a hj ha
    by_cases e : j = k
    · subst e
      rw [if_pos rfl] at ha
      obtain ⟨g, rfl, h1, h2⟩ := hnew a ha
      refine ⟨g, rfl, h1, ?_⟩
      rw [World.cell?_of_block (w := W1) (hg.block g (lt_of_cell h2) (by simp; omega))]
      exact h2
    · rw [if_neg e] at ha
      obtain ⟨g, rfl, h1, h2⟩ := hinv.accts j a (by omega) ha
      refine ⟨g, rfl, h1, ?_⟩
      have hgl := lt_of_cell h2
      have e1 := hold g h1 hgl
      have hgl1 : g < W1.heap.size := by
        rcases Nat.lt_or_ge g W1.heap.size with h | h
        · exact h
        · rw [Array.getElem?_eq_none h] at e1
          rw [Array.getElem?_eq_getElem hgl] at e1
          cases e1
      rw [World.cell?_of_block (w := W1) (hg.block g hgl1 (by simp; omega)), World.cell?_of_block (w := wr) e1]
      exact h2

theorem start (w : World) (S : Nat → ByteArray) (len : Nat) : Inv w S len 0 (fun _ => none) ((w.alloc (.cells (madeCells #[.pointer none] len) 27)).alloc (.map #[] 0)) := by
  refine ⟨?_, ?_, ?_, ?_⟩
  · exact ((World.rowIs_made w (.pointer none) len 27).alloc _).congr fun j hj => by simp
  · have := World.ownsMap_made (w.alloc (.cells (madeCells #[.pointer none] len) 27)) Ybaf.prog 9 ptrElem
    simpa [mkUpTo] using this
  · exact ((Below.refl _ _).alloc (Nat.le_refl _) _).alloc (by simp) _
  · intro j a hj; omega

end Go.Proofs.YbulkdlfyFmt
