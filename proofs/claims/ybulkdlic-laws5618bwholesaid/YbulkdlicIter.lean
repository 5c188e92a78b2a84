/-
  DERIVED. alloc.LawS5618AWhole: THE ITERATOR 'parts(r)': it yields the tiers i0 .. i0 + m - 1 by value, each with r cut to it.
-/
import Derived.Test.YbulkdlicFind
import Derived.RangeFuncNested
import Derived.RangeFuncBound
import Derived.RangeFuncCalls
import Derived.RangeFuncLeaves
import Derived.Shelf.Abstract
import Derived.Shelf.RegionOpen
import Derived.WalkKit
import Derived.OwnWalkIn
import Derived.TacticsInMore
import Derived.LoopNIn
import Derived.LoopIn
import Derived.Deep.RegionHeld3
import Derived.Deep.DrawnRows
import Derived.BigQuiet
namespace Go.Proofs.Ybulkdlic
open Go.RowKit Go.Shelf

attribute [local go_sem] Oper.semAt_some
attribute [local go_sem ↓] Go.wp_at_zero Go.wp_at_succ

/-- HOW A POOL LIES: the pool's block, the tiers' block, the row of pointers by value, and each tier's range in value order. -/
structure PL where
  n : Nat
  cap : Nat
  BB : Nat
  TB : Nat
  PB : Nat
  pb : Option Addr
  o : Nat → Nat
  Fh : Nat → Int
  Fl : Nat → Int
  Lh : Nat → Int
  Ll : Nat → Int

/-- The pool lies so in W. -/
structure PL.In (p : PL) (W : World) : Prop where
  sl : W.cell? ⟨p.PB, 3, none⟩ = some (.slice p.pb p.n p.cap)
  byv : ∀ k, k < p.n → W.cell? ⟨p.BB, k, none⟩ = some (.pointer (some ⟨p.TB, p.o k, none⟩))
  f0 : ∀ k, k < p.n → W.cell? ⟨p.TB, p.o k, none⟩ = some (.int .u64 (p.Fh k))
  f1 : ∀ k, k < p.n → W.cell? ⟨p.TB, p.o k + 1, none⟩ = some (.int .u64 (p.Fl k))
  f2 : ∀ k, k < p.n → W.cell? ⟨p.TB, p.o k + 2, none⟩ = some (.int .u64 (p.Lh k))
  f3 : ∀ k, k < p.n → W.cell? ⟨p.TB, p.o k + 2 + 1, none⟩ = some (.int .u64 (p.Ll k))

/-- .. and the iterator's two captured variables. -/
structure PL.It (p : PL) (Bp Br : Nat) (th tl uh ul : Int) (W : World) : Prop where
  pool : p.In W
  bp : W.cell? ⟨Bp, 0, none⟩ = some (.pointer (some ⟨p.PB, 0, none⟩))
  r0 : W.cell? ⟨Br, 0, none⟩ = some (.int .u64 th)
  r1 : W.cell? ⟨Br, 1, none⟩ = some (.int .u64 tl)
  r2 : W.cell? ⟨Br, 2, none⟩ = some (.int .u64 uh)
  r3 : W.cell? ⟨Br, 3, none⟩ = some (.int .u64 ul)

theorem PL.In.below {p : PL} {W W' : World} (h : p.In W) (hb : Below W.heap.size W W') : p.In W' :=
  ⟨cell_below h.sl hb, fun k hk => cell_below (h.byv k hk) hb, fun k hk => cell_below (h.f0 k hk) hb, fun k hk => cell_below (h.f1 k hk) hb, fun k hk => cell_below (h.f2 k hk) hb, fun k hk => cell_below (h.f3 k hk) hb⟩
theorem PL.It.below {p : PL} {Bp Br : Nat} {th tl uh ul : Int} {W W' : World} (h : p.It Bp Br th tl uh ul W) (hb : Below W.heap.size W W') : p.It Bp Br th tl uh ul W' :=
  ⟨h.pool.below hb, cell_below h.bp hb, cell_below h.r0 hb, cell_below h.r1 hb, cell_below h.r2 hb, cell_below h.r3 hb⟩

theorem grown_below {W W' : World} (h : Below W.heap.size W W') : W.grownBy W' none :=
  ⟨h.os, h.tape, h.output, h.size, fun k hk _ => h.block k hk⟩

/-- The tier k cut to r. -/
def PL.aH (p : PL) (th tl : Int) (k : Nat) : Int := if cmp3 (p.Fh k) (p.Fl k) th tl < 0 then th else p.Fh k
def PL.aL (p : PL) (th tl : Int) (k : Nat) : Int := if cmp3 (p.Fh k) (p.Fl k) th tl < 0 then tl else p.Fl k
def PL.zH (p : PL) (uh ul : Int) (k : Nat) : Int := if cmp3 (p.Lh k) (p.Ll k) uh ul > 0 then uh else p.Lh k
def PL.zL (p : PL) (uh ul : Int) (k : Nat) : Int := if cmp3 (p.Lh k) (p.Ll k) uh ul > 0 then ul else p.Ll k
def PL.part (p : PL) (th tl uh ul : Int) (k : Nat) : Value := .agg #[.int .u64 (p.aH th tl k), .int .u64 (p.aL th tl k), .int .u64 (p.zH uh ul k), .int .u64 (p.zL uh ul k)]
def PL.ok (p : PL) (th tl uh ul : Int) (k : Nat) : Bool := decide (cmp3 (p.aH th tl k) (p.aL th tl k) (p.zH uh ul k) (p.zL uh ul k) ≤ 0)

theorem take_succ_fin {m k : Nat} (hk : k < m) : (List.finRange m).take (k + 1) = (List.finRange m).take k ++ [⟨k, hk⟩] := by
  rw [List.take_add_one]
  congr 1
  simp [hk]

theorem it_below {w W w' : World} {a1 a2 a3 a4 : Addr} {v1 v2 v3 v4 : Value} (h : W.cell? a1 = some v1 ∧ W.cell? a2 = some v2 ∧ W.cell? a3 = some v3 ∧ W.cell? a4 = some v4 ∧ Below w.heap.size w W) (hb : Below W.heap.size W w') :
    w'.cell? a1 = some v1 ∧ w'.cell? a2 = some v2 ∧ w'.cell? a3 = some v3 ∧ w'.cell? a4 = some v4 ∧ Below w.heap.size w w' :=
  ⟨cell_below h.1 hb, cell_below h.2.1 hb, cell_below h.2.2.1 hb, cell_below h.2.2.2.1 hb, h.2.2.2.2.trans (hb.mono h.2.2.2.2.size)⟩

theorem after_a {wr w' : World} {t : TypeId} {v0 v1 v2 v3 : Value} (hB' : Below (wr.alloc (.cells #[v0, v1, v2, v3] t)).drew.heap.size (wr.alloc (.cells #[v0, v1, v2, v3] t)).drew w') :
    Below wr.heap.size wr w' ∧ w'.cell? ⟨wr.heap.size, 0, none⟩ = some v0 ∧ w'.cell? ⟨wr.heap.size, 1, none⟩ = some v1 ∧ w'.cell? ⟨wr.heap.size, 2, none⟩ = some v2 ∧ w'.cell? ⟨wr.heap.size, 3, none⟩ = some v3 ∧ ∀ i, w'.frozen? ⟨wr.heap.size, i, none⟩ = false :=
  ⟨(((Below.refl _ wr).alloc (Nat.le_refl _) _).drew).trans (hB'.mono (by simp)), cell_below (keepD (newAt rfl rfl)) hB', cell_below (keepD (newAt rfl rfl)) hB', cell_below (keepD (newAt rfl rfl)) hB', cell_below (keepD (newAt rfl rfl)) hB',
    fun i => (hB'.frozen (p := ⟨wr.heap.size, i, none⟩) (by simp)).trans (newFr rfl)⟩
theorem after_b {wr w' : World} (hB' : Below wr.drew.heap.size wr.drew w') : Below wr.heap.size wr w' := ((Below.refl _ wr).drew).trans (hB'.mono (Nat.le_refl _))
theorem after_ae {G : Prop} {wr w' : World} {t : TypeId} {v0 v1 v2 v3 : Value} (hB' : Below (wr.alloc (.cells #[v0, v1, v2, v3] t)).drew.heap.size (wr.alloc (.cells #[v0, v1, v2, v3] t)).drew w')
    (h : Below wr.heap.size wr w' → w'.cell? ⟨wr.heap.size, 0, none⟩ = some v0 → w'.cell? ⟨wr.heap.size, 1, none⟩ = some v1 → w'.cell? ⟨wr.heap.size, 2, none⟩ = some v2 → w'.cell? ⟨wr.heap.size, 3, none⟩ = some v3 → (∀ i, w'.frozen? ⟨wr.heap.size, i, none⟩ = false) → G) : G :=
  have k := after_a hB'
  h k.1 k.2.1 k.2.2.1 k.2.2.2.1 k.2.2.2.2.1 k.2.2.2.2.2
theorem after_be {G : Prop} {wr w' : World} (hB' : Below wr.drew.heap.size wr.drew w') (h : Below wr.heap.size wr w' → G) : G := h (after_b hB')
theorem intersect_pl (p : PL) (j : Nat) (th tl uh ul : Int) (w : World) :
    Calls Yba.prog 29 #[.agg #[.int .u64 (p.Fh j), .int .u64 (p.Fl j), .int .u64 (p.Lh j), .int .u64 (p.Ll j)], .agg #[.int .u64 th, .int .u64 tl, .int .u64 uh, .int .u64 ul]] w fun e' w' =>
      e' = .returned (.tuple #[.agg #[.int .u64 (p.aH th tl j), .int .u64 (p.aL th tl j), .int .u64 (p.zH uh ul j), .int .u64 (p.zL uh ul j)], .bool (p.ok th tl uh ul j)]) ∧ Below w.heap.size w w' :=
  intersect_any (p.Fh j) (p.Fl j) (p.Lh j) (p.Ll j) th tl uh ul w
theorem set4 {W : World} {B : Nat} {u0 u1 u2 u3 : Value} (a b c d : Value) (z0 : W.cell? ⟨B, 0, none⟩ = some u0) (z1 : W.cell? ⟨B, 1, none⟩ = some u1) (z2 : W.cell? ⟨B, 2, none⟩ = some u2) (z3 : W.cell? ⟨B, 3, none⟩ = some u3) :
    ((((W.setCell ⟨B, 0, none⟩ a).setCell ⟨B, 1, none⟩ b).setCell ⟨B, 2, none⟩ c).setCell ⟨B, 3, none⟩ d).cell? ⟨B, 0, none⟩ = some a ∧
    ((((W.setCell ⟨B, 0, none⟩ a).setCell ⟨B, 1, none⟩ b).setCell ⟨B, 2, none⟩ c).setCell ⟨B, 3, none⟩ d).cell? ⟨B, 1, none⟩ = some b ∧
    ((((W.setCell ⟨B, 0, none⟩ a).setCell ⟨B, 1, none⟩ b).setCell ⟨B, 2, none⟩ c).setCell ⟨B, 3, none⟩ d).cell? ⟨B, 2, none⟩ = some c ∧
    ((((W.setCell ⟨B, 0, none⟩ a).setCell ⟨B, 1, none⟩ b).setCell ⟨B, 2, none⟩ c).setCell ⟨B, 3, none⟩ d).cell? ⟨B, 3, none⟩ = some d := by
  have e1 : (W.setCell ⟨B, 0, none⟩ a).cell? ⟨B, 0, none⟩ = some a := World.cell?_setCell_same' _ _ _ (by rw [z0]; rfl)
  have e2 : ((W.setCell ⟨B, 0, none⟩ a).setCell ⟨B, 1, none⟩ b).cell? ⟨B, 1, none⟩ = some b := World.cell?_setCell_same' _ _ _ (by rw [World.cell?_setCell_other _ _ _ _ (by simp), z1]; rfl)
  have e3 : (((W.setCell ⟨B, 0, none⟩ a).setCell ⟨B, 1, none⟩ b).setCell ⟨B, 2, none⟩ c).cell? ⟨B, 2, none⟩ = some c := World.cell?_setCell_same' _ _ _ (by rw [World.cell?_setCell_other _ _ _ _ (by simp), World.cell?_setCell_other _ _ _ _ (by simp), z2]; rfl)
  refine ⟨?_, ?_, ?_, ?_⟩
  · rw [World.cell?_setCell_other _ _ _ _ (by simp), World.cell?_setCell_other _ _ _ _ (by simp), World.cell?_setCell_other _ _ _ _ (by simp)]; exact e1
  · rw [World.cell?_setCell_other _ _ _ _ (by simp), World.cell?_setCell_other _ _ _ _ (by simp)]; exact e2
  · rw [World.cell?_setCell_other _ _ _ _ (by simp)]; exact e3
  · exact World.cell?_setCell_same' _ _ _ (by rw [World.cell?_setCell_other _ _ _ _ (by simp), World.cell?_setCell_other _ _ _ _ (by simp), World.cell?_setCell_other _ _ _ _ (by simp), z3]; rfl)

structure Off (i k j : Nat) : Prop where
  eq : i + k = j
theorem wpIn_at_world {F : Fence} {n : Nat} {P : Program} {c : Code} {Q : Exit → Act → World → Prop} {a : Act} {w : World} (C : World → Prop) (hC : C w) (h : ∀ W, C W → c.wpIn F n P Q a W) : c.wpIn F n P Q a w := h w hC

set_option maxRecDepth 100000 in
set_option maxHeartbeats 2000000 in
theorem parts1_in (p : PL) (Bp Br i0 m l : Nat) (th tl uh ul : Int) (hn : p.n ≤ 65536)
    (hix : ∀ (k : Nat), k < p.n → ∀ W, (Instr.indexAt 48 (.slice p.pb p.n p.cap) (.int .i64 k)).run Yba.prog W = .ok (.pointer (some ⟨p.BB, k, none⟩)) W)
    (him : i0 + m ≤ p.n) (hlo : ∀ k, k < i0 → cmp3 (p.Lh k) (p.Ll k) th tl < 0) (hhi : ∀ k, i0 ≤ k → k < p.n → ¬ cmp3 (p.Lh k) (p.Ll k) th tl < 0)
    (hok : ∀ k, i0 ≤ k → k < i0 + m → p.ok th tl uh ul k = true) (hno : i0 + m < p.n → p.ok th tl uh ul (i0 + m) = false)
    (Kp : World → World → Prop) (hKp : ∀ W W', Kp W W' → p.It Bp Br th tl uh ul W → p.It Bp Br th tl uh ul W')
    (B : Nat) (J Jx : List (Fin m) → World → Prop) (hJ : AbidesFrom B J)
    (hY : ∀ pre x W, J pre W → pre.length < m → YieldAt Fence.wide 1 Yba.prog l #[.pointer (some ⟨p.TB, p.o (i0 + x.1), none⟩), p.part th tl uh ul (i0 + x.1)] W fun e W' =>
      (e = .returned (.bool true) ∧ J (pre ++ [x]) W' ∧ Kp W W') ∨ (e = .returned (.bool false) ∧ Jx (pre ++ [x]) W'))
    (W : World) (hW : p.It Bp Br th tl uh ul W) (h0 : J [] W) :
    CallsIn Fence.wide 2 Yba.prog 26 #[.func (.yield l) #[] #[], .pointer (some ⟨Bp, 0, none⟩), .pointer (some ⟨Br, 0, none⟩)] W fun e W' => (∃ v, e = .returned v) ∧
      ((∃ ys, ys = List.finRange m ∧ J ys W') ∨ (∃ pre, pre <+: List.finRange m ∧ Jx pre W')) := by
  obtain ⟨hp, b0, q0, q1, q2, q3⟩ := id hW
  have s0 := hp.sl
  have hbs := bsearch_any p.n p.cap p.BB p.TB i0 p.pb p.o p.Lh p.Ll th tl W.drew hn hix hp.byv (fun k hk => ⟨hp.f2 k hk, hp.f3 k hk⟩) (by omega) hlo hhi
  refine callsIn_of_wp Yba.func26 rfl trivial ?_ rfl
  simp only [Yba.ntmps26, List.size_toArray, List.length_cons, List.length_nil, Nat.reduceAdd, Nat.reduceSub, Array.replicate_succ, Array.replicate_zero, List.push_toArray, List.append_toArray, List.nil_append, List.cons_append]
  gi_wp2
  refine wpIn_wide.2 ?_
  go_region_held3 (fun w' => w'.cell? ⟨Bp, 0, none⟩ = some (.pointer (some ⟨p.PB, 0, none⟩)) ∧ w'.cell? ⟨p.PB, 3, none⟩ = some (.slice p.pb p.n p.cap) ∧ w'.cell? ⟨Br, 0, none⟩ = some (.int .u64 th) ∧ w'.cell? ⟨Br, 1, none⟩ = some (.int .u64 tl) ∧ Below W.heap.size W w') (first | exact ⟨b0, s0, q0, q1, (Below.refl _ W).drew⟩ | exact it_below ‹_ ∧ _› hB')
    (first | (go_at_call 28; refine hbs.mono ?_; rintro e w' ⟨⟨fb, rfl⟩, hB'⟩))
  rename_i hHeld
  obtain ⟨-, -, -, -, e2⟩ := id hHeld
  have hW1 : p.It Bp Br th tl uh ul w' := hW.below e2
  have hJ1 : J [] w' := hJ [] W w' none h0 (grown_below e2) (fun r e => by cases e)
  clear hbs hHeld s0 b0 q0 q1 q2 q3 hp hlo hhi e2 hB' h0 hW
  gi_wp2
  gi_loopw [5, 7, 8] (fun i _ _ wr => ∃ k j : Nat, Off i0 k j ∧ k ≤ m ∧ i = .int .i64 (j : Int) ∧ p.It Bp Br th tl uh ul wr ∧ J ((List.finRange m).take k) wr) (fun i _ _ _ => i0 + m - (intOf i).toNat)
  case atStart => exact ⟨0, i0, ⟨rfl⟩, Nat.zero_le _, rfl, hW1, hJ1⟩
  case round =>
    obtain ⟨k, j, ⟨hj⟩, hk, rfl, hIt, hJk⟩ := hrel
    obtain ⟨hp, b0, q0, q1, q2, q3⟩ := id hIt
    have s0 := hp.sl
    by_cases hlt : j < p.n
    · have hx := hix j hlt
      have y0 := hp.byv _ hlt
      have y1 := hp.f0 _ hlt
      have y2 := hp.f1 _ hlt
      have y3 := hp.f2 _ hlt
      have y4 := hp.f3 _ hlt
      have hltI : (j : Int) < (p.n : Int) := by omega
      clear hp
      have hS : ∀ w', Below wr.heap.size wr w' → (w'.cell? ⟨Bp, 0, none⟩ = some (.pointer (some ⟨p.PB, 0, none⟩)) ∧ w'.cell? ⟨p.PB, 3, none⟩ = some (.slice p.pb p.n p.cap) ∧ w'.cell? ⟨p.BB, j, none⟩ = some (.pointer (some ⟨p.TB, p.o j, none⟩)) ∧
          w'.cell? ⟨p.TB, p.o j, none⟩ = some (.int .u64 (p.Fh j)) ∧ w'.cell? ⟨p.TB, p.o j + 1, none⟩ = some (.int .u64 (p.Fl j)) ∧ w'.cell? ⟨p.TB, p.o j + 2, none⟩ = some (.int .u64 (p.Lh j)) ∧ w'.cell? ⟨p.TB, p.o j + 2 + 1, none⟩ = some (.int .u64 (p.Ll j)) ∧
          w'.cell? ⟨Br, 0, none⟩ = some (.int .u64 th) ∧ w'.cell? ⟨Br, 1, none⟩ = some (.int .u64 tl) ∧ w'.cell? ⟨Br, 2, none⟩ = some (.int .u64 uh) ∧ w'.cell? ⟨Br, 3, none⟩ = some (.int .u64 ul) ∧ Below wr.heap.size wr w') := fun w' hb =>
        ⟨cell_below b0 hb, cell_below s0 hb, cell_below y0 hb, cell_below y1 hb, cell_below y2 hb, cell_below y3 hb, cell_below y4 hb, cell_below q0 hb, cell_below q1 hb, cell_below q2 hb, cell_below q3 hb, hb⟩
      gi_wp2
      refine wpIn_wide.2 ?_
      go_region_held3 (fun w' => w'.cell? ⟨Bp, 0, none⟩ = some (.pointer (some ⟨p.PB, 0, none⟩)) ∧ w'.cell? ⟨p.PB, 3, none⟩ = some (.slice p.pb p.n p.cap) ∧ w'.cell? ⟨p.BB, j, none⟩ = some (.pointer (some ⟨p.TB, p.o j, none⟩)) ∧
          w'.cell? ⟨p.TB, p.o j, none⟩ = some (.int .u64 (p.Fh j)) ∧ w'.cell? ⟨p.TB, p.o j + 1, none⟩ = some (.int .u64 (p.Fl j)) ∧ w'.cell? ⟨p.TB, p.o j + 2, none⟩ = some (.int .u64 (p.Lh j)) ∧ w'.cell? ⟨p.TB, p.o j + 2 + 1, none⟩ = some (.int .u64 (p.Ll j)) ∧
          w'.cell? ⟨Br, 0, none⟩ = some (.int .u64 th) ∧ w'.cell? ⟨Br, 1, none⟩ = some (.int .u64 tl) ∧ w'.cell? ⟨Br, 2, none⟩ = some (.int .u64 uh) ∧ w'.cell? ⟨Br, 3, none⟩ = some (.int .u64 ul) ∧ Below wr.heap.size wr w')
        (first | exact hS _ (Below.refl _ wr).drew | exact hS _ ((Below.refl _ wr).alloc (Nat.le_refl _) _).drew | exact hS _ hB2 | exact hS _ (hB2.alloc hB2.size _) | exact hS _ ((((hB2.setCell (p := ⟨wr.heap.size, 0, none⟩) (Nat.le_refl _) _).setCell (p := ⟨wr.heap.size, 1, none⟩) (Nat.le_refl _) _).setCell (p := ⟨wr.heap.size, 2, none⟩) (Nat.le_refl _) _).setCell (p := ⟨wr.heap.size, 3, none⟩) (Nat.le_refl _) _))
        (first | (go_at_call 29; refine (intersect_pl p j th tl uh ul _).mono ?_; rintro e w' ⟨rfl, hB'⟩; first | (refine after_ae (wr := wr) (w' := w') (t := 31) (v0 := .int .u64 0) (v1 := .int .u64 0) (v2 := .int .u64 0) (v3 := .int .u64 0) ?_ ?_; (assumption); intro hB2 z0 z1 z2 z3 zf) | (refine after_be (wr := wr) (w' := w') ?_ ?_; (assumption); intro hB2)))
      · rename_i hHeld
        have hbw := hHeld.2.2.2.2.2.2.2.2.2.2.2
        clear hHeld hB' hS hx s0 b0 q0 q1 q2 q3 y0 y1 y2 y3 y4
        have hIt2 := hIt.below hbw
        have hJ2 := hJ _ _ _ none hJk (grown_below hbw) (fun r e => by cases e)
        gi_wp2
        refine wpIn_at_world (fun Wx => p.It Bp Br th tl uh ul Wx ∧ J ((List.finRange m).take k) Wx ∧ Wx.cell? ⟨w'.heap.size, 0, none⟩ = some (.int .u64 (p.aH th tl j)) ∧ Wx.cell? ⟨w'.heap.size, 1, none⟩ = some (.int .u64 (p.aL th tl j)) ∧ Wx.cell? ⟨w'.heap.size, 2, none⟩ = some (.int .u64 (p.zH uh ul j)) ∧ Wx.cell? ⟨w'.heap.size, 3, none⟩ = some (.int .u64 (p.zL uh ul j)))
          ⟨hIt2, hJ2, newAt rfl rfl, newAt rfl rfl, newAt rfl rfl, newAt rfl rfl⟩ ?_
        clear hIt2 hJ2 hbw hIt hJk
        rintro Wx ⟨hIt, hJk, t0, t1, t2, t3⟩
        obtain ⟨hp, b0, -, -, -, -⟩ := id hIt
        have s0 := hp.sl
        have hx := hix j hlt
        have y0 := hp.byv _ hlt
        by_cases hkm : k < m
        · have hokj : p.ok th tl uh ul j = true := hok j (by omega) (by omega)
          obtain ⟨fn, tmps, assign, body, hy, hR⟩ := hY ((List.finRange m).take k) ⟨k, hkm⟩ Wx.drew (hJ _ _ _ none hJk (grown_below (Below.refl _ Wx).drew) (fun r e => by cases e)) (by simp; omega)
          simp only [hj, PL.part] at hy
          rw [hokj]
          clear hix hp hok hno hokj
          have hR2 : RoundIn Fence.wide 1 Yba.prog l fn tmps assign body Wx.drew fun e W' => ∃ b, e = .returned (.bool b) ∧ (b = true → J ((List.finRange m).take k ++ [⟨k, hkm⟩]) W' ∧ Kp Wx.drew W') ∧ (b = false → Jx ((List.finRange m).take k ++ [⟨k, hkm⟩]) W') := by
            refine hR.mono ?_
            rintro e W3 (⟨rfl, hJ3, hk3⟩ | ⟨rfl, hJx3⟩)
            · exact ⟨true, rfl, fun _ => ⟨hJ3, hk3⟩, fun h => (by cases h)⟩
            · exact ⟨false, rfl, fun h => (by cases h), fun _ => hJx3⟩
          clear hR
          gi_region_with ((refine hR2.mono ?_; rintro e W3 ⟨b, rfl, g1, g2⟩))
          all_goals cases b with
            | true =>
              (try go_bits)
              gi_wp2
              go_roundw
              case rel => exact ⟨k + 1, j + 1, ⟨by omega⟩, by omega, by go_num, hKp _ _ (g1 rfl).2 (hIt.below (Below.refl _ Wx).drew), by rw [take_succ_fin hkm]; exact (g1 rfl).1⟩
              case measure => simp [intOf]; omega
            | false =>
              have g3 := g2 rfl
              clear g1 g2
              gi_wp2
              exact bodyPost_ret (results_none rfl _ _ _) rfl ⟨⟨_, rfl⟩, .inr ⟨(List.finRange m).take k ++ [⟨k, hkm⟩], by rw [← take_succ_fin hkm]; exact List.take_prefix _ _, g3⟩⟩
        · obtain rfl : k = m := by omega
          have hJm : J (List.finRange k) Wx := by rw [List.take_of_length_le (by simp)] at hJk; exact hJk
          have hokj : p.ok th tl uh ul j = false := by rw [← hj]; exact hno (by omega)
          rw [hokj]
          clear hix hp hok hno hokj
          refine wpIn_wide.2 ?_
          go_quiet (fail)
          gi_wp2
          refine bodyPost_ret (results_none rfl _ _ _) rfl ?_
          exact ⟨⟨_, rfl⟩, .inl ⟨_, rfl, hJ _ _ _ none hJm (grown_below (below_drewN (Below.refl _ Wx) _)) (fun r e => by cases e)⟩⟩
      · rename_i hHeld
        have hbw := hHeld.2.2.2.2.2.2.2.2.2.2.2
        clear hHeld hB' hS hx s0 b0 q0 q1 q2 q3 y0 y1 y2 y3 y4
        have hIt2 := hIt.below hbw
        have hJ2 := hJ _ _ _ none hJk (grown_below hbw) (fun r e => by cases e)
        gi_wp2
        refine wpIn_at_world (fun Wx => p.It Bp Br th tl uh ul Wx ∧ J ((List.finRange m).take k) Wx ∧ Wx.cell? ⟨wr.heap.size, 0, none⟩ = some (.int .u64 (p.aH th tl j)) ∧ Wx.cell? ⟨wr.heap.size, 1, none⟩ = some (.int .u64 (p.aL th tl j)) ∧ Wx.cell? ⟨wr.heap.size, 2, none⟩ = some (.int .u64 (p.zH uh ul j)) ∧ Wx.cell? ⟨wr.heap.size, 3, none⟩ = some (.int .u64 (p.zL uh ul j)))
          ⟨hIt2, hJ2, set4 _ _ _ _ z0 z1 z2 z3⟩ ?_
        clear hIt2 hJ2 hbw hIt hJk
        rintro Wx ⟨hIt, hJk, t0, t1, t2, t3⟩
        obtain ⟨hp, b0, -, -, -, -⟩ := id hIt
        have s0 := hp.sl
        have hx := hix j hlt
        have y0 := hp.byv _ hlt
        by_cases hkm : k < m
        · have hokj : p.ok th tl uh ul j = true := hok j (by omega) (by omega)
          obtain ⟨fn, tmps, assign, body, hy, hR⟩ := hY ((List.finRange m).take k) ⟨k, hkm⟩ Wx.drew (hJ _ _ _ none hJk (grown_below (Below.refl _ Wx).drew) (fun r e => by cases e)) (by simp; omega)
          simp only [hj, PL.part] at hy
          rw [hokj]
          clear hix hp hok hno hokj
          have hR2 : RoundIn Fence.wide 1 Yba.prog l fn tmps assign body Wx.drew fun e W' => ∃ b, e = .returned (.bool b) ∧ (b = true → J ((List.finRange m).take k ++ [⟨k, hkm⟩]) W' ∧ Kp Wx.drew W') ∧ (b = false → Jx ((List.finRange m).take k ++ [⟨k, hkm⟩]) W') := by
            refine hR.mono ?_
            rintro e W3 (⟨rfl, hJ3, hk3⟩ | ⟨rfl, hJx3⟩)
            · exact ⟨true, rfl, fun _ => ⟨hJ3, hk3⟩, fun h => (by cases h)⟩
            · exact ⟨false, rfl, fun h => (by cases h), fun _ => hJx3⟩
          clear hR
          gi_region_with ((refine hR2.mono ?_; rintro e W3 ⟨b, rfl, g1, g2⟩))
          all_goals cases b with
            | true =>
              (try go_bits)
              gi_wp2
              go_roundw
              case rel => exact ⟨k + 1, j + 1, ⟨by omega⟩, by omega, by go_num, hKp _ _ (g1 rfl).2 (hIt.below (Below.refl _ Wx).drew), by rw [take_succ_fin hkm]; exact (g1 rfl).1⟩
              case measure => simp [intOf]; omega
            | false =>
              have g3 := g2 rfl
              clear g1 g2
              gi_wp2
              exact bodyPost_ret (results_none rfl _ _ _) rfl ⟨⟨_, rfl⟩, .inr ⟨(List.finRange m).take k ++ [⟨k, hkm⟩], by rw [← take_succ_fin hkm]; exact List.take_prefix _ _, g3⟩⟩
        · obtain rfl : k = m := by omega
          have hJm : J (List.finRange k) Wx := by rw [List.take_of_length_le (by simp)] at hJk; exact hJk
          have hokj : p.ok th tl uh ul j = false := by rw [← hj]; exact hno (by omega)
          rw [hokj]
          clear hix hp hok hno hokj
          refine wpIn_wide.2 ?_
          go_quiet (fail)
          gi_wp2
          refine bodyPost_ret (results_none rfl _ _ _) rfl ?_
          exact ⟨⟨_, rfl⟩, .inl ⟨_, rfl, hJ _ _ _ none hJm (grown_below (below_drewN (Below.refl _ Wx) _)) (fun r e => by cases e)⟩⟩
    · obtain rfl : k = m := by omega
      have hltI : ¬ (j : Int) < (p.n : Int) := by omega
      gi_wp2
      go_end0
      have hJm : J (List.finRange k) wr := by rw [List.take_of_length_le (by simp)] at hJk; exact hJk
      first | exact ⟨⟨_, rfl⟩, .inl ⟨_, rfl, hJm⟩⟩ | exact ⟨⟨_, rfl⟩, .inl hJm⟩

/-- THE ITERATOR's CONTRACT. -/
theorem parts1_stops (p : PL) (Bp Br i0 m : Nat) (th tl uh ul : Int) (hn : p.n ≤ 65536)
    (hix : ∀ (k : Nat), k < p.n → ∀ W, (Instr.indexAt 48 (.slice p.pb p.n p.cap) (.int .i64 k)).run Yba.prog W = .ok (.pointer (some ⟨p.BB, k, none⟩)) W)
    (him : i0 + m ≤ p.n) (hlo : ∀ k, k < i0 → cmp3 (p.Lh k) (p.Ll k) th tl < 0) (hhi : ∀ k, i0 ≤ k → k < p.n → ¬ cmp3 (p.Lh k) (p.Ll k) th tl < 0)
    (hok : ∀ k, i0 ≤ k → k < i0 + m → p.ok th tl uh ul k = true) (hno : i0 + m < p.n → p.ok th tl uh ul (i0 + m) = false)
    (Kp : World → World → Prop) (hKp : ∀ W W', Kp W W' → p.It Bp Br th tl uh ul W → p.It Bp Br th tl uh ul W') (w : World) (hw : p.It Bp Br th tl uh ul w) :
    SeqStopsK Fence.wide 2 Yba.prog 26 #[.pointer (some ⟨Bp, 0, none⟩), .pointer (some ⟨Br, 0, none⟩)] (fun x : Fin m => #[.pointer (some ⟨p.TB, p.o (i0 + x.1), none⟩), p.part th tl uh ul (i0 + x.1)]) Kp (fun xs => xs = List.finRange m) (fun pre => pre <+: List.finRange m) m w :=
  fun l J Jx W hW hJ _ hY h0 => parts1_in p Bp Br i0 m l th tl uh ul hn hix him hlo hhi hok hno Kp hKp W.heap.size J Jx hJ hY W (hw.below hW) h0

end Go.Proofs.Ybulkdlic
