/-
  DERIVED. alloc.LawS5618BWhole: THE POOL's TWO MAPS: held (string -> number), borrowed (number -> true).
-/
import Derived.Test.YbulkdlicBLeaf
import Derived.Maps.OwnSet
import Derived.DeepKeys4
namespace Go.Proofs.Ybulkdlic
open Go.RowKit
open Go.Maps (Keyed has Tidy)

set_option maxRecDepth 100000 in
theorem laidOutY : laidOutB Yba.prog = true := by kernel_rfl
theorem row29 : (29 : TypeId) < Yba.prog.types.size := of_decide_eq_true (by kernel_rfl)
theorem wide29 : (match Yba.prog.underlying 29 with | some (.array _ _) | some (.struct _) => true | _ => false) = true := by kernel_rfl
set_option maxRecDepth 100000 in
theorem kt29 : Yba.prog.keyTypeAt 2 29 = true := by kernel_rfl
set_option maxRecDepth 100000 in
theorem law29 : Keyed Yba.prog 29 := Maps.Keyed.of_law (deep_law_laid (P := Yba.prog) (k := 29) laidOutY (m := 2) (by omega) row29 kt29 wide29)
theorem under9 : Yba.prog.underlying 9 = some .string := by kernel_rfl
theorem under45 : Yba.prog.underlying 45 = some (.map 9 29) := by kernel_rfl
theorem under46 : Yba.prog.underlying 46 = some (.map 29 4) := by kernel_rfl
theorem under4 : Yba.prog.underlying 4 = some .bool := by kernel_rfl
theorem under22 : Yba.prog.underlying 22 = some (.int .u64) := by kernel_rfl
theorem law9 : Keyed Yba.prog 9 := Maps.string_keyed under9
theorem zero29 (w : World) : (zeroValue 29).run Yba.prog w = .ok (.agg #[.int .u64 0, .int .u64 0]) w := by kernel_rfl
theorem zero4 (w : World) : (zeroValue 4).run Yba.prog w = .ok (.bool false) w := by kernel_rfl

/-- A number of two cells, the high one 0. -/
def num (x : Nat) : Value := .agg #[.int .u64 0, .int .u64 (x : Int)]
def fsOf : Option TypeDesc → List (String × TypeId × Nat)
  | some (.struct fs) => fs.toList.map fun f => (f.name, f.type, f.offset)
  | _ => []
set_option maxRecDepth 100000 in
theorem fs29 : fsOf (Yba.prog.underlying 29) = [("Hi", 22, 0), ("Lo", 22, 1)] := by kernel_rfl
set_option maxRecDepth 100000 in
theorem key29 : Yba.prog.keyType 29 = true := by kernel_rfl
theorem cells29 : Yba.prog.cellsOf 29 = 2 := by kernel_rfl
theorem cells22 : Yba.prog.cellsOf 22 = 1 := by kernel_rfl
theorem ts1 : ∃ d, Yba.prog.types.size = d + 1 := Nat.exists_eq_add_one_of_ne_zero (Nat.ne_of_gt (Nat.lt_of_le_of_lt (Nat.zero_le _) row29))
theorem wf64 {x : Nat} (hx : x < 18446744073709551616) : (Lit.int .u64 (x : Int)).wf = true := by
  simp only [Lit.wf, IntKind.min, IntKind.max, Bool.and_eq_true]
  simp [IntKind.signed, IntKind.bits]
  omega
theorem lits22 (d : Nat) (x : Nat) (hx : x < 18446744073709551616) : Yba.prog.keyLits (d + 1) 22 [.int .u64 (x : Int)] = some [.int .u64 (x : Int)] := by
  unfold Program.keyLits
  rw [under22]
  simp only [wf64 hx, and_self, if_true]
theorem keyOf_num (x : Nat) (hx : x < 18446744073709551616) : keyOf Yba.prog 29 (num x) = some (.string (keyBytes [.int .u64 0, .int .u64 (x : Int)])) := by
  obtain ⟨d, hd⟩ := ts1
  have h := fs29
  have l0 := lits22 d 0 (by omega)
  have l1 := lits22 d x hx
  unfold keyOf
  rw [key29]
  unfold Program.keyLits
  rw [hd, cells29]
  cases hu : Yba.prog.underlying 29 with
  | none => rw [hu] at h; simp [fsOf] at h
  | some dd =>
    rw [hu] at h
    cases dd with
    | struct fs =>
      simp only [fsOf] at h
      obtain ⟨f0, f1, hfs⟩ : ∃ f0 f1, fs.toList = [f0, f1] := by
        have hl := congrArg List.length h
        simp only [List.length_map, List.length_cons, List.length_nil] at hl
        match hl2 : fs.toList, hl with
        | [f0, f1], _ => exact ⟨f0, f1, rfl⟩
      rw [hfs] at h
      simp only [List.map_cons, List.map_nil, List.cons.injEq, Prod.mk.injEq, and_true] at h
      obtain ⟨⟨a1, a2, a3⟩, b1, b2, b3⟩ := h
      have hall : fs.all (fun f => f.name != "_") = true := by
        rw [← Array.all_toList, hfs]
        simp [a1, b1]
      have hfm : (num x).formed Yba.prog 29 = true := by
        unfold num Value.formed
        rw [hu, cells29]
        rfl
      simp only [hfm, Bool.and_true, if_true]
      simp only [num, Value.cells, hall, hfs, and_true, List.mapM_cons, List.mapM_nil, a2, a3, b2, b3, cells22]
      have l0' : Yba.prog.keyLits (d + 1) 22 [.int .u64 0] = some [.int .u64 0] := l0
      simp [l0', l1]
    | _ => simp [fsOf] at h

/-! ### The held map -/
open Classical in
noncomputable def R2 (v : Value) : Option (DataW Unit × List MemPlace) := if h : ∃ x : Nat, v = num x then some (.lit (.int .u64 (h.choose : Int)), []) else none
theorem num_inj {x y : Nat} (h : num x = num y) : x = y := by
  simp [num] at h
  omega
theorem R2_num (x : Nat) : R2 (num x) = some (.lit (.int .u64 (x : Int)), []) := by
  have h : ∃ y : Nat, num x = num y := ⟨x, rfl⟩
  unfold R2
  rw [dif_pos h, ← num_inj h.choose_spec]
theorem R2_inv {v : Value} {z : DataW Unit × List MemPlace} (h : R2 v = some z) : ∃ x : Nat, v = num x ∧ z.1 = .lit (.int .u64 (x : Int)) := by
  unfold R2 at h
  split at h
  · rename_i e
    exact ⟨e.choose, e.choose_spec, by rw [← Option.some.inj h]⟩
  · cases h

/-- The map held: which number each name holds; how many there are. -/
def HMap (w : World) (b k : Nat) (h : List UInt8 → Option Nat) (s : Nat) : Prop :=
  ∃ D : DataW Unit, w.ownsMap Yba.prog 9 R2 b k D ∧ Tidy D ∧ Maps.size D = s ∧ ∀ t, has D (.string t) = (h t).isSome ∧ D.atKey (.string t) (.lit (.int .u64 0)) = .lit (.int .u64 (((h t).getD 0 : Nat) : Int))

def updH (h : List UInt8 → Option Nat) (t : List UInt8) (o : Option Nat) : List UInt8 → Option Nat := fun u => if u = t then o else h u

theorem keyOf_str {t : ByteArray} (ht : t.size ≤ maxLen) : keyOf Yba.prog 9 (.string t) = some (.string t.data.toList) := by
  rw [keyOf_string under9]
  unfold mapKey
  rw [under9]
  simp [ht]
theorem keyLit_str (t : List UInt8) : WideAt.IsKeyLit (.string t) := trivial
theorem str_ne {t u : List UInt8} (h : u ≠ t) : (Lit.string u) ≠ .string t := fun e => h (by cases e; rfl)

variable {w w' : World} {b k s : Nat} {h : List UInt8 → Option Nat}
theorem HMap.made (w : World) : HMap (w.alloc (.map #[] 0)) w.heap.size 0 (fun _ => none) 0 :=
  ⟨.map [], World.ownsMap_made w Yba.prog 9 R2, Maps.tidy_empty, rfl, fun _ => ⟨rfl, rfl⟩⟩
theorem HMap.of_empty (hb : w.heap[b]? = some (.map #[] 0)) : HMap w b 0 (fun _ => none) 0 :=
  ⟨.map [], ⟨#[], 0, hb, ⟨by simp, MapKept.stamped_empty 0, by simp⟩, Nat.le_refl _, rfl⟩, Maps.tidy_empty, rfl, fun _ => ⟨rfl, rfl⟩⟩
theorem HMap.kept {row : Option Nat} (H : HMap w b k h s) (hg : w.grownBy w' row) (hne : some b ≠ row) : HMap w' b k h s :=
  let ⟨D, h1, h2⟩ := H; ⟨D, h1.kept hg hne, h2⟩
theorem HMap.mono {k' : Nat} (H : HMap w b k h s) (hk : k ≤ k') : HMap w b k' h s :=
  let ⟨D, h1, h2⟩ := H; ⟨D, h1.mono hk, h2⟩
theorem HMap.lt (H : HMap w b k h s) : b < w.heap.size := let ⟨_, h1, _⟩ := H; h1.lt
theorem HMap.drewN (H : HMap w b k h s) (n : Nat) : HMap (w.drewN n) b k h s := H
theorem HMap.size_le (H : HMap w b k h s) : s ≤ k := let ⟨_, h1, _, h3, _⟩ := H; h3 ▸ h1.size_le
theorem HMap.look (H : HMap w b k h s) {t : ByteArray} (ht : t.size ≤ maxLen) :
    (Instr.lookup 45 (.map (some b)) (.string t) true).run Yba.prog w = .ok (.tuple #[.agg #[.int .u64 0, .int .u64 (((h t.data.toList).getD 0 : Nat) : Int)], .bool (h t.data.toList).isSome]) w := by
  obtain ⟨D, h1, h2, h3, h4⟩ := H
  obtain ⟨v, ps, e1, e2⟩ := h1.look_ok law9 under45 (zero29 w) (R2_num 0) (keyOf_str ht)
  obtain ⟨x, rfl, hx⟩ := R2_inv e2
  rw [e1, (h4 _).1]
  have e3 := (h4 t.data.toList).2
  have e4 : ((x : Nat) : Int) = (((h t.data.toList).getD 0 : Nat) : Int) := by
    have e5 := hx.symm.trans e3
    simpa using e5
  unfold num
  rw [e4]
theorem HMap.len (H : HMap w b k h s) (ty : TypeId) : (Builtin.len_ #[45] ty #[.map (some b)]).run Yba.prog w = .ok (.int .i64 (s : Int)) w := by
  obtain ⟨D, h1, h2, h3, h4⟩ := H
  rw [h1.len under45 ty, h3]
theorem HMap.put (H : HMap w b k h s) (hk : k < 100000) {t : ByteArray} (ht : t.size ≤ maxLen) (x : Nat) :
    ∃ w' s', (Instr.mapUpdate 45 (.map (some b)) (.string t) (.agg #[.int .u64 0, .int .u64 (x : Int)])).run Yba.prog w = .ok () w' ∧ HMap w' b (k + 1) (updH h t.data.toList (some x)) s' ∧ w.grownBy w' (some b) := by
  obtain ⟨D, h1, h2, h3, h4⟩ := H
  obtain ⟨w', e1, e2, e3⟩ := h1.store law9 under45 (by unfold maxLen; omega) (keyOf_str ht) (R2_num x)
  refine ⟨w', _, e1, ⟨_, e2, h2.put (keyLit_str _) _, rfl, fun u => ?_⟩, e3.grown⟩
  unfold updH
  by_cases hu : u = t.data.toList
  · rw [if_pos hu, hu, Maps.has_put_same h2.isMap (keyLit_str _), Maps.atKey_put_same h2.isMap (keyLit_str _)]
    exact ⟨rfl, rfl⟩
  · rw [if_neg hu, Maps.has_put_other (str_ne hu), Maps.atKey_put_other (str_ne hu)]
    exact h4 u
theorem HMap.del (H : HMap w b k h s) {t : ByteArray} (ht : t.size ≤ maxLen) (ty : TypeId) :
    ∃ w' s', (Builtin.delete_ #[45, 9] ty #[.map (some b), .string t]).run Yba.prog w = .ok (.tuple #[]) w' ∧ HMap w' b k (updH h t.data.toList none) s' ∧ s' + (if (h t.data.toList).isSome then 1 else 0) = s ∧ w.grownBy w' (some b) := by
  obtain ⟨D, h1, h2, h3, h4⟩ := H
  obtain ⟨w', e1, e2, e3⟩ := h1.drop law9 under45 (keyOf_str ht) ty
  refine ⟨w', _, e1, ⟨_, e2, h2.del _, rfl, fun u => ?_⟩, ?_, e3.grown⟩
  · unfold updH
    by_cases hu : u = t.data.toList
    · rw [if_pos hu, hu, Maps.has_del_same, Maps.atKey_del_same]
      exact ⟨rfl, rfl⟩
    · rw [if_neg hu, Maps.has_del_other (str_ne hu), Maps.atKey_del_other (str_ne hu)]
      exact h4 u
  · have := Maps.size_del (k := .string t.data.toList) h2
    rw [(h4 _).1, h3] at this
    exact this

/-! ### The borrowed map -/
def bk (x : Nat) : Lit := .string (keyBytes [.int .u64 0, .int .u64 (x : Int)])
theorem bk_ne {x y : Nat} (hx : x < 18446744073709551616) (hy : y < 18446744073709551616) (hne : y ≠ x) : bk y ≠ bk x := fun e => by
  have h1 := keyOf_num y hy
  rw [show (Lit.string (keyBytes [.int .u64 0, .int .u64 (y : Int)])) = bk x from e] at h1
  exact hne (num_inj (law29.inj h1 (keyOf_num x hx)))
def BMp (w : World) (b k : Nat) (g : Nat → Bool) (s : Nat) : Prop :=
  ∃ D : DataW Unit, w.ownsMap Yba.prog 29 (plainElem Yba.prog 4) b k D ∧ Tidy D ∧ Maps.size D = s ∧ ∀ x, x < 18446744073709551616 → has D (bk x) = g x ∧ D.atKey (bk x) (.lit (.bool false)) = .lit (.bool (g x))
def updB (g : Nat → Bool) (x : Nat) (v : Bool) : Nat → Bool := fun y => if y = x then v else g y

theorem plainElem_bool_inv {v : Value} {z : DataW Unit × List MemPlace} (h : plainElem Yba.prog 4 v = some z) : ∃ x, v = .bool x ∧ z.1 = .lit (.bool x) := by
  unfold plainElem at h
  rw [under4] at h
  split at h
  · exact ⟨_, rfl, by rw [← Option.some.inj h]⟩
  all_goals simp_all

variable {g : Nat → Bool}
theorem BMp.of_empty (hb : w.heap[b]? = some (.map #[] 0)) : BMp w b 0 (fun _ => false) 0 :=
  ⟨.map [], ⟨#[], 0, hb, ⟨by simp, MapKept.stamped_empty 0, by simp⟩, Nat.le_refl _, rfl⟩, Maps.tidy_empty, rfl, fun _ _ => ⟨rfl, rfl⟩⟩
theorem BMp.kept {row : Option Nat} (H : BMp w b k g s) (hg : w.grownBy w' row) (hne : some b ≠ row) : BMp w' b k g s :=
  let ⟨D, h1, h2⟩ := H; ⟨D, h1.kept hg hne, h2⟩
theorem BMp.mono {k' : Nat} (H : BMp w b k g s) (hk : k ≤ k') : BMp w b k' g s :=
  let ⟨D, h1, h2⟩ := H; ⟨D, h1.mono hk, h2⟩
theorem BMp.lt (H : BMp w b k g s) : b < w.heap.size := let ⟨_, h1, _⟩ := H; h1.lt
theorem BMp.drewN (H : BMp w b k g s) (n : Nat) : BMp (w.drewN n) b k g s := H
theorem BMp.size_le (H : BMp w b k g s) : s ≤ k := let ⟨_, h1, _, h3, _⟩ := H; h3 ▸ h1.size_le
theorem BMp.look (H : BMp w b k g s) {x : Nat} (hx : x < 18446744073709551616) :
    (Instr.lookup 46 (.map (some b)) (.agg #[.int .u64 0, .int .u64 (x : Int)]) false).run Yba.prog w = .ok (.bool (g x)) w := by
  obtain ⟨D, h1, h2, h3, h4⟩ := H
  obtain ⟨v, ps, e1, e2⟩ := h1.lookup law29 under46 (zero4 w) (plainElem_bool under4 false) (keyOf_num x hx)
  obtain ⟨y, rfl, hy⟩ := plainElem_bool_inv e2
  have e3 : DataW.lit (.bool y) = (.lit (.bool (g x)) : DataW Unit) := hy.symm.trans (h4 x hx).2
  have e4 : y = g x := by simpa using e3
  rw [← e4]
  exact e1
theorem BMp.len (H : BMp w b k g s) (ty : TypeId) : (Builtin.len_ #[46] ty #[.map (some b)]).run Yba.prog w = .ok (.int .i64 (s : Int)) w := by
  obtain ⟨D, h1, h2, h3, h4⟩ := H
  rw [h1.len under46 ty, h3]
theorem BMp.put (H : BMp w b k g s) (hk : k < 100000) {x : Nat} (hx : x < 18446744073709551616) :
    ∃ w' s', (Instr.mapUpdate 46 (.map (some b)) (.agg #[.int .u64 0, .int .u64 (x : Int)]) (.bool true)).run Yba.prog w = .ok () w' ∧ BMp w' b (k + 1) (updB g x true) s' ∧ w.grownBy w' (some b) := by
  obtain ⟨D, h1, h2, h3, h4⟩ := H
  obtain ⟨w', e1, e2, e3⟩ := h1.store law29 under46 (by unfold maxLen; omega) (keyOf_num x hx) (plainElem_bool under4 true)
  refine ⟨w', _, e1, ⟨_, e2, h2.put (keyLit_str _) _, rfl, fun y hy => ?_⟩, e3.grown⟩
  unfold updB
  by_cases hu : y = x
  · rw [if_pos hu, hu]
    exact ⟨Maps.has_put_same h2.isMap (keyLit_str _) _, Maps.atKey_put_same h2.isMap (keyLit_str _) _ _⟩
  · rw [if_neg hu]
    have := bk_ne hx hy hu
    exact ⟨(Maps.has_put_other this _).trans (h4 y hy).1, (Maps.atKey_put_other this _ _).trans (h4 y hy).2⟩
theorem BMp.del (H : BMp w b k g s) {x : Nat} (hx : x < 18446744073709551616) (ty : TypeId) :
    ∃ w' s', (Builtin.delete_ #[46, 29] ty #[.map (some b), .agg #[.int .u64 0, .int .u64 (x : Int)]]).run Yba.prog w = .ok (.tuple #[]) w' ∧ BMp w' b k (updB g x false) s' ∧ s' + (if g x then 1 else 0) = s ∧ w.grownBy w' (some b) := by
  obtain ⟨D, h1, h2, h3, h4⟩ := H
  obtain ⟨w', e1, e2, e3⟩ := h1.drop law29 under46 (keyOf_num x hx) ty
  refine ⟨w', _, e1, ⟨_, e2, h2.del _, rfl, fun y hy => ?_⟩, ?_, e3.grown⟩
  · unfold updB
    by_cases hu : y = x
    · rw [if_pos hu, hu]
      exact ⟨Maps.has_del_same, Maps.atKey_del_same _⟩
    · rw [if_neg hu]
      have := bk_ne hx hy hu
      exact ⟨(Maps.has_del_other this).trans (h4 y hy).1, (Maps.atKey_del_other this _).trans (h4 y hy).2⟩
  · have := Maps.size_del (k := bk x) h2
    rw [(h4 x hx).1, h3] at this
    exact this

end Go.Proofs.Ybulkdlic
