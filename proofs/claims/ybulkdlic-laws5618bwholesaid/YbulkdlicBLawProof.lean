/-
  DERIVED. alloc.LawS5618BWhole: THE ROW.
-/
import Derived.Test.YbulkdlicBL0
import Derived.Test.YbulkdlicRows
import Derived.Test.YbulkdlicChecked
import Derived.ProofKit
import Derived.OpenShut
import Derived.ShutString
import Derived.ChangeOld
import Derived.SizedLaws
import Derived.Deep.SlicePairs
import Derived.Lib.SmallJoins
namespace Go.Proofs.Ybulkdlic
open Go.ChangeShapes Go.WideShapes Go.ChangeAt Go.RowKit Go.Deep

theorem ownB : ownKnob Yba.prog.godebug = none := by kernel_rfl
theorem elem52 : Yba.prog.elem 52 = 5 := by kernel_rfl
theorem elem53 : Yba.prog.elem 53 = 57 := by kernel_rfl
theorem size5b (W : World) : (sizeOf 5).run Yba.prog W = .ok 1 W := by kernel_rfl
theorem size57 (W : World) : (sizeOf 57).run Yba.prog W = .ok 4 W := by kernel_rfl
theorem cells57 : Yba.prog.cellsOf 57 = 4 := by kernel_rfl
theorem cells5b : Yba.prog.cellsOf 5 = 1 := by kernel_rfl
theorem cells2b : Yba.prog.cellsOf 2 = 1 := by kernel_rfl
theorem und52 : Yba.prog.underlying 52 = some (.slice 5) := by kernel_rfl
theorem und53 : Yba.prog.underlying 53 = some (.slice 57) := by kernel_rfl
theorem und5 : Yba.prog.underlying 5 = some (.int .u8) := by kernel_rfl
theorem und2 : Yba.prog.underlying 2 = some (.int .i64) := by kernel_rfl
theorem spotB {w : World} {p : Addr} {x : Value} (h : w.cell? p = some x) : p = ⟨p.block, p.off, none⟩ := by
  have h0 := World.cell?_spot h
  obtain ⟨b, o, sp⟩ := p
  subst h0
  rfl
theorem add_blockB (a : Addr) (n : Nat) : (a.add n).block = a.block := by unfold Addr.add; split <;> rfl
theorem add_offB (a : Addr) (n : Nat) : (a.add n).off = a.off + n := by unfold Addr.add; split <;> simp_all
theorem cell_off {w : World} {a : Addr} {n : Nat} {x : Value} (h : w.cell? (a.add n) = some x) : w.cell? ⟨a.block, a.off + n, none⟩ = some x ∧ a.add n = ⟨a.block, a.off + n, none⟩ := by
  have hs := spotB h
  rw [add_blockB, add_offB] at hs
  exact ⟨by rw [← hs]; exact h, hs⟩

section
variable {H : Type} {enc : TypeId × Value → H}

/-- The lengths that came in. -/
theorem view52 {W : World} {ao : Option Addr} {len cap : Nat} {d : DataW H} {p : List MemPlace} (h : DataW.Trod enc Yba.prog W 0 (fun _ => true) true 52 (.slice ao len cap) d p) :
    ∃ (LB : Nat) (oL ln : Nat → Nat), (∀ k, ln k ≤ 255) ∧
      (∀ (k : Nat), k < len → ∀ W, (Instr.indexAt 52 (.slice ao len cap) (.int .i64 k)).run Yba.prog W = .ok (.pointer (some ⟨LB, oL k, none⟩)) W) ∧
      ∀ k, k < len → W.cell? ⟨LB, oL k, none⟩ = some (.int .u8 (ln k : Int)) := by
  obtain ⟨fuel, hf⟩ := h
  rcases open_slice und52 hf with ⟨hcs, _⟩ | ⟨a, l, c, m, n, D, Pl, hcs, _, hl, hm, hmm, _, hx⟩
  · simp [Value.cells] at hcs
    obtain ⟨rfl, rfl, rfl⟩ := hcs
    exact ⟨0, fun _ => 0, fun _ => 0, fun _ => Nat.zero_le _, fun k hk => by omega, fun k hk => by omega⟩
  · simp [Value.cells] at hcs
    obtain ⟨rfl, rfl, rfl⟩ := hcs
    have hm' : m = cap := by simpa using hmm
    subst hm'
    have each : ∀ i, i < len → ∃ q : Nat, q ≤ 255 ∧ W.cell? (a.add i) = some (.int .u8 (q : Int)) := by
      intro i hi
      obtain ⟨cs', h1, h2⟩ := hx i (by omega)
      rw [cells5b] at h1
      obtain ⟨_, hlen, hcell⟩ := World.cells?_some h1
      match cs', hlen with
      | [v0], _ =>
        obtain ⟨x, e1, _, e3⟩ := DataW.trod_int und5 h2
        simp at e1
        have e0 := hcell 0 (by omega)
        rw [add_add] at e0
        simp [e1] at e0
        simp [Lit.wf, IntKind.min, IntKind.max, IntKind.signed, IntKind.bits] at e3
        exact ⟨x.toNat, by omega, by rw [e0, Int.toNat_of_nonneg (by omega)]⟩
    obtain ⟨q, hq⟩ := choose_lt each
    refine ⟨a.block, fun k => a.off + k, fun k => if k < len then q k else 0, fun k => ?_, fun k hk W' => ?_, fun k hk => ?_⟩
    · by_cases e : k < len
      · simp only [if_pos e]; exact (hq k e).1
      · simp only [if_neg e]; omega
    · have hs := (cell_off (hq k hk).2).2
      rw [run_indexAt_slice W' 52 a len m .i64 k (by rw [elem52]; exact und52), if_pos (by omega), elem52, size5b]
      simp only [Result.andThen]
      rw [show (k : Int).toNat * 1 = k by simp, hs]
    · simp only [if_pos hk]
      exact (cell_off (hq k hk).2).1

set_option maxRecDepth 1000000 in
/-- The steps that came in. -/
theorem view53 {W : World} {ao : Option Addr} {len cap : Nat} {d : DataW H} {p : List MemPlace} (h : DataW.Trod enc Yba.prog W 0 (fun _ => true) true 53 (.slice ao len cap) d p) :
    ∃ (OPB : Nat) (oO oo hh tt : Nat → Nat) (aa : Nat → Int), (0 < len → OPB < W.heap.size) ∧ (∀ k, k < len → tt k < 256) ∧
      (∀ (k : Nat), k < len → ∀ W, (Instr.indexAt 53 (.slice ao len cap) (.int .i64 k)).run Yba.prog W = .ok (.pointer (some ⟨OPB, oO k, none⟩)) W) ∧
      ∀ k, k < len → W.cell? ⟨OPB, oO k, none⟩ = some (.int .u8 (oo k : Int)) ∧ W.cell? ⟨OPB, oO k + 1, none⟩ = some (.int .u8 (hh k : Int)) ∧ W.cell? ⟨OPB, oO k + 2, none⟩ = some (.int .i64 (aa k)) ∧ W.cell? ⟨OPB, oO k + 3, none⟩ = some (.int .u8 (tt k : Int)) := by
  obtain ⟨fuel, hf⟩ := h
  rcases open_slice und53 hf with ⟨hcs, _⟩ | ⟨a, l, c, m, n, D, Pl, hcs, _, hl, hm, hmm, _, hx⟩
  · simp [Value.cells] at hcs
    obtain ⟨rfl, rfl, rfl⟩ := hcs
    exact ⟨0, fun _ => 0, fun _ => 0, fun _ => 0, fun _ => 0, fun _ => 0, fun h => by omega, fun k hk => by omega, fun k hk => by omega, fun k hk => by omega⟩
  · simp [Value.cells] at hcs
    obtain ⟨rfl, rfl, rfl⟩ := hcs
    have hm' : m = cap := by simpa using hmm
    subst hm'
    have each : ∀ i, i < len → ∃ q : Nat × Nat × Int × Nat, q.2.2.2 < 256 ∧ W.cell? (a.add (i * 4)) = some (.int .u8 (q.1 : Int)) ∧ W.cell? (a.add (i * 4 + 1)) = some (.int .u8 (q.2.1 : Int)) ∧ W.cell? (a.add (i * 4 + 2)) = some (.int .i64 q.2.2.1) ∧ W.cell? (a.add (i * 4 + 3)) = some (.int .u8 (q.2.2.2 : Int)) := by
      intro i hi
      obtain ⟨cs', h1, h2⟩ := hx i (by omega)
      rw [cells57] at h1
      obtain ⟨_, hlen, hcell⟩ := World.cells?_some h1
      obtain ⟨y0, y1, y2, y3, n', _, _, g0, g1, g2, g3⟩ := Go.Joins.trod_struct4 Yba.underlying57 h2
      match cs', hlen with
      | [v0, v1, v2, v3], _ =>
        simp [cells5b, cells2b] at g0 g1 g2 g3
        obtain ⟨x0, e0, _, f0⟩ := DataW.trod_int und5 g0
        obtain ⟨x1, e1, _, f1⟩ := DataW.trod_int und5 g1
        obtain ⟨x2, e2, _, f2⟩ := DataW.trod_int und2 g2
        obtain ⟨x3, e3, _, f3⟩ := DataW.trod_int und5 g3
        simp at e0 e1 e2 e3
        have k0 := hcell 0 (by omega)
        have k1 := hcell 1 (by omega)
        have k2 := hcell 2 (by omega)
        have k3 := hcell 3 (by omega)
        rw [add_add] at k0 k1 k2 k3
        simp [e0, e1, e2, e3] at k0 k1 k2 k3
        simp [Lit.wf, IntKind.min, IntKind.max, IntKind.signed, IntKind.bits] at f0 f1 f3
        exact ⟨(x0.toNat, x1.toNat, x2, x3.toNat), by show x3.toNat < 256; omega, by rw [k0]; show _ = some (Value.int .u8 (x0.toNat : Int)); rw [Int.toNat_of_nonneg (by omega)], by rw [k1]; show _ = some (Value.int .u8 (x1.toNat : Int)); rw [Int.toNat_of_nonneg (by omega)], k2, by rw [k3]; show _ = some (Value.int .u8 (x3.toNat : Int)); rw [Int.toNat_of_nonneg (by omega)]⟩
    obtain ⟨q, hq⟩ := choose_lt each
    refine ⟨a.block, fun k => a.off + k * 4, fun k => (q k).1, fun k => (q k).2.1, fun k => (q k).2.2.2, fun k => (q k).2.2.1, fun h0 => ?_, fun k hk => (hq k hk).1, fun k hk W' => ?_, fun k hk => ?_⟩
    · have := World.block_lt_of_cell? _ _ (hq 0 h0).2.1
      rwa [add_blockB] at this
    · have hs := (cell_off (hq k hk).2.1).2
      rw [run_indexAt_slice W' 53 a len m .i64 k (by rw [elem53]; exact und53), if_pos (by omega), elem53, size57]
      simp only [Result.andThen]
      rw [show (k : Int).toNat * 4 = k * 4 by simp, hs]
    · obtain ⟨_, r0, r1, r2, r3⟩ := hq k hk
      exact ⟨(cell_off r0).1, (cell_off r1).1, (cell_off r2).1, (cell_off r3).1⟩
end

theorem u64_of (z : Int) : ∃ x : Nat, IntKind.u64.wrap z = (x : Int) ∧ x < 18446744073709551616 := by
  refine ⟨(IntKind.u64.wrap z).toNat, ?_, ?_⟩
  · rw [IntKind.wrap_u64]; omega
  · rw [IntKind.wrap_u64]; omega

set_option maxRecDepth 100000 in
theorem liftedB (os : Os) (started : os.Started) (H : Type) (enc : TypeId × Value → H) :
    ReturnsInHanded {} Yba.checked os 4 .any (Rows.lawS5618BWholeSpec.pre6 enc Yba.prog Yba.f4 Rows.lawS5618BWholeRow.domain false) (Rows.lawS5618BWholeSpec.post enc Yba.prog Yba.f4 false true false false) := by
  refine returnsInHanded_of_change (C := Yba.checked) ownB started (by kernel_rfl) Yba.func4
    (ChangeSpec.witness6 (enc := enc) (C := Yba.checked) false ⟨#[], #[.slice none 0 0, .bool false, .slice none 0 0, .string ⟨#[]⟩, .int .u8 0], []⟩ 8 (by kernel_rfl) (by kernel_rfl) (by kernel_rfl) (by kernel_rfl)) ?_
  intro W base args ds gs before hval0 hW hcnd _
  have hval : ∀ (j : Nat) t v, Yba.f4.params[j]? = some t → args[j]? = some v → Value.okWide Yba.prog W .any base t v := hval0
  have hW' := hW
  obtain ⟨p, q, hA0, hV, rfl, hfz, hnd⟩ := hW
  have hA : DataW.TrodAll enc Yba.prog W 0 (fun _ => true) true Yba.f4.params.toList args.toList ds p := hA0
  rw [Yba.params4] at hA hval
  obtain ⟨v0, vs0, d0, ds0, p0, q0, hargs, rfl, rfl, h0, r0⟩ := trodAll_cons hA
  obtain ⟨v1, vs1, d1, ds1, p1, q1, rfl, rfl, rfl, h1, r1⟩ := trodAll_cons r0
  obtain ⟨v2, vs2, d2, ds2, p2, q2, rfl, rfl, rfl, h2, r2⟩ := trodAll_cons r1
  obtain ⟨v3, vs3, d3, ds3, p3, q3, rfl, rfl, rfl, h3, r3⟩ := trodAll_cons r2
  obtain ⟨v4, vs4, d4, ds4, p4, q4, rfl, rfl, rfl, h4, r4⟩ := trodAll_cons r3
  obtain ⟨rfl, rfl, rfl⟩ := trodAll_nil r4
  obtain rfl : args = #[v0, v1, v2, v3, v4] := by cases args; simp_all
  obtain ⟨rfl, rfl⟩ := trodVars_none hV
  obtain ⟨ao, len, cap, rfl⟩ := okWide_slice und52 (hval 0 52 v0 rfl rfl)
  obtain ⟨rev, rfl, rfl, rfl⟩ := open_bool under4 (hval 1 4 v1 rfl rfl) h1
  obtain ⟨ao2, len2, cap2, rfl⟩ := okWide_slice und53 (hval 2 53 v2 rfl rfl)
  obtain ⟨s, rfl, rfl, rfl, hs⟩ := Go.ChangeMaps.open_string under9 (hval 3 9 v3 rfl rfl) h3
  obtain ⟨a4, rfl, rfl, rfl, w4⟩ := open_int und5 (hval 4 5 v4 rfl rfl) h4
  have lt0 : ∀ x ∈ p0, x.block < W.heap.size := by obtain ⟨m, hm⟩ := h0; exact DataW.trod_lt m _ _ _ hm
  have lt2 : ∀ x ∈ p2, x.block < W.heap.size := by obtain ⟨m, hm⟩ := h2; exact DataW.trod_lt m _ _ _ hm
  obtain ⟨LB, oL, ln, hl, hixL, hL⟩ := view52 h0
  obtain ⟨OPB, oO, oo, hh, tt, aa, hOB, h8, hixO, hop⟩ := view53 h2
  clear hA0 hval0
  have b4 : 0 ≤ a4 := by
    have := w4
    simp [Lit.wf, IntKind.min, IntKind.max, IntKind.signed, IntKind.bits] at this
    omega
  obtain ⟨xx, hxx⟩ : ∃ xx : Nat → Nat, ∀ i, IntKind.u64.wrap (aa i) = (xx i : Int) ∧ xx i < 18446744073709551616 := ⟨fun i => (u64_of (aa i)).choose, fun i => (u64_of (aa i)).choose_spec⟩
  have hwalk : Calls Yba.prog 4 #[.slice ao len cap, .bool rev, .slice ao2 len2 cap2, .string s, .int .u8 a4] W fun e w' => e = .returned (.bool true) ∧ Below W.heap.size W w' := by
    obtain ⟨pk, rfl⟩ : ∃ s : Nat, a4 = (s : Int) := ⟨a4.toNat, by omega⟩
    exact lawB_any len cap len2 cap2 LB OPB pk ao ao2 rev s ln oL oO oo hh tt aa xx W hl hs hixL hL hOB hixO hop (fun i _ => hxx i) h8
  refine hwalk.mono fun e W' ⟨he, bel⟩ => ?_
  subst he
  exact ⟨_, rfl, _, _, _, [], _, [], hW', trodAll_mk1 (shut_bool under4 _),
    (trodAll_cons_mk (Below.trod laidOutY (by kernel_rfl) (of_decide_eq_true (by kernel_rfl)) h0 bel lt0) (trodAll_cons_mk (shut_bool under4 rev) (trodAll_cons_mk (Below.trod laidOutY (by kernel_rfl) (of_decide_eq_true (by kernel_rfl)) h2 bel lt2) (trodAll_cons_mk (Go.ChangeMaps.shut_string under9 hs) (trodAll_cons_mk (shut_int und5 w4) trodAll_mk0))))), rfl, bel.frame _, fun h => by cases h⟩

/-- ████ THE STATEMENT ████ -/
theorem lawS5618BWhole_holds : Rows.LawS5618BWholeSaid :=
  OpenClaim.holds_of_wide 4 Yba.f4 rfl rfl rfl rfl rfl rfl rfl ⟨rfl, rfl, rfl, rfl, rfl⟩ rfl rfl rfl rfl rfl (by kernel_rfl) Yba.func4 (by kernel_rfl)
    (of_decide_eq_true (by kernel_rfl)) (by unfold Func.isWrapper; first | (rw [if_pos (by decide +kernel)]; kernel_rfl) | (rw [if_neg (by decide +kernel)]; exact ⟨rfl, rfl⟩))
    (fun os started H enc _ => liftedB os started H enc)

end Go.Proofs.Ybulkdlic
