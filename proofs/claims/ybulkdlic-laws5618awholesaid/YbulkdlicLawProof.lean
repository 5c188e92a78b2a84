/-
  DERIVED. alloc.LawS5618AWhole: THE ROW.
-/
import Derived.Test.YbulkdlicLawWalk
import Derived.ProofKit
import Derived.OpenShut
import Derived.ShutString
import Derived.ChangeOld
import Derived.SizedLaws
import Derived.Deep.SlicePairs
namespace Go.Proofs.Ybulkdlic
open Go.ChangeShapes Go.WideShapes Go.ChangeAt Go.RowKit Go.Deep

theorem own : ownKnob Yba.prog.godebug = none := by kernel_rfl
theorem laidOutP : laidOutB Yba.prog = true := by kernel_rfl
theorem elem23 : Yba.prog.elem 23 = 27 := by kernel_rfl
theorem size27 (W : World) : (sizeOf 27).run Yba.prog W = .ok 2 W := by kernel_rfl
theorem cells27 : Yba.prog.cellsOf 27 = 2 := by kernel_rfl
theorem cells5 : Yba.prog.cellsOf 5 = 1 := by kernel_rfl

theorem spot_none {w : World} {p : Addr} {x : Value} (h : w.cell? p = some x) : p = ⟨p.block, p.off, none⟩ := by
  have h0 := World.cell?_spot h
  obtain ⟨b, o, sp⟩ := p
  subst h0
  rfl

theorem add_block (a : Addr) (n : Nat) : (a.add n).block = a.block := by unfold Addr.add; split <;> rfl
theorem add_off (a : Addr) (n : Nat) : (a.add n).off = a.off + n := by unfold Addr.add; split <;> simp_all

section
variable {H : Type} {enc : TypeId × Value → H}

/-- The slice of tiers that came in. -/
theorem view23 {W : World} {ao : Option Addr} {len cap : Nat} {d : DataW H} {p : List MemPlace} (h : DataW.Trod enc Yba.prog W 0 (fun _ => true) true 23 (.slice ao len cap) d p) :
    len ≤ maxLen ∧ ∃ (Bt : Nat) (ot gap ln : Nat → Nat), (∀ k, gap k ≤ 255) ∧ (∀ k, ln k ≤ 255) ∧
      (∀ (k : Nat), k < len → ∀ W, (Instr.indexAt 23 (.slice ao len cap) (.int .i64 k)).run Yba.prog W = .ok (.pointer (some ⟨Bt, ot k, none⟩)) W) ∧
      ∀ k, k < len → W.cell? ⟨Bt, ot k, none⟩ = some (.int .u8 (gap k : Int)) ∧ W.cell? ⟨Bt, ot k + 1, none⟩ = some (.int .u8 (ln k : Int)) := by
  obtain ⟨fuel, hf⟩ := h
  rcases open_slice_pairs Yba.underlying23 Yba.underlying27 cells27 rfl rfl cells5 cells5 hf with ⟨hcs, _⟩ | ⟨a, l, c, m, n, V0, V1, D0, D1, P0, P1, hcs, _, hl, hm, hmm, _, hx⟩
  · simp [Value.cells] at hcs
    obtain ⟨rfl, rfl, rfl⟩ := hcs
    exact ⟨Nat.zero_le _, 0, fun _ => 0, fun _ => 0, fun _ => 0, fun _ => Nat.zero_le _, fun _ => Nat.zero_le _, fun k hk => by omega, fun k hk => by omega⟩
  · simp [Value.cells] at hcs
    obtain ⟨rfl, rfl, rfl⟩ := hcs
    have hm' : m = cap := by simpa using hmm
    subst hm'
    have each : ∀ i, i < len → ∃ q : Nat × Nat, q.1 ≤ 255 ∧ q.2 ≤ 255 ∧ W.cell? (a.add (i * 2)) = some (.int .u8 (q.1 : Int)) ∧ W.cell? (a.add (i * 2 + 1)) = some (.int .u8 (q.2 : Int)) := by
      intro i hi
      obtain ⟨h1, h2, h3, h4⟩ := hx i (by omega)
      obtain ⟨x, e1, _, e3⟩ := DataW.trod_int Yba.underlying5 h3
      obtain ⟨y, f1, _, f3⟩ := DataW.trod_int Yba.underlying5 h4
      simp at e1 f1
      rw [e1] at h1
      rw [f1] at h2
      simp [Lit.wf, IntKind.min, IntKind.max, IntKind.signed, IntKind.bits] at e3 f3
      refine ⟨(x.toNat, y.toNat), by show x.toNat ≤ 255; omega, by show y.toNat ≤ 255; omega, ?_, ?_⟩
      · rw [h1]; show _ = some (Value.int .u8 (x.toNat : Int)); rw [Int.toNat_of_nonneg (by omega)]
      · rw [h2]; show _ = some (Value.int .u8 (y.toNat : Int)); rw [Int.toNat_of_nonneg (by omega)]
    obtain ⟨q, hq⟩ := choose_lt each
    refine ⟨by omega, a.block, fun k => a.off + k * 2, fun k => if k < len then (q k).1 else 0, fun k => if k < len then (q k).2 else 0, fun k => ?_, fun k => ?_, fun k hk W' => ?_, fun k hk => ?_⟩
    · by_cases e : k < len
      · simp only [if_pos e]; exact (hq k e).1
      · simp only [if_neg e]; omega
    · by_cases e : k < len
      · simp only [if_pos e]; exact (hq k e).2.1
      · simp only [if_neg e]; omega
    · have hs := spot_none (hq k hk).2.2.1
      rw [run_indexAt_slice W' 23 a len m .i64 k (by rw [elem23]; exact Yba.underlying23), if_pos (by omega), elem23, size27]
      rw [add_block, add_off] at hs
      simp only [Result.andThen]
      rw [show (k : Int).toNat * 2 = k * 2 by simp, hs]
    · have hs := spot_none (hq k hk).2.2.1
      have hs2 := spot_none (hq k hk).2.2.2
      simp only [if_pos hk]
      refine ⟨?_, ?_⟩
      · have := (hq k hk).2.2.1
        rw [hs, add_block, add_off] at this
        exact this
      · have := (hq k hk).2.2.2
        rw [hs2, add_block, add_off] at this
        exact this
end

attribute [local go_sem ↓] Go.wp_at_zero Go.wp_at_succ in
set_option maxRecDepth 100000 in
/-- Too many tiers: true at once. -/
theorem law_big (h : Int) (n cap : Nat) (pt : Option Addr) (rev : Bool) (rfLo rlLo rfHi rlHi st : Int) (w : World) (hn : 65536 < n) (hm : n ≤ maxLen) :
    Calls Yba.prog 3 #[.int .u64 h, .slice pt n cap, .bool rev, .int .u16 rfLo, .int .u16 rlLo, .int .u8 rfHi, .int .u8 rlHi, .int .u8 st] w fun e w' => e = .returned (.bool true) ∧ Below w.heap.size w w' := by
  refine (callsIn_wide (n := 3)).1 ?_
  refine callsIn_of_wp_marks Yba.func3 rfl trivial ?_ rfl
  refine wpIn_wide.2 ?_
  refine Code.wp_mono NoPanic.imp ?_
  simp only [Yba.ntmps3, List.size_toArray, List.length_cons, List.length_nil, Nat.reduceAdd, Nat.reduceSub, Array.replicate_succ, Array.replicate_zero, List.push_toArray, List.append_toArray, List.nil_append, List.cons_append]
  have hb : decide ((65536 : Int) < (n : Int)) = true := by simp; omega
  have hb2 : (65536 : Int) < (n : Int) := by omega
  have hm2 : n ≤ 9223372036854775807 := by unfold maxLen at hm; omega
  go_wp2
  exact ⟨_, results_tmp rfl _ _ _, rfl, by repeat (first | exact Below.refl _ _ | refine Below.alloc ?_ (by (try simp only [World.size_alloc]); omega) _)⟩

set_option maxRecDepth 100000 in
theorem lifted (os : Os) (started : os.Started) (H : Type) (enc : TypeId × Value → H) :
    ReturnsInHanded {} Yba.checked os 3 .any (Rows.lawS5618AWholeSpec.pre6 enc Yba.prog Yba.f3 Rows.lawS5618AWholeRow.domain false) (Rows.lawS5618AWholeSpec.post enc Yba.prog Yba.f3 false true false false) := by
  refine returnsInHanded_of_change (C := Yba.checked) own started (by kernel_rfl) Yba.func3
    (ChangeSpec.witness6 (enc := enc) (C := Yba.checked) false ⟨#[], #[.int .u64 0, .slice none 0 0, .bool false, .int .u16 0, .int .u16 0, .int .u8 0, .int .u8 0, .int .u8 0], []⟩ 8 (by kernel_rfl) (by kernel_rfl) (by kernel_rfl) (by kernel_rfl)) ?_
  intro W base args ds gs before hval0 hW hcnd _
  have hval : ∀ (j : Nat) t v, Yba.f3.params[j]? = some t → args[j]? = some v → Value.okWide Yba.prog W .any base t v := hval0
  have hW' := hW
  obtain ⟨p, q, hA0, hV, rfl, hfz, hnd⟩ := hW
  have hA : DataW.TrodAll enc Yba.prog W 0 (fun _ => true) true Yba.f3.params.toList args.toList ds p := hA0
  rw [Yba.params3] at hA hval
  obtain ⟨v0, vs0, d0, ds0, p0, q0, hargs, rfl, rfl, h0, r0⟩ := trodAll_cons hA
  obtain ⟨v1, vs1, d1, ds1, p1, q1, rfl, rfl, rfl, h1, r1⟩ := trodAll_cons r0
  obtain ⟨v2, vs2, d2, ds2, p2, q2, rfl, rfl, rfl, h2, r2⟩ := trodAll_cons r1
  obtain ⟨v3, vs3, d3, ds3, p3, q3, rfl, rfl, rfl, h3, r3⟩ := trodAll_cons r2
  obtain ⟨v4, vs4, d4, ds4, p4, q4, rfl, rfl, rfl, h4, r4⟩ := trodAll_cons r3
  obtain ⟨v5, vs5, d5, ds5, p5, q5, rfl, rfl, rfl, h5, r5⟩ := trodAll_cons r4
  obtain ⟨v6, vs6, d6, ds6, p6, q6, rfl, rfl, rfl, h6, r6⟩ := trodAll_cons r5
  obtain ⟨v7, vs7, d7, ds7, p7, q7, rfl, rfl, rfl, h7, r7⟩ := trodAll_cons r6
  obtain ⟨rfl, rfl, rfl⟩ := trodAll_nil r7
  obtain rfl : args = #[v0, v1, v2, v3, v4, v5, v6, v7] := by cases args; simp_all
  obtain ⟨rfl, rfl⟩ := trodVars_none hV
  obtain ⟨a0, rfl, rfl, rfl, w0⟩ := open_int Yba.underlying22 (hval 0 22 v0 rfl rfl) h0
  obtain ⟨ao, len, cap, rfl⟩ := okWide_slice Yba.underlying23 (hval 1 23 v1 rfl rfl)
  obtain ⟨rev, rfl, rfl, rfl⟩ := open_bool Yba.underlying4 (hval 2 4 v2 rfl rfl) h2
  obtain ⟨a3, rfl, rfl, rfl, w3⟩ := open_int Yba.underlying24 (hval 3 24 v3 rfl rfl) h3
  obtain ⟨a4, rfl, rfl, rfl, w4⟩ := open_int Yba.underlying24 (hval 4 24 v4 rfl rfl) h4
  obtain ⟨a5, rfl, rfl, rfl, w5⟩ := open_int Yba.underlying5 (hval 5 5 v5 rfl rfl) h5
  obtain ⟨a6, rfl, rfl, rfl, w6⟩ := open_int Yba.underlying5 (hval 6 5 v6 rfl rfl) h6
  obtain ⟨a7, rfl, rfl, rfl, w7⟩ := open_int Yba.underlying5 (hval 7 5 v7 rfl rfl) h7
  have lt1 : ∀ x ∈ p1, x.block < W.heap.size := by obtain ⟨m, hm⟩ := h1; exact DataW.trod_lt m _ _ _ hm
  obtain ⟨hm1, Bt, ot, gap, ln, hg, hl, hix, hts⟩ := view23 h1
  clear hA0 hval0
  have b7 : 0 ≤ a7 ∧ a7 ≤ 255 := by
    have := w7
    simp [Lit.wf, IntKind.min, IntKind.max, IntKind.signed, IntKind.bits] at this
    omega
  have hwalk : Calls Yba.prog 3 #[.int .u64 a0, .slice ao len cap, .bool rev, .int .u16 a3, .int .u16 a4, .int .u8 a5, .int .u8 a6, .int .u8 a7] W fun e w' => e = .returned (.bool true) ∧ Below W.heap.size W w' := by
    by_cases hb : len ≤ 65536
    · obtain ⟨sN, rfl⟩ : ∃ s : Nat, a7 = (s : Int) := ⟨a7.toNat, by omega⟩
      exact law_walk a0 len cap Bt ao ot gap ln rev a3 a4 a5 a6 sN W hb (by omega) hix hts hg hl
    · exact law_big a0 len cap ao rev a3 a4 a5 a6 a7 W (by omega) hm1
  refine hwalk.mono fun e W' ⟨he, bel⟩ => ?_
  subst he
  exact ⟨_, rfl, _, _, _, [], _, [], hW', trodAll_mk1 (shut_bool Yba.underlying4 _),
    (trodAll_cons_mk (shut_int Yba.underlying22 w0) (trodAll_cons_mk (Below.trod laidOutP (by kernel_rfl) (of_decide_eq_true (by kernel_rfl)) h1 bel lt1) (trodAll_cons_mk (shut_bool Yba.underlying4 rev) (trodAll_cons_mk (shut_int Yba.underlying24 w3) (trodAll_cons_mk (shut_int Yba.underlying24 w4) (trodAll_cons_mk (shut_int Yba.underlying5 w5) (trodAll_cons_mk (shut_int Yba.underlying5 w6) (trodAll_cons_mk (shut_int Yba.underlying5 w7) trodAll_mk0)))))))), rfl, bel.frame _, fun h => by cases h⟩

/-- ████ THE STATEMENT ████ -/
theorem lawS5618AWhole_holds : Rows.LawS5618AWholeSaid :=
  OpenClaim.holds_of_wide 3 Yba.f3 rfl rfl rfl rfl rfl rfl rfl ⟨rfl, rfl, rfl, rfl, rfl⟩ rfl rfl rfl rfl rfl (by kernel_rfl) Yba.func3 (by kernel_rfl)
    (of_decide_eq_true (by kernel_rfl)) (by unfold Func.isWrapper; first | (rw [if_pos (by decide +kernel)]; kernel_rfl) | (rw [if_neg (by decide +kernel)]; exact ⟨rfl, rfl⟩))
    (fun os started H enc _ => lifted os started H enc)

end Go.Proofs.Ybulkdlic
