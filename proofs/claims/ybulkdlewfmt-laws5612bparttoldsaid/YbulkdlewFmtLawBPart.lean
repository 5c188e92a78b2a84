/-
  DERIVED. schema.LawS5612BPart: the told card. The walk goes by the contracts of quoteChar (function 4) and of the law's own model (function 5), both at every character of the printable range; fmt.Sprintf is never come to.
-/
import Derived.Test.YbulkdlewFmtCards
import Derived.WalkKit
import Derived.WalkSpells
import Derived.WalkLawsBesides
import Derived.ProofKit
import Derived.ShutString
import Derived.SevenToldRow
import Derived.Stop.JoinedTold
namespace Go.Proofs.YbulkdlewFmt
open Go.ChangeShapes Go.WideShapes Go.ChangeAt Go.RowKit
open Go.Extern.Stop Go.Stop Go.Extern

theorem encode_low (c : Int) (h0 : 0 ≤ c) (h1 : c < 128) : Utf8.encode c = ⟨#[UInt8.ofNat c.toNat]⟩ := by
  have hv : Utf8.valid c = true := by rw [validRune_eq]; unfold validRune; apply decide_eq_true; omega
  have hc : c.toNat < 128 := by omega
  unfold Utf8.encode
  simp only [hv, if_true, hc]

theorem quote_esc (c : Int) (w : World) (hq : c = 39 ∨ c = 92) :
    Calls Ybaf.prog 4 #[.int .i32 c] w fun e w' => e = .returned (.string ⟨#[39, 92, UInt8.ofNat c.toNat, 39]⟩) ∧ w' = w := by
  rcases hq with rfl | rfl
  all_goals
    go_enter Ybaf.func4, Ybaf.ntmps4
    go_wp2
    go_ret
    exact ⟨rfl, rfl⟩

theorem quote_bare (c : Int) (w : World) (h1 : 33 ≤ c) (h2 : c ≤ 126) (n1 : (c == 39) = false) (n2 : (c == 92) = false) :
    Calls Ybaf.prog 4 #[.int .i32 c] w fun e w' => e = .returned (.string ⟨#[39, UInt8.ofNat c.toNat, 39]⟩) ∧ w' = w := by
  have he := encode_low c (by omega) (by omega)
  go_enter Ybaf.func4, Ybaf.ntmps4
  go_wp2
  go_ret
  exact ⟨rfl, rfl⟩


theorem conv4 (a b c d : Int) (w : World) : (convert 27 9 (.slice (some ⟨w.heap.size, 0, none⟩) 4 4)).run Ybaf.prog (w.alloc (.cells #[.int .u8 a, .int .u8 b, .int .u8 c, .int .u8 d] 5)) =
    .ok (.string ⟨#[UInt8.ofNat a.toNat, UInt8.ofNat b.toNat, UInt8.ofNat c.toNat, UInt8.ofNat d.toNat]⟩) (w.alloc (.cells #[.int .u8 a, .int .u8 b, .int .u8 c, .int .u8 d] 5)) := by
  rw [run_convert_bytes_string _ 27 9 5 _ _ _ Ybaf.underlying27 Ybaf.underlying5 Ybaf.underlying9]
  rw [run_bytesToString _ _ 4 4 [a, b, c, d] ?_]
  · rfl
  · rw [run_loadCells _ _ 4 (fun j => .int .u8 ([a, b, c, d].getD j 0)) ?_]
    · rfl
    · intro j hj
      match j, hj with
      | 0, _ => simp [Addr.add]
      | 1, _ => simp [Addr.add]
      | 2, _ => simp [Addr.add]
      | 3, _ => simp [Addr.add]

theorem conv3 (a b c : Int) (w : World) : (convert 27 9 (.slice (some ⟨w.heap.size, 0, none⟩) 3 3)).run Ybaf.prog (w.alloc (.cells #[.int .u8 a, .int .u8 b, .int .u8 c] 5)) =
    .ok (.string ⟨#[UInt8.ofNat a.toNat, UInt8.ofNat b.toNat, UInt8.ofNat c.toNat]⟩) (w.alloc (.cells #[.int .u8 a, .int .u8 b, .int .u8 c] 5)) := by
  rw [run_convert_bytes_string _ 27 9 5 _ _ _ Ybaf.underlying27 Ybaf.underlying5 Ybaf.underlying9]
  rw [run_bytesToString _ _ 3 3 [a, b, c] ?_]
  · rfl
  · rw [run_loadCells _ _ 3 (fun j => .int .u8 ([a, b, c].getD j 0)) ?_]
    · rfl
    · intro j hj
      match j, hj with
      | 0, _ => simp [Addr.add]
      | 1, _ => simp [Addr.add]
      | 2, _ => simp [Addr.add]

theorem model_esc (c : Int) (w : World) (hq : c = 39 ∨ c = 92) :
    Calls Ybaf.prog 5 #[.int .u8 c] w fun e w' => e = .returned (.string ⟨#[39, 92, UInt8.ofNat c.toNat, 39]⟩) ∧ Grown w w' := by
  have hcv := conv4
  rcases hq with rfl | rfl
  all_goals
    go_enter Ybaf.func5, Ybaf.ntmps5
    go_wp2
    go_ret
    exact ⟨rfl, (Grown.refl _).alloc _ _⟩

theorem model_bare (c : Int) (w : World) (n1 : (c == 39) = false) (n2 : (c == 92) = false) :
    Calls Ybaf.prog 5 #[.int .u8 c] w fun e w' => e = .returned (.string ⟨#[39, UInt8.ofNat c.toNat, 39]⟩) ∧ Grown w w' := by
  have hcv := conv3
  go_enter Ybaf.func5, Ybaf.ntmps5
  go_wp2
  go_ret
  exact ⟨rfl, (Grown.refl _).alloc _ _⟩

/-- A printable character as a report shows it. -/
def shown (c : Int) : ByteArray := if c = 39 ∨ c = 92 then ⟨#[39, 92, UInt8.ofNat c.toNat, 39]⟩ else ⟨#[39, UInt8.ofNat c.toNat, 39]⟩

theorem quote_any (c : Int) (w : World) (h1 : 33 ≤ c) (h2 : c ≤ 126) : Calls Ybaf.prog 4 #[.int .i32 c] w fun e w' => e = .returned (.string (shown c)) ∧ w' = w := by
  unfold shown
  by_cases hq : c = 39 ∨ c = 92
  · rw [if_pos hq]; exact quote_esc c w hq
  · rw [if_neg hq]; exact quote_bare c w h1 h2 (by simp; omega) (by simp; omega)

theorem model_any (c : Int) (w : World) : Calls Ybaf.prog 5 #[.int .u8 c] w fun e w' => e = .returned (.string (shown c)) ∧ Grown w w' := by
  unfold shown
  by_cases hq : c = 39 ∨ c = 92
  · rw [if_pos hq]; exact model_esc c w hq
  · rw [if_neg hq]; exact model_bare c w (by simp; omega) (by simp; omega)

/-- ████ THE WALK: at every rune the law returns true. -/
theorem walk (r : Int) (w : World) (h0 : -2147483648 ≤ r) (h3 : r ≤ 2147483647) :
    Calls Ybaf.prog 3 #[.int .i32 r] w fun e w' => e = .returned (.bool true) ∧ Grown w w' := by
  go_enter Ybaf.func3, Ybaf.ntmps3
  go_wp2_with (first | (go_at_call 4; refine (quote_any _ _ (by omega) (by omega)).mono ?_; rintro e w' ⟨rfl, rfl⟩) | (go_at_call 5; refine (model_any _ _).mono ?_; rintro e w' ⟨rfl, hg⟩))
  all_goals go_ret
  all_goals exact ⟨rfl, by assumption⟩

theorem own : ownKnob Ybaf.prog.godebug = none := by kernel_rfl

set_option maxRecDepth 100000 in
theorem lifted (os : Os) (started : os.Started) (H : Type) (enc : TypeId × Value → H) :
    ReturnsInTold none {} Ybaf.checked os 3 .any Input.okWide ((OpenSpec.ofChange Rows.lawS5612BPartSpec).preRow enc Ybaf.prog Ybaf.f3 Rows.lawS5612BPartRow.domain false [])
      (fun F => ((OpenSpec.ofChange Rows.lawS5612BPartSpec).at F).post enc Ybaf.prog Ybaf.f3 false true false false) (aloneAtReturn Ybaf.prog) nothingAlways := by
  refine returnsInTold_of_row (C := Ybaf.checked) (s := OpenSpec.ofChange Rows.lawS5612BPartSpec) (by kernel_rfl) own started (by kernel_rfl) Ybaf.func3
    (OpenSpec.witness_stopped (enc := enc) (C := Ybaf.checked) false ⟨#[], #[.int .i32 0], []⟩ 8 (by kernel_rfl) (by kernel_rfl) (by kernel_rfl) (by kernel_rfl)) ?_
  intro F W base args ds gs before _ hF hval0 hW _ _ hsz _ _
  have hval : ∀ (j : Nat) t v, Ybaf.f3.params[j]? = some t → args[j]? = some v → Value.okWide Ybaf.prog W .any base t v := hval0
  have hW' := hW
  obtain ⟨p, q, hA0, hV, rfl, hfz, hnd⟩ := hW
  have hA : DataW.TrodAll enc Ybaf.prog W 0 (fun _ => true) true Ybaf.f3.params.toList args.toList ds p := hA0
  rw [Ybaf.params3] at hA hval
  obtain ⟨v0, d0, rfl, rfl, h0⟩ := trodAll_one hA
  obtain ⟨rfl, rfl⟩ := trodVars_none hV
  obtain ⟨r, rfl, rfl, rfl, wr⟩ := open_int Ybaf.underlying21 (hval 0 21 v0 rfl rfl) h0
  clear hA0 hval0
  have hb : -2147483648 ≤ r ∧ r ≤ 2147483647 := by
    have := wr
    simp [Lit.wf, IntKind.min, IntKind.max, IntKind.signed, IntKind.bits] at this
    omega
  refine (walk r W hb.1 hb.2).mono fun e W' ⟨he, hg⟩ => ?_
  subst he
  exact ⟨_, rfl, _, _, _, [], [], [], hW', trodAll_mk1 (shut_bool Ybaf.underlying4 _), trodAll_mk1 (shut_int Ybaf.underlying21 wr), rfl, hg.frame _, fun h => by cases h⟩

theorem laidOut : laidOutB Ybaf.pinned.checked.prog = true := by kernel_rfl
theorem stops : Ybaf.pinned.checked.prog.stops = ["fmt.Sprintf"] := by kernel_rfl
theorem stopKnobs : Ybaf.pinned.checked.prog.stopKnobs = [] := by kernel_rfl
theorem quiet (os : Os) : Stop.quiet Ybaf.pinned.checked.prog os := by
  intro k hk
  rw [stopKnobs] at hk
  cases hk

/-- ████ THE STATEMENT ████ -/
theorem lawS5612BPart_holds : Rows.LawS5612BPartToldSaid :=
  Claim7.holds_of_told_any 3 Ybaf.f3 "fmt.Sprintf" [] [] _ _ _ (by kernel_rfl) rfl rfl rfl laidOut (by kernel_rfl) rfl ⟨rfl, rfl, rfl, rfl, rfl, rfl, rfl⟩ rfl rfl (by kernel_rfl) (by kernel_rfl) Ybaf.func3 (by kernel_rfl)
    (of_decide_eq_true (by kernel_rfl)) (of_decide_eq_true (by kernel_rfl)) stops.symm rfl stopKnobs.symm (by kernel_rfl)
    (by kernel_rfl) (by kernel_rfl) (by kernel_rfl) (by kernel_rfl) (by kernel_rfl) (by kernel_rfl) (by kernel_rfl) (by kernel_rfl) (by kernel_rfl) rfl (by kernel_rfl) rfl rfl
    rfl rfl
    rfl (by kernel_rfl) (by kernel_rfl) (by kernel_rfl) (by decide) (by kernel_rfl)
    (OpenClaim.moreEntering_of (by kernel_rfl) (by kernel_rfl) (by kernel_rfl) (by kernel_rfl) (by kernel_rfl) (by kernel_rfl) (by kernel_rfl) (by kernel_rfl) (by kernel_rfl) (by kernel_rfl))
    ⟨_, WideRow.started_initial, quiet _⟩
    (fun os started _ H enc _ => lifted os started H enc)

end Go.Proofs.YbulkdlewFmt
