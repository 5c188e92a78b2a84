/-
  DERIVED. alloc.LawS5618BWhole: THE PLAIN LAWS OF A FREE SET: places, counts.
-/
import Derived.Test.YbulkdlicBPlain2
namespace Go.Proofs.Ybulkdlic

/-- How many numbers the runs hold. -/
def cntL (L : List (Nat × Nat)) : Nat := (L.map fun r => r.2 + 1 - r.1).sum
theorem cntL_app (A B : List (Nat × Nat)) : cntL (A ++ B) = cntL A + cntL B := by simp [cntL]
theorem cntL_cons (r : Nat × Nat) (B : List (Nat × Nat)) : cntL (r :: B) = (r.2 + 1 - r.1) + cntL B := by simp [cntL]
theorem cntL_nil : cntL [] = 0 := rfl
theorem cntL_len : ∀ (L : List (Nat × Nat)), Good L → L.length ≤ cntL L
  | [], _ => Nat.le_refl _
  | a :: L, h => by
    have h1 := h.1 a (by simp)
    have h2 := cntL_len L h.tail
    rw [cntL_cons, List.length_cons]
    omega
theorem cntL_le (Z : Nat) : ∀ (F : Nat) (L : List (Nat × Nat)), Good L → (∀ r ∈ L, F ≤ r.1 ∧ r.2 ≤ Z) → F ≤ Z + 1 → cntL L + F ≤ Z + 1
  | F, [], _, _, h => by rw [cntL_nil]; omega
  | F, a :: L, h, hb, h0 => by
    have h1 := h.1 a (by simp)
    have h3 := hb a (by simp)
    have h2 := cntL_le Z (a.2 + 1) L h.tail (fun r hr => ⟨by have := h.head r hr; omega, (hb r (by simp [hr])).2⟩) (by omega)
    rw [cntL_cons]
    omega

theorem Good.lst_lt {L : List (Nat × Nat)} (h : Good L) {i j : Nat} (hij : i < j) (hj : j < L.length) : lst L i + 1 < fst L j := by
  have hi := getD_at (L := L) (k := i) (by omega)
  have hj' := getD_at (L := L) (k := j) hj
  have := List.pairwise_iff_getElem.1 h.2 i j (by omega) hj hij
  rw [List.getElem?_eq_getElem (by omega)] at hi
  rw [List.getElem?_eq_getElem hj] at hj'
  rw [Option.some.inj hi, Option.some.inj hj'] at this
  exact this
theorem Good.fl {L : List (Nat × Nat)} (h : Good L) {i : Nat} (hi : i < L.length) : fst L i ≤ lst L i := h.1 (fst L i, lst L i) (List.mem_of_getElem? (getD_at hi))
theorem mem_iff_at {L : List (Nat × Nat)} {x : Nat} : Mem x L ↔ ∃ i, i < L.length ∧ fst L i ≤ x ∧ x ≤ lst L i := by
  constructor
  · rintro ⟨r, hr, h1, h2⟩
    obtain ⟨i, hi, e⟩ := List.getElem_of_mem hr
    have := getD_at (L := L) (k := i) hi
    rw [List.getElem?_eq_getElem hi, e] at this
    have e2 := Option.some.inj this
    exact ⟨i, hi, by rw [e2] at h1; exact h1, by rw [e2] at h2; exact h2⟩
  · rintro ⟨i, hi, h1, h2⟩
    exact ⟨_, List.mem_of_getElem? (getD_at hi), h1, h2⟩
/-- Where x has its place. -/
theorem Good.pos {L : List (Nat × Nat)} (h : Good L) (x : Nat) : ∃ i, i ≤ L.length ∧ (∀ k, k < i → lst L k < x) ∧ ∀ k, i ≤ k → k < L.length → x ≤ lst L k := by
  have key : ∀ m, m ≤ L.length → ∃ i, i ≤ m ∧ (∀ k, k < i → lst L k < x) ∧ ∀ k, i ≤ k → k < m → x ≤ lst L k := by
    intro m
    induction m with
    | zero => intro _; exact ⟨0, Nat.le_refl _, fun k hk => by omega, fun k _ hk => by omega⟩
    | succ m ih =>
      intro hm
      obtain ⟨i, h1, h2, h3⟩ := ih (by omega)
      by_cases e : lst L m < x
      · refine ⟨m + 1, Nat.le_refl _, fun k hk => ?_, fun k h1 h2 => by omega⟩
        by_cases ek : k = m
        · rw [ek]; exact e
        · have := h.lst_lt (i := k) (j := m) (by omega) (by omega)
          have := h.fl (i := m) (by omega)
          omega
      · refine ⟨i, by omega, h2, fun k hk hk2 => ?_⟩
        by_cases ek : k = m
        · rw [ek]; omega
        · exact h3 k hk (by omega)
  exact key L.length (Nat.le_refl _)
theorem mem_pos {L : List (Nat × Nat)} {x i : Nat} (h : Good L) (hlo : ∀ k, k < i → lst L k < x) (hhi : ∀ k, i ≤ k → k < L.length → x ≤ lst L k) : Mem x L ↔ i < L.length ∧ fst L i ≤ x := by
  rw [mem_iff_at]
  constructor
  · rintro ⟨j, hj, h1, h2⟩
    have hij : i ≤ j := Nat.le_of_not_lt fun e => by have := hlo j e; omega
    refine ⟨by omega, ?_⟩
    by_cases e : i = j
    · rw [e]; exact h1
    · have := h.lst_lt (i := i) (j := j) (by omega) hj
      have := h.fl (i := i) (by omega)
      omega
  · rintro ⟨h1, h2⟩
    exact ⟨i, h1, h2, hhi i (Nat.le_refl _) h1⟩

theorem cnt_pieces {r : Nat × Nat} {x : Nat} (h1 : r.1 ≤ x) (h2 : x ≤ r.2) : cntL (pieces r x) + 1 = r.2 + 1 - r.1 := by
  unfold pieces
  split
  · rw [cntL_nil]; omega
  · split
    · rw [cntL_cons, cntL_nil]; simp only; omega
    · split
      · rw [cntL_cons, cntL_nil]; simp only; omega
      · rw [cntL_cons, cntL_cons, cntL_nil]; simp only; omega
theorem cnt_rem (L : List (Nat × Nat)) (i x : Nat) (hi : i < L.length) (h1 : fst L i ≤ x) (h2 : x ≤ lst L i) : cntL (remL L i x) + 1 = cntL L := by
  have e := split_at (getD_at hi)
  have e2 := cnt_pieces (r := (fst L i, lst L i)) h1 h2
  rw [remL_eq L i x hi, cntL_app, cntL_app]
  conv => rhs; rw [e]
  rw [cntL_app, cntL_cons]
  simp only at e2 ⊢
  omega
theorem within_of_mem {F Z : Nat} {L L' : List (Nat × Nat)} (hL : ∀ r ∈ L, F ≤ r.1 ∧ r.2 ≤ Z) (hG : Good L') (hs : ∀ y, Mem y L' → Mem y L) : ∀ r ∈ L', F ≤ r.1 ∧ r.2 ≤ Z := by
  intro r hr
  have h1 := hG.1 r hr
  obtain ⟨a, ha, ha1, ha2⟩ := hs r.1 ⟨r, hr, Nat.le_refl _, h1⟩
  obtain ⟨b, hb, hb1, hb2⟩ := hs r.2 ⟨r, hr, h1, Nat.le_refl _⟩
  have := hL a ha
  have := hL b hb
  omega

/-- Where x is in no run: its place for add. -/
theorem Good.gap {L : List (Nat × Nat)} (h : Good L) {x : Nat} (hx : ¬ Mem x L) : ∃ i, i ≤ L.length ∧ (∀ k, k < i → lst L k < x) ∧ ∀ k, i ≤ k → k < L.length → x < fst L k := by
  obtain ⟨i, h1, h2, h3⟩ := h.pos x
  refine ⟨i, h1, h2, fun k hk hk2 => ?_⟩
  have := h3 k hk hk2
  exact Nat.lt_of_not_le fun e => hx (mem_iff_at.2 ⟨k, hk2, e, this⟩)
theorem plain_add' (L : List (Nat × Nat)) (x i : Nat) (hL : Good L) (hi : i ≤ L.length) (hlo : ∀ k, k < i → lst L k < x) (hhi : ∀ k, i ≤ k → k < L.length → x < fst L k) : mrg (insP x L) = addL L i (x, x) := by
  refine plain_add L x i hL hi (fun r hr => ?_) (fun r hr => ?_)
  · obtain ⟨j, hj, e⟩ := List.getElem_of_mem hr
    rw [List.length_take] at hj
    have h1 := getD_at (L := L) (k := j) (by omega)
    rw [List.getElem?_eq_getElem (by omega)] at h1
    rw [List.getElem_take] at e
    have := hlo j (by omega)
    rw [← e, Option.some.inj h1]
    exact this
  · obtain ⟨j, hj, e⟩ := List.getElem_of_mem hr
    rw [List.length_drop] at hj
    have h1 := getD_at (L := L) (k := i + j) (by omega)
    rw [List.getElem?_eq_getElem (by omega)] at h1
    rw [List.getElem_drop] at e
    have := hhi (i + j) (by omega) (by omega)
    rw [← e, Option.some.inj h1]
    exact this

end Go.Proofs.Ybulkdlic
