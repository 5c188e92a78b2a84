/-
  DERIVED. alloc.LawS5618BWhole: THE PLAIN LAW OF RUNS, no Go in sight.
-/
import Derived.Test.YbulkdlicBRem
namespace Go.Proofs.Ybulkdlic

/-- Runs that stand in order and do not touch. -/
def Good (L : List (Nat × Nat)) : Prop := (∀ r ∈ L, r.1 ≤ r.2) ∧ L.Pairwise (fun a b => a.2 + 1 < b.1)
def Mem (x : Nat) (L : List (Nat × Nat)) : Prop := ∃ r ∈ L, r.1 ≤ x ∧ x ≤ r.2

theorem Good.tail {a : Nat × Nat} {L : List (Nat × Nat)} (h : Good (a :: L)) : Good L := ⟨fun r hr => h.1 r (by simp [hr]), (List.pairwise_cons.1 h.2).2⟩
theorem Good.head {a : Nat × Nat} {L : List (Nat × Nat)} (h : Good (a :: L)) : ∀ r ∈ L, a.2 + 1 < r.1 := (List.pairwise_cons.1 h.2).1
theorem Good.cons {a : Nat × Nat} {L : List (Nat × Nat)} (h : Good L) (h1 : a.1 ≤ a.2) (h2 : ∀ r ∈ L, a.2 + 1 < r.1) : Good (a :: L) :=
  ⟨fun r hr => by rcases List.mem_cons.1 hr with rfl | hr; exact h1; exact h.1 r hr, List.pairwise_cons.2 ⟨h2, h.2⟩⟩

/-- The law's own: runs put together where they touch. -/
def mrg : List (Nat × Nat) → List (Nat × Nat)
  | [] => []
  | [a] => [a]
  | a :: b :: t => if a.2 + 1 = b.1 then mrg ((a.1, b.2) :: t) else a :: mrg (b :: t)
termination_by L => L.length
/-- .. and where v is put. -/
def insP (v : Nat) : List (Nat × Nat) → List (Nat × Nat)
  | [] => [(v, v)]
  | r :: t => if v < r.1 then (v, v) :: r :: t else r :: insP v t

theorem mrg_good : ∀ (L : List (Nat × Nat)), Good L → mrg L = L
  | [], _ => by rw [mrg]
  | [a], _ => by rw [mrg]
  | a :: b :: t, h => by
    have h1 := h.head b (by simp)
    rw [mrg, if_neg (by omega), mrg_good (b :: t) h.tail]
theorem mrg_join (a : Nat × Nat) (B : List (Nat × Nat)) (h1 : a.1 ≤ a.2) (hB : Good B) (hx : ∀ r ∈ B, a.2 < r.1) : mrg (a :: B) = joinAt 0 (a :: B) := by
  cases B with
  | nil => rw [mrg]; rfl
  | cons b t =>
    rw [mrg, joinAt]
    by_cases e : a.2 + 1 = b.1
    · rw [if_pos e, if_pos e]
      have hb := hB.1 b (by simp)
      exact mrg_good _ (hB.tail.cons (by show a.1 ≤ b.2; omega) (fun r hr => hB.head r hr))
    · rw [if_neg e, if_neg e, mrg_good _ hB]
/-- The two joins of addRange. -/
def addJ (i : Nat) (M : List (Nat × Nat)) : List (Nat × Nat) := if 0 < i then joinAt (i - 1) (joinAt i M) else joinAt i M
theorem addL_eq (L : List (Nat × Nat)) (i : Nat) (r : Nat × Nat) : addL L i r = addJ i (L.take i ++ r :: L.drop i) := by unfold addL addJ; simp

theorem mrg_add (x : Nat) (B : List (Nat × Nat)) (hB : Good B) (hx : ∀ r ∈ B, x < r.1) : ∀ (A : List (Nat × Nat)), Good A → (∀ r ∈ A, r.2 < x) → mrg (A ++ (x, x) :: B) = addJ A.length (A ++ (x, x) :: B)
  | [], _, _ => mrg_join (x, x) B (Nat.le_refl _) hB hx
  | [a], hA, hl => by
    have ha := hA.1 a (by simp)
    have hal := hl a (by simp)
    show mrg (a :: (x, x) :: B) = joinAt 0 (a :: joinAt 0 ((x, x) :: B))
    rw [mrg]
    by_cases e : a.2 + 1 = x
    · rw [if_pos e]
      show mrg ((a.1, x) :: B) = _
      rw [mrg_join (a.1, x) B (by show a.1 ≤ x; omega) hB hx]
      cases B with
      | nil => simp [joinAt, e]
      | cons b t =>
        by_cases e2 : x + 1 = b.1
        · simp [joinAt, e2, e]
        · simp [joinAt, e2, e]
    · rw [if_neg e, mrg_join (x, x) B (Nat.le_refl _) hB hx]
      cases B with
      | nil => simp [joinAt, e]
      | cons b t =>
        by_cases e2 : x + 1 = b.1
        · simp [joinAt, e2, e]
        · simp [joinAt, e2, e]
  | a :: a' :: A', hA, hl => by
    have h1 := hA.head a' (by simp)
    have ih := mrg_add x B hB hx (a' :: A') hA.tail (fun r hr => hl r (by simp [hr]))
    show mrg (a :: a' :: (A' ++ (x, x) :: B)) = _
    rw [mrg, if_neg (by omega)]
    show a :: mrg (a' :: A' ++ (x, x) :: B) = _
    rw [ih]
    unfold addJ
    rw [if_pos (by simp), if_pos (by simp)]
    simp only [List.length_cons, Nat.add_sub_cancel, List.cons_append]
    rw [show joinAt (A'.length + 1 + 1) (a :: a' :: (A' ++ (x, x) :: B)) = a :: joinAt (A'.length + 1) (a' :: (A' ++ (x, x) :: B)) from rfl]
    rfl

theorem insP_split (x : Nat) : ∀ (A B : List (Nat × Nat)), (∀ r ∈ A, r.1 ≤ x) → (∀ r ∈ B, x < r.1) → insP x (A ++ B) = A ++ (x, x) :: B
  | [], [], _, _ => rfl
  | [], b :: t, _, h => by show insP x (b :: t) = _; rw [insP, if_pos (h b (by simp))]; rfl
  | a :: A, B, h1, h2 => by
    have := h1 a (by simp)
    rw [List.cons_append, insP, if_neg (by omega), insP_split x A B (fun r hr => h1 r (by simp [hr])) h2]
    rfl

/-- THE PLAIN LAW: what addRange does with the run (x, x) is what the law itself reckons. -/
theorem plain_add (L : List (Nat × Nat)) (x i : Nat) (hL : Good L) (hi : i ≤ L.length) (hlo : ∀ r ∈ L.take i, r.2 < x) (hhi : ∀ r ∈ L.drop i, x < r.1) : mrg (insP x L) = addL L i (x, x) := by
  have hA : Good (L.take i) := ⟨fun r hr => hL.1 r (List.mem_of_mem_take hr), hL.2.sublist (List.take_sublist i L)⟩
  have hB : Good (L.drop i) := ⟨fun r hr => hL.1 r (List.mem_of_mem_drop hr), hL.2.sublist (List.drop_sublist i L)⟩
  have h1 := insP_split x (L.take i) (L.drop i) (fun r hr => by have := hlo r hr; have := hA.1 r hr; omega) hhi
  rw [List.take_append_drop] at h1
  rw [h1, mrg_add x (L.drop i) hB hhi (L.take i) hA hlo, addL_eq, List.length_take, Nat.min_eq_left hi]

theorem Good.swap {A B P : List (Nat × Nat)} {r : Nat × Nat} (h : Good (A ++ r :: B)) (hP : Good P) (hin : ∀ p ∈ P, r.1 ≤ p.1 ∧ p.2 ≤ r.2) : Good (A ++ (P ++ B)) := by
  obtain ⟨h1, h2⟩ := h
  obtain ⟨pA, pB, pc⟩ := List.pairwise_append.1 h2
  obtain ⟨pr, pB'⟩ := List.pairwise_cons.1 pB
  refine ⟨fun q hq => ?_, List.pairwise_append.2 ⟨pA, List.pairwise_append.2 ⟨hP.2, pB', fun a ha b hb => ?_⟩, fun a ha b hb => ?_⟩⟩
  · rcases List.mem_append.1 hq with hq | hq
    · exact h1 q (by simp [hq])
    · rcases List.mem_append.1 hq with hq | hq
      · exact hP.1 q hq
      · exact h1 q (by simp [hq])
  · have := pr b hb
    have := hin a ha
    omega
  · rcases List.mem_append.1 hb with hb | hb
    · have := pc a ha r (by simp)
      have := hin b hb
      omega
    · exact pc a ha b (by simp [hb])

theorem mem_app {y : Nat} {A B : List (Nat × Nat)} : Mem y (A ++ B) ↔ Mem y A ∨ Mem y B := by
  unfold Mem
  constructor
  · rintro ⟨r, hr, h⟩
    rcases List.mem_append.1 hr with hr | hr
    · exact .inl ⟨r, hr, h⟩
    · exact .inr ⟨r, hr, h⟩
  · rintro (⟨r, hr, h⟩ | ⟨r, hr, h⟩)
    · exact ⟨r, by simp [hr], h⟩
    · exact ⟨r, by simp [hr], h⟩
theorem mem_one {y : Nat} {r : Nat × Nat} : Mem y [r] ↔ r.1 ≤ y ∧ y ≤ r.2 := by simp [Mem]

/-- What remains of the run r without x. -/
def pieces (r : Nat × Nat) (x : Nat) : List (Nat × Nat) :=
  if r.1 = x ∧ r.2 = x then [] else if r.1 = x then [(x + 1, r.2)] else if r.2 = x then [(r.1, x - 1)] else [(r.1, x - 1), (x + 1, r.2)]
theorem pieces_good {r : Nat × Nat} {x : Nat} (h1 : r.1 ≤ x) (h2 : x ≤ r.2) : Good (pieces r x) ∧ (∀ p ∈ pieces r x, r.1 ≤ p.1 ∧ p.2 ≤ r.2) ∧ ∀ y, Mem y (pieces r x) ↔ (r.1 ≤ y ∧ y ≤ r.2) ∧ y ≠ x := by
  unfold pieces
  by_cases e1 : r.1 = x
  · by_cases e2 : r.2 = x
    · rw [if_pos ⟨e1, e2⟩]
      exact ⟨⟨by simp, List.Pairwise.nil⟩, by simp, fun y => ⟨fun ⟨r', h, _⟩ => absurd h (by simp), fun h => by omega⟩⟩
    · rw [if_neg (fun h => e2 h.2), if_pos e1]
      refine ⟨⟨fun p hp => ?_, List.pairwise_singleton _ _⟩, fun p hp => ?_, fun y => ?_⟩
      · rw [List.mem_singleton] at hp; subst hp; show x + 1 ≤ r.2; omega
      · rw [List.mem_singleton] at hp; subst hp; show r.1 ≤ x + 1 ∧ r.2 ≤ r.2; omega
      · rw [mem_one]; show x + 1 ≤ y ∧ y ≤ r.2 ↔ _; omega
  · by_cases e2 : r.2 = x
    · rw [if_neg (fun h => e1 h.1), if_neg e1, if_pos e2]
      refine ⟨⟨fun p hp => ?_, List.pairwise_singleton _ _⟩, fun p hp => ?_, fun y => ?_⟩
      · rw [List.mem_singleton] at hp; subst hp; show r.1 ≤ x - 1; omega
      · rw [List.mem_singleton] at hp; subst hp; show r.1 ≤ r.1 ∧ x - 1 ≤ r.2; omega
      · rw [mem_one]; show r.1 ≤ y ∧ y ≤ x - 1 ↔ _; omega
    · rw [if_neg (fun h => e1 h.1), if_neg e1, if_neg e2]
      refine ⟨⟨fun p hp => ?_, ?_⟩, fun p hp => ?_, fun y => ?_⟩
      · simp only [List.mem_cons, List.not_mem_nil, or_false] at hp
        rcases hp with rfl | rfl
        · show r.1 ≤ x - 1; omega
        · show x + 1 ≤ r.2; omega
      · refine List.pairwise_cons.2 ⟨fun b hb => ?_, List.pairwise_singleton _ _⟩
        rw [List.mem_singleton] at hb; subst hb
        show x - 1 + 1 < x + 1; omega
      · simp only [List.mem_cons, List.not_mem_nil, or_false] at hp
        rcases hp with rfl | rfl
        · show r.1 ≤ r.1 ∧ x - 1 ≤ r.2; omega
        · show r.1 ≤ x + 1 ∧ r.2 ≤ r.2; omega
      · rw [show [(r.1, x - 1), (x + 1, r.2)] = [(r.1, x - 1)] ++ [(x + 1, r.2)] from rfl, mem_app, mem_one, mem_one]
        show (r.1 ≤ y ∧ y ≤ x - 1) ∨ (x + 1 ≤ y ∧ y ≤ r.2) ↔ _
        omega

theorem remL_eq (L : List (Nat × Nat)) (i x : Nat) (hi : i < L.length) : remL L i x = L.take i ++ (pieces (fst L i, lst L i) x ++ L.drop (i + 1)) := by
  have hs : ∀ r, L.set i r = L.take i ++ r :: L.drop (i + 1) := fun r => by rw [List.set_eq_take_append_cons_drop, if_pos hi]
  have hl : (L.take i).length = i := by rw [List.length_take]; omega
  unfold remL pieces
  by_cases e1 : fst L i = x
  · by_cases e2 : lst L i = x
    · simp only [e1, e2, and_self, if_true, List.nil_append]
    · have n1 : ¬ (fst L i = x ∧ lst L i = x) := fun h => e2 h.2
      simp only [if_neg n1, if_pos e1]
      rw [hs]; rfl
  · have n1 : ¬ (fst L i = x ∧ lst L i = x) := fun h => e1 h.1
    by_cases e2 : lst L i = x
    · simp only [if_neg n1, if_neg e1, if_pos e2]
      rw [hs]; rfl
    · simp only [if_neg n1, if_neg e1, if_neg e2]
      rw [hs]
      generalize L.take i = A at hl
      generalize L.drop (i + 1) = B
      subst hl
      rw [List.take_length_add_append, List.drop_length_add_append]
      simp

/-- remove: the runs stay good; x is out, all else stays. -/
theorem rem_plain (L : List (Nat × Nat)) (i x : Nat) (hL : Good L) (hi : i < L.length) (h1 : fst L i ≤ x) (h2 : x ≤ lst L i) : Good (remL L i x) ∧ ∀ y, Mem y (remL L i x) ↔ Mem y L ∧ y ≠ x := by
  have hat := getD_at hi
  have e := split_at hat
  obtain ⟨g1, g2, g3⟩ := pieces_good (r := (fst L i, lst L i)) h1 h2
  rw [remL_eq L i x hi]
  have hL2 : Good (L.take i ++ (fst L i, lst L i) :: L.drop (i + 1)) := by rw [← e]; exact hL
  refine ⟨hL2.swap g1 g2, fun y => ?_⟩
  have hm : Mem y L ↔ Mem y (L.take i) ∨ (fst L i ≤ y ∧ y ≤ lst L i) ∨ Mem y (L.drop (i + 1)) := by
    conv => lhs; rw [e]
    rw [show (fst L i, lst L i) :: L.drop (i + 1) = [(fst L i, lst L i)] ++ L.drop (i + 1) from rfl, mem_app, mem_app, mem_one]
  rw [mem_app, mem_app, g3, hm]
  obtain ⟨_, p2⟩ := hL2
  obtain ⟨pA, pB, pc⟩ := List.pairwise_append.1 p2
  obtain ⟨pr, _⟩ := List.pairwise_cons.1 pB
  constructor
  · rintro (⟨r, hr, hy⟩ | ⟨hy, hne⟩ | ⟨r, hr, hy⟩)
    · have := pc r hr (fst L i, lst L i) (by simp)
      simp only at this
      exact ⟨.inl ⟨r, hr, hy⟩, by omega⟩
    · exact ⟨.inr (.inl hy), hne⟩
    · have := pr r hr
      simp only at this
      exact ⟨.inr (.inr ⟨r, hr, hy⟩), by omega⟩
  · rintro ⟨h | h | h, hne⟩
    · exact .inl h
    · exact .inr (.inl ⟨h, hne⟩)
    · exact .inr (.inr h)

end Go.Proofs.Ybulkdlic
