/-
  DERIVED. alloc.LawS5618BWhole: A FREE SET IN MEMORY: what it is, what a change of it leaves; join.
-/
import Derived.Test.YbulkdlicBDel
import Derived.Test.YbulkdlicBFind
namespace Go.Proofs.Ybulkdlic
open Go.RowKit

/-- The free set at FB, fo: the runs' slice v, its row L, the count c. -/
structure FS (base FB fo : Nat) (L : List (Nat × Nat)) (c : Nat) (v : Value) (w : World) : Prop where
  run : w.cell? ⟨FB, fo, none⟩ = some v
  chi : w.cell? ⟨FB, fo + 1, none⟩ = some (.int .u64 0)
  clo : w.cell? ⟨FB, fo + 2, none⟩ = some (.int .u64 (c : Int))
  fro : ∀ i, w.frozen? ⟨FB, i, none⟩ = false
  own : w.ownsRow base 31 4 v L.length (flat L)
  lt : FB < base
  bs : base ≤ w.heap.size

/-- What a change of the free set leaves. -/
structure FU (FB fo : Nat) (v : Value) (w w' : World) (v' : Value) : Prop where
  os : w'.os = w.os
  tape : w'.tape = w.tape
  output : w'.output = w.output
  size : w.heap.size ≤ w'.heap.size
  block : ∀ k, k < w.heap.size → k ≠ FB → some k ≠ v.ownBlock → w'.heap[k]? = w.heap[k]?
  cell : ∀ o, o ≠ fo → o ≠ fo + 1 → o ≠ fo + 2 → w'.cell? ⟨FB, o, none⟩ = w.cell? ⟨FB, o, none⟩
  fro : ∀ o, w'.frozen? ⟨FB, o, none⟩ = w.frozen? ⟨FB, o, none⟩
  at_ : v'.ownBlock = v.ownBlock ∨ ∃ g, v'.ownBlock = some g ∧ w.heap.size ≤ g

theorem FU.of_grown {FB fo : Nat} {v v' : Value} {w w' : World} (h : w.grownBy w' v.ownBlock) (hF : FB < w.heap.size) (hne : some FB ≠ v.ownBlock) (hat : v'.ownBlock = v.ownBlock ∨ ∃ g, v'.ownBlock = some g ∧ w.heap.size ≤ g) : FU FB fo v w w' v' :=
  ⟨h.os, h.tape, h.output, h.size, fun k hk _ hn => h.block k hk hn, fun _ _ _ _ => World.cell?_of_block (w := w) (h.block FB hF hne), fun _ => World.frozen?_of_block (w := w) (h.block FB hF hne), hat⟩
theorem FU.of_below {FB fo : Nat} {v : Value} {w w' : World} (h : Below w.heap.size w w') (hF : FB < w.heap.size) : FU FB fo v w w' v :=
  ⟨h.os, h.tape, h.output, h.size, fun k hk _ _ => h.block k hk, fun _ _ _ _ => World.cell?_of_block (w := w) (h.block FB hF), fun _ => World.frozen?_of_block (w := w) (h.block FB hF), .inl rfl⟩
theorem FU.trans {FB fo : Nat} {v v' v'' : Value} {w w' w'' : World} (h : FU FB fo v w w' v') (k : FU FB fo v' w' w'' v'') : FU FB fo v w w'' v'' := by
  refine ⟨k.os.trans h.os, k.tape.trans h.tape, k.output.trans h.output, Nat.le_trans h.size k.size, fun b hb h1 h2 => ?_, fun o h1 h2 h3 => (k.cell o h1 h2 h3).trans (h.cell o h1 h2 h3), fun o => (k.fro o).trans (h.fro o), ?_⟩
  · refine (k.block b (Nat.lt_of_lt_of_le hb h.size) h1 (fun e => ?_)).trans (h.block b hb h1 h2)
    rcases h.at_ with h3 | ⟨g, h3, h4⟩
    · exact h2 (e.trans h3)
    · have : some b = some g := e.trans h3
      cases this
      omega
  · rcases k.at_ with h3 | ⟨g, h3, h4⟩
    · rcases h.at_ with h5 | ⟨g, h5, h6⟩
      · exact .inl (h3.trans h5)
      · exact .inr ⟨g, h3.trans h5, h6⟩
    · exact .inr ⟨g, h3, Nat.le_trans h.size h4⟩
/-- A store into one of the set's own cells. -/
theorem FU.store {FB fo : Nat} {v : Value} {w : World} (d : Nat) (hd : d < 3) (u : Value) : FU FB fo v w (w.setCell ⟨FB, fo + d, none⟩ u) v :=
  ⟨rfl, rfl, rfl, by simp, fun k _ hk _ => Below.heap_setCell _ _ _ _ hk, fun o h1 h2 h3 => World.cell?_setCell_other _ _ _ _ (fun e => by cases e; omega), fun o => World.frozen?_setCell _ _ _ _, .inl rfl⟩

theorem FS.ne {base FB fo : Nat} {L : List (Nat × Nat)} {c : Nat} {v : Value} {w : World} (h : FS base FB fo L c v w) : some FB ≠ v.ownBlock := by
  rcases h.own.2 with ⟨rfl, _⟩ | ⟨g, cap, cur, rfl, h1, _⟩
  · simp [Value.ownBlock]
  · have := h.lt
    intro e
    simp [Value.ownBlock] at e
    omega
theorem FS.lt' {base FB fo : Nat} {L : List (Nat × Nat)} {c : Nat} {v : Value} {w : World} (h : FS base FB fo L c v w) : FB < w.heap.size := Nat.lt_of_lt_of_le h.lt h.bs
theorem FS.below {base FB fo : Nat} {L : List (Nat × Nat)} {c : Nat} {v : Value} {w w' : World} (h : FS base FB fo L c v w) (hb : Below w.heap.size w w') : FS base FB fo L c v w' :=
  ⟨cell_below h.run hb, cell_below h.chi hb, cell_below h.clo hb, fun i => (hb.frozen (p := ⟨FB, i, none⟩) h.lt').trans (h.fro i), h.own.kept ⟨hb.os, hb.tape, hb.output, hb.size, fun k hk _ => hb.block k hk⟩ (row := none) (by cases v.ownBlock <;> simp), h.lt, Nat.le_trans h.bs hb.size⟩
/-- The row changed, the set's own cells not yet. -/
theorem FS.row {base FB fo : Nat} {L G : List (Nat × Nat)} {c : Nat} {v v' : Value} {w w' : World} (h : FS base FB fo L c v w) (hr : RPost base v G w w' v') :
    FS base FB fo G c v' (w'.setCell ⟨FB, fo, none⟩ v') ∧ FU FB fo v w (w'.setCell ⟨FB, fo, none⟩ v') v' ∧ w'.cell? ⟨FB, fo, none⟩ = some v ∧ (∀ i, w'.frozen? ⟨FB, i, none⟩ = false) := by
  have hb := hr.grown.block FB h.lt' h.ne
  have hc : ∀ o, w'.cell? ⟨FB, o, none⟩ = w.cell? ⟨FB, o, none⟩ := fun o => World.cell?_of_block (w := w) hb
  have hf : ∀ o, w'.frozen? ⟨FB, o, none⟩ = false := fun o => (World.frozen?_of_block (w := w) hb).trans (h.fro o)
  refine ⟨⟨World.cell?_setCell_same' _ _ _ (by rw [hc, h.run]; rfl), ?_, ?_, fun i => by rw [World.frozen?_setCell]; exact hf i, ownsRow_setCell_below hr.own (show FB < base from h.lt) _, h.lt, ?_⟩, ?_, (hc fo).trans h.run, hf⟩
  · rw [World.cell?_setCell_other _ _ _ _ (by simp), hc]; exact h.chi
  · rw [World.cell?_setCell_other _ _ _ _ (by simp), hc]; exact h.clo
  · simp; exact Nat.le_trans h.bs hr.grown.size
  · exact (FU.of_grown (fo := fo) hr.grown h.lt' h.ne hr.at_).trans (FU.store (v := v') 0 (by omega) v')

/-- Join of run i and the next. -/
def joinAt : Nat → List (Nat × Nat) → List (Nat × Nat)
  | 0, a :: b :: t => if a.2 + 1 = b.1 then (a.1, b.2) :: t else a :: b :: t
  | 0, l => l
  | i + 1, a :: t => a :: joinAt i t
  | _ + 1, [] => []
theorem joinAt_short : ∀ (i : Nat) (L : List (Nat × Nat)), L.length ≤ i + 1 → joinAt i L = L
  | 0, [], _ => rfl
  | 0, [_], _ => rfl
  | 0, _ :: _ :: _, h => by simp at h
  | i + 1, [], _ => rfl
  | i + 1, a :: t, h => by rw [joinAt, joinAt_short i t (by simpa using h)]
theorem joinAt_no : ∀ (i : Nat) (L : List (Nat × Nat)) (a b : Nat × Nat), L[i]? = some a → L[i + 1]? = some b → a.2 + 1 ≠ b.1 → joinAt i L = L
  | 0, a' :: b' :: t, a, b, h1, h2, h3 => by simp at h1 h2; subst h1 h2; rw [joinAt, if_neg h3]
  | i + 1, c :: t, a, b, h1, h2, h3 => by rw [joinAt, joinAt_no i t a b (by simpa using h1) (by simpa using h2) h3]
theorem joinAt_yes : ∀ (i : Nat) (L : List (Nat × Nat)) (a b : Nat × Nat), L[i]? = some a → L[i + 1]? = some b → a.2 + 1 = b.1 → joinAt i L = (L.set i (a.1, b.2)).take (i + 1) ++ (L.set i (a.1, b.2)).drop (i + 2)
  | 0, a' :: b' :: t, a, b, h1, h2, h3 => by simp at h1 h2; subst h1 h2; rw [joinAt, if_pos h3]; simp
  | i + 1, c :: t, a, b, h1, h2, h3 => by rw [joinAt, joinAt_yes i t a b (by simpa using h1) (by simpa using h2) h3]; simp

/-- A store into a row that is owned. -/
theorem own_setCells {w : World} {base g cap n o : Nat} {G vs : List Value} (h : w.ownsRow base 31 4 (.slice (some ⟨g, 0, none⟩) n cap) n G) (hv : o + vs.length ≤ n * 4) :
    (w.setCells g o vs).ownsRow base 31 4 (.slice (some ⟨g, 0, none⟩) n cap) n (G.take o ++ vs ++ G.drop (o + vs.length)) := by
  obtain ⟨h0, h⟩ := h
  rcases h with ⟨h1, _⟩ | ⟨g', cap', cur, h1, h2, h3, h4, h5, h6, h7⟩
  · cases h1
  · cases h1
    obtain ⟨c1, hc1, hs1⟩ := heap_setCells_shape vs o w cur h3
    have hcell : ∀ j v, G[j]? = some v → w.cell? ⟨g, j, none⟩ = some v := fun j v hj => by
      have hlt : j < n * 4 := by have := (List.getElem?_eq_some_iff.1 hj).1; omega
      rw [← h7, List.getElem?_take_of_lt hlt] at hj
      simpa [World.cell?, h3] using hj
    have hsome : ∀ j, j < cap * 4 → (w.cell? ⟨g, j, none⟩).isSome = true := fun j hj => by simp [World.cell?, h3, h6, hj]
    refine owns_of_cells h2 hc1 h4 h5 (by rw [hs1, h6]) (by simp; omega) (fun j v hj => ?_)
    have ht : (G.take o).length = o := by simp; omega
    by_cases h8 : j < o
    · rw [List.append_assoc, List.getElem?_append_left (by omega), List.getElem?_take_of_lt h8] at hj
      exact cells_after (fun j hj => hsome _ (by omega)) (.inr ⟨.inl h8, hcell j v hj⟩)
    · by_cases h9 : j < o + vs.length
      · rw [List.append_assoc, List.getElem?_append_right (by omega), ht, List.getElem?_append_left (by omega)] at hj
        exact cells_after (fun j hj => hsome _ (by omega)) (.inl ⟨by omega, hj⟩)
      · rw [List.getElem?_append_right (by simp; omega), List.length_append, ht, List.getElem?_drop] at hj
        refine cells_after (fun j hj => hsome _ (by omega)) (.inr ⟨.inr (by omega), hcell j v ?_⟩)
        rw [← hj]
        congr 1
        omega

theorem split_at {L : List (Nat × Nat)} {i : Nat} {a : Nat × Nat} (h : L[i]? = some a) : L = L.take i ++ a :: L.drop (i + 1) := by
  obtain ⟨h1, h2⟩ := List.getElem?_eq_some_iff.1 h
  rw [← h2]
  exact (List.take_append_drop i L).symm.trans (by rw [List.drop_eq_getElem_cons h1])
theorem flat_set_last {L : List (Nat × Nat)} {i : Nat} {a : Nat × Nat} (h : L[i]? = some a) (x : Nat) : (flat L).take (i * 4 + 2) ++ [.int .u64 0, .int .u64 (x : Int)] ++ (flat L).drop (i * 4 + 2 + 2) = flat (L.set i (a.1, x)) := by
  have h1 := (List.getElem?_eq_some_iff.1 h).1
  have e := split_at h
  have hl : (flat (L.take i)).length = i * 4 := by rw [flat_length, List.length_take]; omega
  have hs : L.set i (a.1, x) = L.take i ++ (a.1, x) :: L.drop (i + 1) := by rw [List.set_eq_take_append_cons_drop, if_pos h1]
  rw [hs, flat_append, flat_cons]
  have ef : flat L = flat (L.take i) ++ (rc a ++ flat (L.drop (i + 1))) := by conv => lhs; rw [e]
                                                                              rw [flat_append, flat_cons]
  rw [ef]
  generalize flat (L.take i) = A at hl
  generalize flat (L.drop (i + 1)) = B
  rw [← hl, List.take_length_add_append, Nat.add_assoc, List.drop_length_add_append]
  simp [rc]
theorem flat_set_first {L : List (Nat × Nat)} {i : Nat} {a : Nat × Nat} (h : L[i]? = some a) (x : Nat) : (flat L).take (i * 4) ++ [.int .u64 0, .int .u64 (x : Int)] ++ (flat L).drop (i * 4 + 2) = flat (L.set i (x, a.2)) := by
  have h1 := (List.getElem?_eq_some_iff.1 h).1
  have e := split_at h
  have hl : (flat (L.take i)).length = i * 4 := by rw [flat_length, List.length_take]; omega
  have hs : L.set i (x, a.2) = L.take i ++ (x, a.2) :: L.drop (i + 1) := by rw [List.set_eq_take_append_cons_drop, if_pos h1]
  rw [hs, flat_append, flat_cons]
  have ef : flat L = flat (L.take i) ++ (rc a ++ flat (L.drop (i + 1))) := by conv => lhs; rw [e]
                                                                              rw [flat_append, flat_cons]
  rw [ef]
  generalize flat (L.take i) = A at hl
  generalize flat (L.drop (i + 1)) = B
  rw [← hl, List.take_left, List.drop_length_add_append]
  simp [rc]

/-- The runs' cells, as the walks read them. -/
theorem own_cells {w : World} {base g cap n : Nat} {L : List (Nat × Nat)} (h : w.ownsRow base 31 4 (.slice (some ⟨g, 0, none⟩) n cap) n (flat L)) {i : Nat} {a : Nat × Nat} (ha : L[i]? = some a) :
    w.cell? ⟨g, i * 4, none⟩ = some (.int .u64 0) ∧ w.cell? ⟨g, i * 4 + 1, none⟩ = some (.int .u64 (a.1 : Int)) ∧ w.cell? ⟨g, i * 4 + 2, none⟩ = some (.int .u64 0) ∧ w.cell? ⟨g, i * 4 + 3, none⟩ = some (.int .u64 (a.2 : Int)) := by
  have key : ∀ d v, d < 4 → (rc a)[d]? = some v → w.cell? ⟨g, i * 4 + d, none⟩ = some v := fun d v hd hv => by
    have hlt := (List.getElem?_eq_some_iff.1 ha).1
    have hn : L.length = n := by have := h.1; rw [flat_length] at this; omega
    rw [h.cellAt (i * 4 + d) (by omega), flat4_at ha hd]
    exact hv
  exact ⟨key 0 _ (by omega) rfl, key 1 _ (by omega) rfl, key 2 _ (by omega) rfl, key 3 _ (by omega) rfl⟩
theorem own_frozen {w : World} {base g cap n : Nat} {G : List Value} (h : w.ownsRow base 31 4 (.slice (some ⟨g, 0, none⟩) n cap) n G) : ∀ i, w.frozen? ⟨g, i, none⟩ = false := by
  rcases h.2 with ⟨h1, _⟩ | ⟨g', cap', cur, h1, h2, h3, _⟩
  · cases h1
  · cases h1
    intro i
    simp [World.frozen?, h3]

theorem own_form {w : World} {base n : Nat} {v : Value} {G : List Value} (h : w.ownsRow base 31 4 v n G) : ∃ p cp, v = .slice p n cp := by
  rcases h.2 with ⟨rfl, h0⟩ | ⟨g, cp, _, rfl, _⟩
  · exact ⟨none, 0, by rw [h0]⟩
  · exact ⟨_, _, rfl⟩

/-- Two cells of a run set. -/
theorem FS.set_row {base FB fo g n cp o : Nat} {L G : List (Nat × Nat)} {c : Nat} {w : World} (h : FS base FB fo L c (.slice (some ⟨g, 0, none⟩) n cp) w) (hn : L.length = n) (hG : G.length = n) (u u' : Value) (ho : o + 2 ≤ n * 4)
    (hf : (flat L).take o ++ [u, u'] ++ (flat L).drop (o + 2) = flat G) :
    FS base FB fo G c (.slice (some ⟨g, 0, none⟩) n cp) ((w.setCell ⟨g, o, none⟩ u).setCell ⟨g, o + 1, none⟩ u') ∧ FU FB fo (.slice (some ⟨g, 0, none⟩) n cp) w ((w.setCell ⟨g, o, none⟩ u).setCell ⟨g, o + 1, none⟩ u') (.slice (some ⟨g, 0, none⟩) n cp) := by
  have hown := h.own
  rw [hn] at hown
  have h1 := own_setCells hown (o := o) (vs := [u, u']) ho
  have hne : g ≠ FB := fun e => h.ne (by rw [← e]; rfl)
  have hg : w.grownBy (w.setCells g o [u, u']) (some g) := grown_setCells w g o [u, u']
  have e : w.setCells g o [u, u'] = (w.setCell ⟨g, o, none⟩ u).setCell ⟨g, o + 1, none⟩ u' := rfl
  rw [e] at h1 hg
  have hu := FU.of_grown (FB := FB) (fo := fo) (v := .slice (some ⟨g, 0, none⟩) n cp) (v' := .slice (some ⟨g, 0, none⟩) n cp) hg h.lt' h.ne (.inl rfl)
  have hb := hg.block FB h.lt' (by simpa using fun e => hne e.symm)
  refine ⟨⟨(World.cell?_of_block (w := w) hb).trans h.run, (World.cell?_of_block (w := w) hb).trans h.chi, (World.cell?_of_block (w := w) hb).trans h.clo, fun i => (World.frozen?_of_block (w := w) hb).trans (h.fro i), ?_, h.lt, Nat.le_trans h.bs hg.size⟩, hu⟩
  rw [hG, ← hf]
  exact h1
theorem FS.set_last {base FB fo g n cp i : Nat} {L : List (Nat × Nat)} {c : Nat} {w : World} {a : Nat × Nat} (h : FS base FB fo L c (.slice (some ⟨g, 0, none⟩) n cp) w) (hn : L.length = n) (ha : L[i]? = some a) (x : Nat) :
    FS base FB fo (L.set i (a.1, x)) c (.slice (some ⟨g, 0, none⟩) n cp) ((w.setCell ⟨g, i * 4 + 2, none⟩ (.int .u64 0)).setCell ⟨g, i * 4 + 3, none⟩ (.int .u64 (x : Int))) ∧ FU FB fo (.slice (some ⟨g, 0, none⟩) n cp) w ((w.setCell ⟨g, i * 4 + 2, none⟩ (.int .u64 0)).setCell ⟨g, i * 4 + 3, none⟩ (.int .u64 (x : Int))) (.slice (some ⟨g, 0, none⟩) n cp) :=
  h.set_row hn (by simpa using hn) _ _ (by have := (List.getElem?_eq_some_iff.1 ha).1; omega) (flat_set_last ha x)
theorem FS.set_first {base FB fo g n cp i : Nat} {L : List (Nat × Nat)} {c : Nat} {w : World} {a : Nat × Nat} (h : FS base FB fo L c (.slice (some ⟨g, 0, none⟩) n cp) w) (hn : L.length = n) (ha : L[i]? = some a) (x : Nat) :
    FS base FB fo (L.set i (x, a.2)) c (.slice (some ⟨g, 0, none⟩) n cp) ((w.setCell ⟨g, i * 4, none⟩ (.int .u64 0)).setCell ⟨g, i * 4 + 1, none⟩ (.int .u64 (x : Int))) ∧ FU FB fo (.slice (some ⟨g, 0, none⟩) n cp) w ((w.setCell ⟨g, i * 4, none⟩ (.int .u64 0)).setCell ⟨g, i * 4 + 1, none⟩ (.int .u64 (x : Int))) (.slice (some ⟨g, 0, none⟩) n cp) :=
  h.set_row hn (by simpa using hn) _ _ (by have := (List.getElem?_eq_some_iff.1 ha).1; omega) (flat_set_first ha x)

end Go.Proofs.Ybulkdlic
