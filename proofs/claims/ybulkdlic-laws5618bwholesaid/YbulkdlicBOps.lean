/-
  DERIVED. alloc.LawS5618BWhole: Take, Borrow, Grant: the pool's state is kept.
-/
import Derived.Test.YbulkdlicBPool
namespace Go.Proofs.Ybulkdlic
open Go.RowKit

attribute [local go_sem ↓] Go.wp_at_zero Go.wp_at_succ

/-- What an operation of the pool leaves: all below M, and every row of another type. -/
structure PK (M : Nat) (w w' : World) : Prop where
  os : w'.os = w.os
  tape : w'.tape = w.tape
  output : w'.output = w.output
  size : w.heap.size ≤ w'.heap.size
  block : ∀ j, j < w.heap.size → (j < M ∨ M + 4 ≤ j ∧ ∃ cur e fr, w.heap[j]? = some (.cells cur e fr) ∧ e ≠ 31) → w'.heap[j]? = w.heap[j]?

structure Inv (n : Nat) (rev : Bool) (F Z : Nat → Nat) (LL : Nat → List (Nat × Nat)) (cc : Nat → Nat) (h : List UInt8 → Option Nat) (g : Nat → Bool) : Prop where
  good : ∀ t, t < n → Good (LL t)
  wi : ∀ t, t < n → ∀ r ∈ LL t, F (pr rev n t) ≤ r.1 ∧ r.2 ≤ Z (pr rev n t)
  ct : ∀ t, t < n → cc t = cntL (LL t)
  held : ∀ s x, h s = some x → x < 18446744073709551616 ∧ (g x = true ∨ ∃ t, t < n ∧ F (pr rev n t) ≤ x ∧ x ≤ Z (pr rev n t) ∧ ¬ Mem x (LL t))

def PI (M n : Nat) (rev : Bool) (F Z : Nat → Nat) (pb : Option Addr) (cap BB sz k : Nat) (w : World) : Prop :=
  ∃ LL cc vv h hs g gs, PS M n rev F Z pb cap BB k LL cc vv h hs g gs sz w ∧ Inv n rev F Z LL cc h g

section
variable {M n : Nat} {rev : Bool} {F Z : Nat → Nat} {pb : Option Addr} {cap BB k : Nat} {LL : Nat → List (Nat × Nat)} {cc : Nat → Nat} {vv : Nat → Value} {h : List UInt8 → Option Nat} {hs : Nat} {g : Nat → Bool} {gs sz : Nat} {w w' w'' : World}

theorem PK.refl (M : Nat) (w : World) : PK M w w := ⟨rfl, rfl, rfl, Nat.le_refl _, fun _ _ _ => rfl⟩
theorem PK.trans (h1 : PK M w w') (h2 : PK M w' w'') : PK M w w'' :=
  ⟨h2.os.trans h1.os, h2.tape.trans h1.tape, h2.output.trans h1.output, Nat.le_trans h1.size h2.size, fun j hj hc => by
    have e := h1.block j hj hc
    exact (h2.block j (Nat.lt_of_lt_of_le hj h1.size) (hc.imp id fun ⟨a, b⟩ => ⟨a, by rw [e]; exact b⟩)).trans e⟩
theorem PK.of_below (hb : Below w.heap.size w w') : PK M w w' := ⟨hb.os, hb.tape, hb.output, hb.size, fun j hj _ => hb.block j hj⟩
theorem PK.below (hk : PK M w w') (hM : M ≤ w.heap.size) : Below M w w' := ⟨hk.os, hk.tape, hk.output, hk.size, fun j hj => hk.block j (by omega) (.inl hj)⟩
theorem PK.of_maps {b : Nat} (hb : b = M ∨ b = M + 1) (hg : w.grownBy w' (some b)) : PK M w w' :=
  ⟨hg.os, hg.tape, hg.output, hg.size, fun j hj hc => hg.block j hj (fun e => by cases e; rcases hc with hc | hc <;> omega)⟩
theorem own31 {w : World} {base n x : Nat} {v : Value} {xs : List Value} (h : w.ownsRow base 31 4 v n xs) (e : v.ownBlock = some x) : ∃ cur, w.heap[x]? = some (.cells cur 31 (0, 0)) := by
  rcases h.2 with ⟨rfl, _⟩ | ⟨g, cap, cur, rfl, _, h3, _⟩
  · cases e
  · cases e
    exact ⟨_, h3⟩
theorem PK.of_fu {t : Nat} {v' : Value} {L : List (Nat × Nat)} {c : Nat} {v : Value} (f : FS (M + 4) (M + 2) (t * 7 + 4) L c v w) (u : FU (M + 2) (t * 7 + 4) v w w' v') : PK M w w' :=
  ⟨u.os, u.tape, u.output, u.size, fun j hj hc => u.block j hj (by omega) (fun e => by
    rcases hc with hc | ⟨hc, cur, ty, fr, hb, hne⟩
    · have := (f.own.lt j e.symm).1; omega
    · obtain ⟨cur', hb'⟩ := own31 f.own e.symm
      rw [hb] at hb'
      cases hb'
      exact hne rfl)⟩

theorem PS.tier_hit (G : Geo n F Z) (P : PS M n rev F Z pb cap BB k LL cc vv h hs g gs sz w) (x : Nat) {t : Nat} (ht : t < n) (h1 : F (pr rev n t) ≤ x) (h2 : x ≤ Z (pr rev n t)) :
    Calls Yba.prog 30 #[.pointer (some ⟨M + 3, 0, none⟩), .agg #[.int .u64 0, .int .u64 (x : Int)]] w fun e w' => e = .returned (.tuple #[.pointer (some ⟨M + 2, t * 7, none⟩), .bool true]) ∧ Below w.heap.size w w' := by
  refine (P.tierOf G x).mono ?_
  rintro e w' ⟨⟨s, hs, h3, h4, rfl⟩ | ⟨hno, _⟩, hb⟩
  · refine ⟨?_, hb⟩
    have : pr rev n s = pr rev n t := by
      have a1 := pr_lt' rev hs
      have a2 := pr_lt' rev ht
      rcases Nat.lt_trichotomy (pr rev n s) (pr rev n t) with e | e | e
      · have := G.sep _ _ e a2; omega
      · exact e
      · have := G.sep _ _ e a1; omega
    have e2 : s = t := by rw [← pr_pr' rev hs, this, pr_pr' rev ht]
    rw [e2]
  · exact (hno t ht ⟨h1, h2⟩).elim
theorem PS.tier_miss (G : Geo n F Z) (P : PS M n rev F Z pb cap BB k LL cc vv h hs g gs sz w) (x : Nat) (hx : ∀ t, t < n → ¬ (F (pr rev n t) ≤ x ∧ x ≤ Z (pr rev n t))) :
    Calls Yba.prog 30 #[.pointer (some ⟨M + 3, 0, none⟩), .agg #[.int .u64 0, .int .u64 (x : Int)]] w fun e w' => e = .returned (.tuple #[.pointer none, .bool false]) ∧ Below w.heap.size w w' := by
  refine (P.tierOf G x).mono ?_
  rintro e w' ⟨⟨s, hs, h3, h4, rfl⟩ | ⟨hno, rfl⟩, hb⟩
  · exact (hx s hs ⟨h3, h4⟩).elim
  · exact ⟨rfl, hb⟩

/-- The free set without x. -/
theorem remove_yes {base FB fo c : Nat} {L : List (Nat × Nat)} {v : Value} {w : World} (f : FS base FB fo L c v w) (hG : Good L) (hb : ∀ r ∈ L, r.2 + 1 < 18446744073709551616) (hc : c = cntL L) (hlen : cntL L ≤ 65000) {x : Nat} (hx : Mem x L) :
    Calls Yba.prog 31 #[.pointer (some ⟨FB, fo, none⟩), .agg #[.int .u64 0, .int .u64 (x : Int)]] w fun e w' => e = .returned (.bool true) ∧ ∃ L' v', FS base FB fo L' (cntL L') v' w' ∧ FU FB fo v w w' v' ∧ Good L' ∧ ∀ y, Mem y L' ↔ Mem y L ∧ y ≠ x := by
  obtain ⟨i, h1, h2, h3⟩ := hG.pos x
  obtain ⟨h4, h5⟩ := (mem_pos hG h2 h3).1 hx
  have hcnt := cnt_rem L i x h4 h5 (h3 i (Nat.le_refl _) h4)
  obtain ⟨g1, g2⟩ := rem_plain L i x hG h4 h5 (h3 i (Nat.le_refl _) h4)
  have hle := cntL_len L hG
  refine (remove_hit base FB fo i x L c v w (by omega) f h2 h3 hb h4 h5 (by omega) (by omega)).mono ?_
  rintro e w' ⟨rfl, v', f', u⟩
  exact ⟨rfl, _, v', by rw [show cntL (remL L i x) = c - 1 by omega]; exact f', u, g1, g2⟩
theorem remove_no {base FB fo c : Nat} {L : List (Nat × Nat)} {v : Value} {w : World} (f : FS base FB fo L c v w) (hG : Good L) (hlen : cntL L ≤ 65000) {x : Nat} (hx : ¬ Mem x L) :
    Calls Yba.prog 31 #[.pointer (some ⟨FB, fo, none⟩), .agg #[.int .u64 0, .int .u64 (x : Int)]] w fun e w' => e = .returned (.bool false) ∧ Below w.heap.size w w' := by
  obtain ⟨i, h1, h2, h3⟩ := hG.pos x
  have hle := cntL_len L hG
  by_cases e : i = L.length
  · exact remove_end base FB fo i x L c v w (by omega) f h2 h3 e
  · exact remove_miss base FB fo i x L c v w (by omega) f h2 h3 (by omega) (Nat.lt_of_not_le fun h5 => hx ((mem_pos hG h2 h3).2 ⟨by omega, h5⟩))

theorem Inv.len (G : Geo n F Z) (I : Inv n rev F Z LL cc h g) {t : Nat} (ht : t < n) : cntL (LL t) ≤ 256 := by
  have := G.fz _ (pr_lt' rev ht)
  have := cntL_le (Z (pr rev n t)) (F (pr rev n t)) (LL t) (I.good t ht) (I.wi t ht) (by omega)
  omega
theorem Inv.bd (G : Geo n F Z) (I : Inv n rev F Z LL cc h g) {t : Nat} (ht : t < n) : ∀ r ∈ LL t, r.2 + 1 < 18446744073709551616 := fun r hr => by
  have := G.fz _ (pr_lt' rev ht)
  have := I.wi t ht r hr
  omega
/-- x leaves tier t and is held by s. -/
theorem Inv.take (G : Geo n F Z) (I : Inv n rev F Z LL cc h g) {t x : Nat} (ht : t < n) (h1 : F (pr rev n t) ≤ x) (h2 : x ≤ Z (pr rev n t)) {L' : List (Nat × Nat)} (hG : Good L') (hm : ∀ y, Mem y L' ↔ Mem y (LL t) ∧ y ≠ x) (s : List UInt8) :
    Inv n rev F Z (updL LL t L') (updL cc t (cntL L')) (updH h s (some x)) g := by
  refine ⟨fun r hr => ?_, fun r hr => ?_, fun r hr => ?_, fun u y hu => ?_⟩
  · by_cases e : r = t
    · subst e; rw [updL_same]; exact hG
    · rw [updL_other e]; exact I.good r hr
  · by_cases e : r = t
    · subst e; rw [updL_same]; exact within_of_mem (I.wi r hr) hG (fun y hy => ((hm y).1 hy).1)
    · rw [updL_other e]; exact I.wi r hr
  · by_cases e : r = t
    · subst e; rw [updL_same, updL_same]
    · rw [updL_other e, updL_other e]; exact I.ct r hr
  · have sub : ∀ r y, r < n → ¬ Mem y (LL r) → ¬ Mem y (updL LL t L' r) := fun r y hr hy => by
      by_cases e : r = t
      · subst e; rw [updL_same]; exact fun hq => hy ((hm y).1 hq).1
      · rw [updL_other e]; exact hy
    unfold updH at hu
    by_cases e : u = s
    · rw [if_pos e] at hu
      cases hu
      have := G.fz _ (pr_lt' rev ht)
      exact ⟨by omega, .inr ⟨t, ht, h1, h2, by rw [updL_same]; exact fun hq => ((hm x).1 hq).2 rfl⟩⟩
    · rw [if_neg e] at hu
      obtain ⟨a, b⟩ := I.held u y hu
      refine ⟨a, b.imp id ?_⟩
      rintro ⟨r, hr, q1, q2, q3⟩
      exact ⟨r, hr, q1, q2, sub r y hr q3⟩
theorem Inv.borrow (I : Inv n rev F Z LL cc h g) {x : Nat} (hx : x < 18446744073709551616) (s : List UInt8) : Inv n rev F Z LL cc (updH h s (some x)) (updB g x true) := by
  refine ⟨I.good, I.wi, I.ct, fun u y hu => ?_⟩
  unfold updH at hu
  by_cases e : u = s
  · rw [if_pos e] at hu
    cases hu
    exact ⟨hx, .inl (by simp [updB])⟩
  · rw [if_neg e] at hu
    obtain ⟨a, b⟩ := I.held u y hu
    refine ⟨a, b.imp (fun hy => ?_) id⟩
    unfold updB
    split
    · rfl
    · exact hy
end

end Go.Proofs.Ybulkdlic
