/-
  DERIVED. alloc.LawS5618AWhole: WHAT STANDS FROM THE THIRD LOOP ON.
-/
import Derived.Test.YbulkdlicState
namespace Go.Proofs.Ybulkdlic
open Go.RowKit Go.Shelf

/-- What stands fixed behind New: N the heap's size where the law began, M where its boxes p, r, wantIdx, wantPart begin. -/
structure CB (w : World) (n : Nat) (rev : Bool) (h : Int) (gap ln : Nat → Nat) (pb : Option Addr) (cap BB M : Nat) (th tl uh ul : Int) (wr : World) : Prop where
  brev : wr.cell? ⟨w.heap.size, 0, none⟩ = some (.bool rev)
  bn : wr.cell? ⟨w.heap.size + 1, 0, none⟩ = some (.int .i64 (n : Int))
  sorted : ∀ i c, i < n → c < 4 → wr.cell? ⟨w.heap.size + 2, i * 4 + c, none⟩ = some (.int .u64 (sval h gap ln i c))
  p0 : wr.cell? ⟨w.heap.size + 7, 0, none⟩ = some (.map (some (w.heap.size + 4)))
  p1 : wr.cell? ⟨w.heap.size + 7, 1, none⟩ = some (.map (some (w.heap.size + 5)))
  p2 : wr.cell? ⟨w.heap.size + 7, 2, none⟩ = some (.slice (some ⟨w.heap.size + 6, 0, none⟩) n n)
  p3 : wr.cell? ⟨w.heap.size + 7, 3, none⟩ = some (.slice pb n cap)
  p4 : wr.cell? ⟨w.heap.size + 7, 4, none⟩ = some (.int .u64 0)
  p5 : wr.cell? ⟨w.heap.size + 7, 5, none⟩ = some (.int .u64 0)
  row : ∀ i, i < n → wr.cell? ⟨BB, i, none⟩ = some (.pointer (some ⟨w.heap.size + 6, pr rev n i * 7, none⟩))
  pbs : 0 < n → pb = some ⟨BB, 0, none⟩
  tiers : ∀ i c, i < n → c < 4 → wr.cell? ⟨w.heap.size + 6, pr rev n i * 7 + c, none⟩ = some (.int .u64 (sval h gap ln i c))
  free : ∀ i c, i < n → 4 ≤ c → c < 7 → wr.cell? ⟨w.heap.size + 6, pr rev n i * 7 + c, none⟩ = some (tz c)
  m0 : wr.heap[w.heap.size + 4]? = some (.map #[] 0)
  m1 : wr.heap[w.heap.size + 5]? = some (.map #[] 0)
  bp : wr.cell? ⟨M, 0, none⟩ = some (.pointer (some ⟨w.heap.size + 7, 0, none⟩))
  r0 : wr.cell? ⟨M + 1, 0, none⟩ = some (.int .u64 th)
  r1 : wr.cell? ⟨M + 1, 1, none⟩ = some (.int .u64 tl)
  r2 : wr.cell? ⟨M + 1, 2, none⟩ = some (.int .u64 uh)
  r3 : wr.cell? ⟨M + 1, 3, none⟩ = some (.int .u64 ul)
  hM : w.heap.size + 8 ≤ M
  hB : 0 < n → BB < M
  below : Below w.heap.size w wr

theorem CB.later {w : World} {n : Nat} {rev : Bool} {h : Int} {gap ln : Nat → Nat} {pb : Option Addr} {cap BB M : Nat} {th tl uh ul : Int} {wr wr' : World} (q : CB w n rev h gap ln pb cap BB M th tl uh ul wr) (hb : Below (M + 2) wr wr') : CB w n rev h gap ln pb cap BB M th tl uh ul wr' := by
  have hM := q.hM
  have k : ∀ {b o : Nat} {v : Value}, b < M + 2 → wr.cell? ⟨b, o, none⟩ = some v → wr'.cell? ⟨b, o, none⟩ = some v := fun {b o} {_} ha hv => (hb.cell (p := ⟨b, o, none⟩) ha).trans hv
  exact ⟨k (by omega) q.brev, k (by omega) q.bn, fun i c hi hc => k (by omega) (q.sorted i c hi hc), k (by omega) q.p0, k (by omega) q.p1, k (by omega) q.p2, k (by omega) q.p3, k (by omega) q.p4, k (by omega) q.p5,
    fun i hi => k (by have := q.hB (by omega); omega) (q.row i hi), q.pbs, fun i c hi hc => k (by omega) (q.tiers i c hi hc), fun i c hi hc hc' => k (by omega) (q.free i c hi hc hc'), (hb.block _ (by omega)).trans q.m0, (hb.block _ (by omega)).trans q.m1,
    k (by omega) q.bp, k (by omega) q.r0, k (by omega) q.r1, k (by omega) q.r2, k (by omega) q.r3, q.hM, q.hB, q.below.trans (hb.mono (by omega))⟩

theorem pr_pr (rev : Bool) {n i : Nat} (hi : i < n) : pr rev n (pr rev n i) = i := by unfold pr; split <;> omega
theorem pr_lt (rev : Bool) {n i : Nat} (hi : i < n) : pr rev n i < n := by unfold pr; split <;> omega

/-- Behind New and the four boxes. -/
theorem c_start {w wr w' : World} {n : Nat} {rev : Bool} {h : Int} {gap ln : Nat → Nat} {pb : Option Addr} {cap BB : Nat} (th tl uh ul : Int) (hB : BInv w n rev (sval h gap ln) n wr) (hP : NPost wr n (fun j => sval h gap ln (pr rev n j)) rev pb cap BB w') :
    CB w n rev h gap ln pb cap BB w'.heap.size th tl uh ul ((((w'.alloc (.cells #[.pointer (some ⟨w.heap.size + 4 + 3, 0, none⟩)] 33)).alloc (.cells #[.int .u64 th, .int .u64 tl, .int .u64 uh, .int .u64 ul] 31)).alloc (.cells #[.slice none 0 0] 35)).alloc (.cells #[.slice none 0 0] 25)) := by
  have hsz := hB.size
  have hpl := lt_of_block hP.pool
  have hpool := hP.pool
  have hm0 := hP.m0
  have hm1 := hP.m1
  have htr := hP.tiers
  have hbl := hP.below
  rw [hsz] at hpl hpool hm0 hm1 htr hbl
  have hrow := hP.row
  rw [hsz] at hrow
  -- a block that lies in w' lies so behind the boxes
  have old : ∀ b, b < w'.heap.size → ((((w'.alloc (.cells #[.pointer (some ⟨w.heap.size + 4 + 3, 0, none⟩)] 33)).alloc (.cells #[.int .u64 th, .int .u64 tl, .int .u64 uh, .int .u64 ul] 31)).alloc (.cells #[.slice none 0 0] 35)).alloc (.cells #[.slice none 0 0] 25)).heap[b]? = w'.heap[b]? := fun b hb => by
    rw [Below.heap_alloc _ _ _ (by simp; omega), Below.heap_alloc _ _ _ (by simp; omega), Below.heap_alloc _ _ _ (by simp; omega), Below.heap_alloc _ _ _ hb]
  have oc : ∀ {a : Addr} {v : Value}, w'.cell? a = some v → ((((w'.alloc (.cells #[.pointer (some ⟨w.heap.size + 4 + 3, 0, none⟩)] 33)).alloc (.cells #[.int .u64 th, .int .u64 tl, .int .u64 uh, .int .u64 ul] 31)).alloc (.cells #[.slice none 0 0] 35)).alloc (.cells #[.slice none 0 0] 25)).cell? a = some v := fun hv => keepA _ (keepA _ (keepA _ (keepA _ hv)))
  have ow : ∀ {b o : Nat} {v : Value}, b < w.heap.size + 4 → wr.cell? ⟨b, o, none⟩ = some v → w'.cell? ⟨b, o, none⟩ = some v := fun {b o} {_} ha hv => (hbl.cell (p := ⟨b, o, none⟩) ha).trans hv
  refine ⟨oc (ow (by omega) (by have := hB.brev; simp [World.cell?, this])), oc (ow (by omega) (by have := hB.bn; simp [World.cell?, this])), fun i c hi hc => oc (ow (by omega) ?_), oc (by simp [World.cell?, hpool]), oc (by simp [World.cell?, hpool]), oc (by simp [World.cell?, hpool]), oc (by simp [World.cell?, hpool]), oc (by simp [World.cell?, hpool]), oc (by simp [World.cell?, hpool]),
    fun i hi => oc (hrow i hi), hP.pbs, fun i c hi hc => oc ?_, fun i c hi hc hc' => oc ?_, (old _ (by omega)).trans hm0, (old _ (by omega)).trans hm1, ?_, ?_, ?_, ?_, ?_, by omega, fun hn => World.block_lt_of_cell? _ _ (hrow 0 hn), ?_⟩
  · rw [hB.sorted.cell (by omega)]
    unfold scell
    rw [show (i * 4 + c) / 4 = i by omega, show (i * 4 + c) % 4 = c by omega]
    rfl
  · have hp := pr_lt rev hi
    rw [htr.cell (by omega)]
    unfold tcell
    rw [if_pos (by omega), show (pr rev n i * 7 + c) / 7 = pr rev n i by omega, show (pr rev n i * 7 + c) % 7 = c by omega]
    show some (Value.int .u64 (sval h gap ln (pr rev n (pr rev n i)) c)) = _
    rw [pr_pr rev hi]
  · have hp := pr_lt rev hi
    rw [htr.cell (by omega)]
    unfold tcell
    rw [if_neg (by omega), show (pr rev n i * 7 + c) % 7 = c by omega]
  · exact keepA _ (keepA _ (keepA _ (newAt rfl rfl)))
  · exact keepA _ (keepA _ (newAt (by simp) rfl))
  · exact keepA _ (keepA _ (newAt (by simp) rfl))
  · exact keepA _ (keepA _ (newAt (by simp) rfl))
  · exact keepA _ (keepA _ (newAt (by simp) rfl))
  · have hs := hbl.size
    exact ((((hB.below.trans (hbl.mono (by omega))).alloc (by omega) _).alloc (by simp; omega) _).alloc (by simp; omega) _).alloc (by simp; omega) _

end Go.Proofs.Ybulkdlic
