/-
  DERIVED. alloc.LawS5618BWhole: THE LAW, the operations.
-/
import Derived.Test.YbulkdlicBL9
import Derived.Test.YbulkdlicBRow2
namespace Go.Proofs.Ybulkdlic
open Go.RowKit

attribute [local go_sem ↓] Go.wp_at_zero Go.wp_at_succ

theorem PI.below {M n : Nat} {rev : Bool} {F Z : Nat → Nat} {pb : Option Addr} {cap BB sz : Nat} {w w' : World} {k : Nat} (h : PI M n rev F Z pb cap BB sz k w) (hb : Below w.heap.size w w') : PI M n rev F Z pb cap BB sz k w' := by
  obtain ⟨LL, cc, vv, hh, hs, g, gs, P, I⟩ := h
  exact ⟨LL, cc, vv, hh, hs, g, gs, P.below hb, I⟩
theorem PI.later {M n : Nat} {rev : Bool} {F Z : Nat → Nat} {pb : Option Addr} {cap BB sz : Nat} {w : World} {k k' : Nat} (h : PI M n rev F Z pb cap BB sz k w) (hk : k ≤ k') : PI M n rev F Z pb cap BB sz k' w := by
  obtain ⟨LL, cc, vv, hh, hs, g, gs, P, I⟩ := h
  exact ⟨LL, cc, vv, hh, hs, g, gs, P.later hk, I⟩
theorem PI.lt {M n : Nat} {rev : Bool} {F Z : Nat → Nat} {pb : Option Addr} {cap BB sz : Nat} {w : World} {k : Nat} (h : PI M n rev F Z pb cap BB sz k w) : M + 4 ≤ w.heap.size := by
  obtain ⟨LL, cc, vv, hh, hs, g, gs, P, I⟩ := h
  exact P.lt

/-- A row of numbers has grown. -/
theorem PI.grown29 {M n : Nat} {rev : Bool} {F Z : Nat → Nat} {pb : Option Addr} {cap BB sz : Nat} {w w' : World} {k : Nat} {v : Value} {m : Nat} {xs : List Value} (h : PI M n rev F Z pb cap BB sz k w) (hr : w.ownsRow (M + 4) 29 2 v m xs) (hbb : 0 < n → v.ownBlock ≠ some BB) (hg : w.grownBy w' v.ownBlock) : PI M n rev F Z pb cap BB sz k w' := by
  obtain ⟨LL, cc, vv, hh, hs, g, gs, P, I⟩ := h
  refine ⟨LL, cc, vv, hh, hs, g, gs, P.same hg.size (fun j hj => ?_), I⟩
  have hl := P.lt
  have hjl : j < w.heap.size := by
    rcases hj with hj | hj | ⟨t, ht, hj⟩
    · omega
    · rw [hj.1]; exact World.block_lt_of_cell? _ _ (P.pool.byv 0 hj.2)
    · exact ((P.fs t ht).own.lt j hj).2
  refine hg.block j hjl (fun e => ?_)
  rcases hj with hj | hj | ⟨t, ht, hj⟩
  · have := (hr.lt j e.symm).1; omega
  · exact hbb hj.2 (by rw [← e, hj.1])
  · obtain ⟨cur, h4⟩ := own31 (P.fs t ht).own hj
    rcases hr.2 with ⟨rfl, _⟩ | ⟨g', cp, cur', rfl, h2, h3, _⟩
    · cases e
    · cases e
      rw [h3] at h4
      cases h4

set_option maxRecDepth 1000000 in
theorem tl8 : tl 8 B4 = .seq (hdc (tl 8 B4)) (tl 9 B4) := by kernel_rfl

set_option maxRecDepth 1000000 in
set_option maxHeartbeats 4000000 in
theorem law8 {M n : Nat} {rev : Bool} {F Z : Nat → Nat} {pb : Option Addr} {cap BB sz : Nat} {w : World}
    (Q : Exit → Act → World → Prop) (t : ByteArray) (pk : Nat) (p16 pO p11 : Option Addr) (c16 no cO c11 OPB : Nat) (oO oo hh tt : Nat → Nat) (aa : Nat → Int) (xx : Nat → Nat) (c0 c1 c5 c6 c7 c8 c9 c10 c12 c13 c14 c17 c18 c19 c20 c21 c22 c23 c24 c25 c26 c27 c28 c29 c30 c31 c32 c33 c34 c35 c36 c37 c38 c39 c40 c41 c42 c43 c44 c45 c46 c47 c48 c49 c50 c51 c52 c53 c54 c55 c56 c57 c58 c59 c60 c61 c62 c63 c64 c65 c66 c67 c68 c69 c70 c71 c72 c73 c74 c75 c76 c77 c78 c79 c80 c81 c82 c83 c84 c85 c86 c87 c88 c89 c90 c91 c92 c93 c94 c95 c96 c97 c98 c99 c100 c101 c102 c103 c104 c105 c106 c107 c108 c109 c110 c111 c112 c113 c114 c115 c116 c117 c118 c119 c120 c121 c122 c123 c124 c125 c126 c127 c128 c129 c130 c131 c132 c133 c134 c135 c136 c137 c138 c139 c140 c141 c142 c143 c144 c145 c146 c147 c148 c149 c150 c151 c152 c153 c154 c155 c156 c157 c158 c159 c160 c161 c162 c163 c164 c165 c166 c167 c168 c169 c170 c171 c172 c173 c174 c175 c176 c177 c178 c179 c180 c181 c182 c183 c184 c185 c186 c187 c188 c189 c190 c191 c192 c193 c194 c195 c196 c197 c198 c199 c200 c201 c202 c203 c204 c205 c206 c207 c208 c209 c210 c211 c212 c213 c214 c215 c216 c217 c218 c219 c220 c221 c222 c223 c224 c225 c226 c227 c228 c229 c230 c231 c232 c233 c234 c235 c236 c237 c238 c239 c240 c241 c242 c243 c244 c245 c246 c247 c248 c249 c250 c251 c252 c253 c254 c255 c256 c257 c258 c259 c260 c261 c262 c263 c264 c265 c266 c267 c268 c269 c270 c271 c272 c273 c274 c275 c276 c277 c278 c279 c280 c281 c282 c283 c284 c285 c286 c287 c288 c289 c290 c291 c292 c293 c294 c295 c296 c297 c298 c299 c300 c301 c302 c303 c304 c305 c306 c307 c308 c309 c310 c311 c312 c313 c314 c315 c316 c317 c318 c319 c320 c321 c322 c323 c324 c325 c326 c327 c328 c329 c330 c331 c332 c333 c334 c335 c336 c337 c338 c339 c340 c341 c342 c343 c344 c345 c346 c347 c348 c349 c350 c351 c352 c353 c354 c355 c356 c357 c358 c359 c360 c361 c362 c363 c364 c365 c366 c367 c368 c369 c370 c371 c372 c373 c374 c375 c376 c377 c378 c379 c380 c381 c382 c383 c384 c385 c386 c387 c388 c389 c390 c391 c392 c393 c394 c395 c396 c397 c398 c399 c400 c401 c402 c403 c404 c405 c406 c407 c408 c409 c410 c411 c412 c413 c414 c415 c416 c417 c418 c419 c420 c421 c422 c423 c424 c425 c426 c427 c428 c429 c430 c431 c432 c433 c434 c435 c436 c437 c438 c439 c440 c441 c442 c443 c444 c445 c446 c447 c448 c449 c450 c451 c452 c453 c454 c455 c456 c457 c458 c459 c460 c461 c462 c463 c464 c465 c466 c467 c468 c469 c470 c471 c472 c473 c474 c475 c476 c477 c478 c479 c480 c481 c482 c483 c484 c485 c486 c487 c488 c489 c490 : Value)
    (G : Hid (Geo n F Z)) (hPI : PI M n rev F Z pb cap BB sz 0 w) (hnil : n = 0 → pb = none) (ht : t.size ≤ maxLen) (hno : no ≤ 4096) (hOP : 0 < no → OPB < M)
    (h16 : w.ownsRow (M + 4) 29 2 (.slice p16 0 c16) 0 []) (hb16 : 0 < n → (Value.slice p16 0 c16).ownBlock ≠ some BB)
    (hixO : ∀ (i : Nat), i < no → ∀ W, (Instr.indexAt 53 (.slice pO no cO) (.int .i64 i)).run Yba.prog W = .ok (.pointer (some ⟨OPB, oO i, none⟩)) W)
    (hop : ∀ i, i < no → w.cell? ⟨OPB, oO i, none⟩ = some (.int .u8 (oo i : Int)) ∧ w.cell? ⟨OPB, oO i + 1, none⟩ = some (.int .u8 (hh i : Int)) ∧ w.cell? ⟨OPB, oO i + 2, none⟩ = some (.int .i64 (aa i)) ∧ w.cell? ⟨OPB, oO i + 3, none⟩ = some (.int .u8 (tt i : Int)))
    (hxx : ∀ i, i < no → IntKind.u64.wrap (aa i) = (xx i : Int) ∧ xx i < 18446744073709551616) (h8 : ∀ i, i < no → tt i < 256)
    (HQ : Hid (∀ a W, Below M w W → a.tmps[10]? = some (.bool true) ∧ a.defers = [] → Q .ret a W)) :
    Code.wp Yba.prog (tl 8 B4) Q ⟨#[c0, c1, .slice pO no cO, .string t, .int .u8 (pk : Int), c5, c6, c7, c8, c9, c10, .slice p11 n c11, c12, c13, c14, .pointer (some ⟨M + 3, 0, none⟩), .slice p16 0 c16, c17, c18, c19, c20, c21, c22, c23, c24, c25, c26, c27, c28, c29, c30, c31, c32, c33, c34, c35, c36, c37, c38, c39, c40, c41, c42, c43, c44, c45, c46, c47, c48, c49, c50, c51, c52, c53, c54, c55, c56, c57, c58, c59, c60, c61, c62, c63, c64, c65, c66, c67, c68, c69, c70, c71, c72, c73, c74, c75, c76, c77, c78, c79, c80, c81, c82, c83, c84, c85, c86, c87, c88, c89, c90, c91, c92, c93, c94, c95, c96, c97, c98, c99, c100, c101, c102, c103, c104, c105, c106, c107, c108, c109, c110, c111, c112, c113, c114, c115, c116, c117, c118, c119, c120, c121, c122, c123, c124, c125, c126, c127, c128, c129, c130, c131, c132, c133, c134, c135, c136, c137, c138, c139, c140, c141, c142, c143, c144, c145, c146, c147, c148, c149, c150, c151, c152, c153, c154, c155, c156, c157, c158, c159, c160, c161, c162, c163, c164, c165, c166, c167, c168, c169, c170, c171, c172, c173, c174, c175, c176, c177, c178, c179, c180, c181, c182, c183, c184, c185, c186, c187, c188, c189, c190, c191, c192, c193, c194, c195, c196, c197, c198, c199, c200, c201, c202, c203, c204, c205, c206, c207, c208, c209, c210, c211, c212, c213, c214, c215, c216, c217, c218, c219, c220, c221, c222, c223, c224, c225, c226, c227, c228, c229, c230, c231, c232, c233, c234, c235, c236, c237, c238, c239, c240, c241, c242, c243, c244, c245, c246, c247, c248, c249, c250, c251, c252, c253, c254, c255, c256, c257, c258, c259, c260, c261, c262, c263, c264, c265, c266, c267, c268, c269, c270, c271, c272, c273, c274, c275, c276, c277, c278, c279, c280, c281, c282, c283, c284, c285, c286, c287, c288, c289, c290, c291, c292, c293, c294, c295, c296, c297, c298, c299, c300, c301, c302, c303, c304, c305, c306, c307, c308, c309, c310, c311, c312, c313, c314, c315, c316, c317, c318, c319, c320, c321, c322, c323, c324, c325, c326, c327, c328, c329, c330, c331, c332, c333, c334, c335, c336, c337, c338, c339, c340, c341, c342, c343, c344, c345, c346, c347, c348, c349, c350, c351, c352, c353, c354, c355, c356, c357, c358, c359, c360, c361, c362, c363, c364, c365, c366, c367, c368, c369, c370, c371, c372, c373, c374, c375, c376, c377, c378, c379, c380, c381, c382, c383, c384, c385, c386, c387, c388, c389, c390, c391, c392, c393, c394, c395, c396, c397, c398, c399, c400, c401, c402, c403, c404, c405, c406, c407, c408, c409, c410, c411, c412, c413, c414, c415, c416, c417, c418, c419, c420, c421, c422, c423, c424, c425, c426, c427, c428, c429, c430, c431, c432, c433, c434, c435, c436, c437, c438, c439, c440, c441, c442, c443, c444, c445, c446, c447, c448, c449, c450, c451, c452, c453, c454, c455, c456, c457, c458, c459, c460, c461, c462, c463, c464, c465, c466, c467, c468, c469, c470, c471, c472, c473, c474, c475, c476, c477, c478, c479, c480, c481, c482, c483, c484, c485, c486, c487, c488, c489, c490], []⟩ w := by
  have HP0 : Hid (PI M n rev F Z pb cap BB sz 0 w ∧ w.ownsRow (M + 4) 29 2 (.slice p16 0 c16) 0 [] ∧ (0 < n → (Value.slice p16 0 c16).ownBlock ≠ some BB)) := ⟨hPI, h16, hb16⟩
  have HBB : Hid (0 < n → BB < w.heap.size) := fun h0 => by obtain ⟨LL, cc, vv, h, hs, g, gs, P, I⟩ := hPI; exact World.block_lt_of_cell? _ _ (P.pool.byv 0 h0)
  have HOP : Hid (∀ i, i < no → w.cell? ⟨OPB, oO i, none⟩ = some (.int .u8 (oo i : Int)) ∧ w.cell? ⟨OPB, oO i + 1, none⟩ = some (.int .u8 (hh i : Int)) ∧ w.cell? ⟨OPB, oO i + 2, none⟩ = some (.int .i64 (aa i)) ∧ w.cell? ⟨OPB, oO i + 3, none⟩ = some (.int .u8 (tt i : Int))) := hop
  have HXX : Hid (∀ i, i < no → IntKind.u64.wrap (aa i) = (xx i : Int) ∧ xx i < 18446744073709551616) := hxx
  have HX : Hid (∀ (i : Nat), i < no → ∀ W, (Instr.indexAt 53 (.slice pO no cO) (.int .i64 i)).run Yba.prog W = .ok (.pointer (some ⟨OPB, oO i, none⟩)) W) := hixO
  have H8 : Hid (∀ i, i < no → tt i < 256) := h8
  clear hPI h16 hb16 hixO hop hxx h8
  rw [tl8]
  refine seq_cut ?_
  intro K HK
  conv => arg 2; whnf
  go_wp2
  go_loopw [16, 17] (fun v i wr => ∃ (j : Nat) (vB : Value) (L : List Nat), j ≤ no ∧ v = vB ∧ i = .int .i64 j ∧ L.length ≤ j ∧ (∀ x ∈ L, x < 18446744073709551616) ∧ wr.ownsRow (M + 4) 29 2 vB L.length (flat2 L) ∧ PI M n rev F Z pb cap BB sz j wr ∧ Below M w wr ∧ (0 < n → vB.ownBlock ≠ some BB)) (fun _ i _ => no - (intOf i).toNat)
  case atStart => exact ⟨0, _, [], Nat.zero_le _, rfl, rfl, Nat.le_refl _, by simp, HP0.out.2.1, HP0.out.1, Below.refl _ w, HP0.out.2.2⟩
  case round =>
    clear HP0
    obtain ⟨j, vB, L, hj, rfl, rfl, hL, hLb, hrow, hPI, hB, hvB⟩ := hrel
    by_cases hlt : j < no
    · have hlI : (j : Int) < (no : Int) := by omega
      have hxk := HX.out j hlt
      obtain ⟨a0, a1, a2, a3⟩ := HOP.out j hlt
      have z0 := (hB.cell (p := ⟨OPB, oO j, none⟩) (hOP (by omega))).trans a0
      have z1 := (hB.cell (p := ⟨OPB, oO j + 1, none⟩) (hOP (by omega))).trans a1
      have z2 := (hB.cell (p := ⟨OPB, oO j + 2, none⟩) (hOP (by omega))).trans a2
      have z3 := (hB.cell (p := ⟨OPB, oO j + 3, none⟩) (hOP (by omega))).trans a3
      obtain ⟨hw, hxb⟩ := HXX.out j hlt
      have H10 := bname_nat (hh j)
      have hlM := hPI.lt
      have HC : Hid (∀ W, Below wr.heap.size wr W → ∀ (x : Nat), x < 18446744073709551616 → ∀ (tt : ByteArray), tt.size ≤ maxLen →
          (Calls Yba.prog 11 #[.pointer (some ⟨M + 3, 0, none⟩), .string tt, .agg #[.int .u64 0, .int .u64 (x : Int)]] W fun e w' => (∃ b, e = .returned (.bool b)) ∧ PI M n rev F Z pb cap BB sz (j + 1) w' ∧ PK M W w') ∧
          (Calls Yba.prog 12 #[.pointer (some ⟨M + 3, 0, none⟩), .string tt, .agg #[.int .u64 0, .int .u64 (x : Int)]] W fun e w' => (∃ b, e = .returned (.bool b)) ∧ PI M n rev F Z pb cap BB sz (j + 1) w' ∧ PK M W w') ∧
          ∀ q, q < n → Calls Yba.prog 13 #[.pointer (some ⟨M + 3, 0, none⟩), .string tt, .int .i64 (q : Int)] W fun e w' => (∃ b, e = .returned b) ∧ PI M n rev F Z pb cap BB sz (j + 1) w' ∧ PK M W w') := fun W hb x hx tt htt => by
        obtain ⟨LL, cc, vv, h, hs, g, gs, P, I⟩ := hPI
        have P1 := P.below hb
        exact ⟨take_any G.out P1 I (by omega) tt htt x, borrow_any P1 I (by omega) tt htt x hx, fun q hq => grant_any G.out P1 I (by omega) tt htt q hq⟩
      have HS : Hid (L.length ≤ j ∧ (∀ x ∈ L, x < 18446744073709551616) ∧ wr.ownsRow (M + 4) 29 2 u16 L.length (flat2 L) ∧ PI M n rev F Z pb cap BB sz j wr ∧ Below M w wr ∧ (0 < n → u16.ownBlock ≠ some BB)) := ⟨hL, hLb, hrow, hPI, hB, hvB⟩
      have hr3 : (oo j : Int).tmod 3 = ((oo j % 3 : Nat) : Int) := by rw [Int.tmod_eq_emod_of_nonneg (by omega)]; omega
      have hBW : Below wr.heap.size wr ((wr.alloc (.cells #[.int .u8 (oo j : Int), .int .u8 (hh j : Int), .int .i64 (aa j), .int .u8 (tt j : Int)] 57)).alloc (.cells #[.int .u64 0, .int .u64 (xx j : Int)] 29)) := ((Below.refl _ wr).alloc (Nat.le_refl _) _).alloc (by simp) _
      have HBW : Hid (Below wr.heap.size wr ((wr.alloc (.cells #[.int .u8 (oo j : Int), .int .u8 (hh j : Int), .int .i64 (aa j), .int .u8 (tt j : Int)] 57)).alloc (.cells #[.int .u64 0, .int .u64 (xx j : Int)] 29))) := hBW
      clear a0 a1 a2 a3 hL hLb hrow hPI hB hBW hvB
      by_cases h0 : oo j % 3 = 0
      · have e0 : (oo j : Int).tmod 3 = 0 := by rw [hr3, h0]; rfl
        clear hr3
        go_wp2_with (first | (go_at_call 10; refine (H10 _).mono ?_; rintro e w' ⟨rfl, rfl⟩; dsimp only) | (go_at_call 11; refine (HC.out _ HBW.out _ hxb _ (bname_size (hh j))).1.mono ?_; rintro e w1 ⟨⟨b, rfl⟩, hP1, hK1⟩; dsimp only))
        obtain ⟨m1, m2, m3, m4, m5, m6⟩ := HS.out
        exact ⟨⟨j + 1, u16, L, by omega, rfl, by go_num, by omega, m2, hK1.row29 (m3.kept (grown_below HBW.out) (by cases u16.ownBlock <;> simp)) (Nat.le_refl _), hP1, (m5.trans (HBW.out.mono (by omega))).trans (hK1.below (by have := HBW.out.size; omega)), m6⟩, by simp [intOf]; omega⟩
      · by_cases h1 : oo j % 3 = 1
        · have e0 : (oo j : Int).tmod 3 = 1 := by rw [hr3, h1]; rfl
          clear hr3
          obtain ⟨i3, hi, hz0, hz1, hz2⟩ := info_parts info29m
          have hLl : L.length ≤ 4096 := by have := HS.out.1; omega
          have HAF : Hid (∀ w1, PK M ((wr.alloc (.cells #[.int .u8 (oo j : Int), .int .u8 (hh j : Int), .int .i64 (aa j), .int .u8 (tt j : Int)] 57)).alloc (.cells #[.int .u64 0, .int .u64 (xx j : Int)] 29)) w1 → w1.cell? ⟨wr.heap.size + 1, 0, none⟩ = some (.int .u64 0) ∧ w1.cell? ⟨wr.heap.size + 1, 1, none⟩ = some (.int .u64 (xx j : Int)) ∧ w1.ownsRow (M + 4) 29 2 u16 L.length (flat2 L) ∧ wr.heap.size + 2 ≤ w1.heap.size) := fun w1 hk => by
            have hb : w1.heap[wr.heap.size + 1]? = some (.cells #[.int .u64 0, .int .u64 (xx j : Int)] 29) := by
              have e1 : ((wr.alloc (.cells #[.int .u8 (oo j : Int), .int .u8 (hh j : Int), .int .i64 (aa j), .int .u8 (tt j : Int)] 57)).alloc (.cells #[.int .u64 0, .int .u64 (xx j : Int)] 29)).heap[wr.heap.size + 1]? = some (.cells #[.int .u64 0, .int .u64 (xx j : Int)] 29) := by
                have := heap_alloc_new (wr.alloc (.cells #[.int .u8 (oo j : Int), .int .u8 (hh j : Int), .int .i64 (aa j), .int .u8 (tt j : Int)] 57)) (.cells #[.int .u64 0, .int .u64 (xx j : Int)] 29)
                rw [World.size_alloc] at this
                exact this
              exact (hk.block (wr.heap.size + 1) (by simp) (.inr ⟨by omega, _, _, _, e1, by decide⟩)).trans e1
            refine ⟨by simp only [World.cell?, hb]; rfl, by simp only [World.cell?, hb]; rfl, hk.row29 (HS.out.2.2.1.kept (grown_below HBW.out) (by cases u16.ownBlock <;> simp)) (Nat.le_refl _), by have := hk.size; simpa using this⟩
          go_wp2_with (first | (go_at_call 10; refine (H10 _).mono ?_; rintro e w' ⟨rfl, rfl⟩; dsimp only) | (go_at_call 12; refine (HC.out _ HBW.out _ hxb _ (bname_size (hh j))).2.1.mono ?_; rintro e w1 ⟨⟨b, rfl⟩, hP1, hK1⟩; dsimp only; obtain ⟨y0, y1, y2, y3⟩ := HAF.out w1 hK1; have HR : Hid (w1.ownsRow (M + 4) 29 2 u16 L.length (flat2 L) ∧ PI M n rev F Z pb cap BB sz (j + 1) w1 ∧ PK M ((wr.alloc (.cells #[.int .u8 (oo j : Int), .int .u8 (hh j : Int), .int .i64 (aa j), .int .u8 (tt j : Int)] 57)).alloc (.cells #[.int .u64 0, .int .u64 (xx j : Int)] 29)) w1) := ⟨y2, hP1, hK1⟩; clear y2 hP1 hK1) | (at_builtin; refine wpList_append_lies _ (by rfl) (.tmp 145) (.tmp 147) 55 (by rfl) (M + 4) 29 i3 _ 2 16 und55 hi hz0 hz1 hz2 rfl (by decide) u16 L.length (flat2 L) (by rfl) (HR.out.1.alloc _) ⟨w1.heap.size, 0, none⟩ 1 1 (nc (xx j)) (by rfl) rfl (news_nc (heap_alloc_new w1 _)) (flat2_one (xx j) ▸ flat2_cells [_]) (by omega) (by unfold maxLen; omega) (by omega) (by simp; omega) _ rfl ?_; intro g3 cap3 w3 hown3 hgrow3 hat3 hlt3))
          obtain ⟨m1, m2, m3, m4, m5, m6⟩ := HS.out
          obtain ⟨q1, q2, q3⟩ := HR.out
          have hP3 := (q2.below (below_one _)).grown29 (q1.alloc _) m6 hgrow3
          refine ⟨⟨j + 1, _, L ++ [xx j], by omega, rfl, by go_num, by rw [List.length_append]; simp; omega, fun x hx => by rcases List.mem_append.1 hx with hx | hx; exact m2 x hx; rw [List.mem_singleton.1 hx]; exact hxb, by rw [List.length_append, flat2_append, flat2_one]; exact hown3, hP3, ?_, fun h0 e => ?_⟩, by simp [intOf]; omega⟩
          · have hb1 : Below M w w1 := (m5.trans (HBW.out.mono (by omega))).trans (q3.below (by have := HBW.out.size; omega))
            exact (hb1.alloc (by omega) _).grown hgrow3 (by simp; omega) (fun b e => by have := (q1.lt b e).1; omega)
          · rcases hat3 with h5 | h5
            · exact m6 h0 (h5.trans e)
            · have := HBB.out h0
              have h6 : g3 = BB := by simpa [Value.ownBlock] using e
              have h7 := m5.size
              rw [h5] at h6
              simp at h6
              omega
        · have h2 : oo j % 3 = 2 := by omega
          have e0 : (oo j : Int).tmod 3 = 2 := by rw [hr3, h2]; rfl
          clear hr3
          by_cases hn0 : n = 0
          · have hnI : ¬ (0 : Int) < (n : Int) := by omega
            have hnN : ¬ 0 < n := by omega
            have HN0 : Hid (n = 0) := hn0
            clear hn0
            go_wp2_with (first | (go_at_call 10; refine (H10 _).mono ?_; rintro e w' ⟨rfl, rfl⟩; dsimp only))
            obtain ⟨m1, m2, m3, m4, m5, m6⟩ := HS.out
            exact ⟨⟨j + 1, u16, L, by omega, rfl, by go_num, by omega, m2, m3.kept (grown_below HBW.out) (by cases u16.ownBlock <;> simp), (m4.below HBW.out).later (by omega), m5.trans (HBW.out.mono (by omega)), m6⟩, by simp [intOf]; omega⟩
          · have hnI : (0 : Int) < (n : Int) := by omega
            have hnN : 0 < n := by omega
            have hnZ : ¬ (n : Int) = 0 := by omega
            have hnB : ((n : Int) == 0) = false := by simpa using hnZ
            have hw8 : wrap64 (tt j : Int) = (tt j : Int) := by have := H8.out j hlt; unfold wrap64; omega
            obtain ⟨q, hq⟩ : ∃ q, tt j % n = q := ⟨_, rfl⟩
            have hqn : q < n := by rw [← hq]; exact Nat.mod_lt _ hnN
            have hrt : (tt j : Int).tmod (n : Int) = (q : Int) := by rw [Int.tmod_eq_emod_of_nonneg (by omega), ← hq]; rfl
            have H13 := (HC.out _ HBW.out _ hxb _ (bname_size (hh j))).2.2 q hqn
            clear hq
            go_wp2_with (first | (go_at_call 10; refine (H10 _).mono ?_; rintro e w' ⟨rfl, rfl⟩; dsimp only) | (go_at_call 13; refine H13.mono ?_; rintro e w1 ⟨⟨b, rfl⟩, hP1, hK1⟩; dsimp only))
            obtain ⟨m1, m2, m3, m4, m5, m6⟩ := HS.out
            exact ⟨⟨j + 1, u16, L, by omega, rfl, by go_num, by omega, m2, hK1.row29 (m3.kept (grown_below HBW.out) (by cases u16.ownBlock <;> simp)) (Nat.le_refl _), hP1, (m5.trans (HBW.out.mono (by omega))).trans (hK1.below (by have := HBW.out.size; omega)), m6⟩, by simp [intOf]; omega⟩
    · obtain rfl : j = no := by omega
      have hlI : ¬ (j : Int) < (j : Int) := by omega
      obtain ⟨m, hm⟩ : ∃ m, L.length = m := ⟨_, rfl⟩
      rw [hm] at hrow
      obtain ⟨g9, p9, c9', hv9, hix9, hcs9, hb9⟩ := row_view29 hrow hm
      subst hv9
      have HE : Hid (L.length ≤ j ∧ (∀ x ∈ L, x < 18446744073709551616) ∧ PI M n rev F Z pb cap BB sz j wr ∧ Below M w wr ∧ (∀ (i : Nat), i < m → ∀ W, (Instr.indexAt 55 (.slice p9 m c9') (.int .i64 i)).run Yba.prog W = .ok (.pointer (some ⟨g9, i * 2, none⟩)) W) ∧ (∀ i, i < m → wr.cell? ⟨g9, i * 2, none⟩ = some (.int .u64 0) ∧ wr.cell? ⟨g9, i * 2 + 1, none⟩ = some (.int .u64 ((L.getD i 0 : Nat) : Int))) ∧ (0 < m → M + 4 ≤ g9 ∧ ∃ cur, wr.heap[g9]? = some (.cells cur 29 (0, 0)))) := ⟨hL, hLb, hPI, hB, hix9, hcs9, hb9⟩
      clear hL hLb hrow hPI hB hix9 hcs9 hb9 hvB
      go_wp2
      refine HK.out _ _ ?_
      obtain ⟨n1, n2, ⟨LL, cc, vv, h, hs, g, gs, P, I⟩, n4, n5, n6, n7⟩ := HE.out
      have hb2 : ∀ i, i < m → L.getD i 0 < 18446744073709551616 := fun i hi => n2 _ (by rw [List.getD_eq_getElem?_getD, List.getElem?_eq_getElem (by omega)]; exact List.getElem_mem _)
      by_cases h0 : m = 0
      · exact lawS9 (E := wr.heap.size) (m := m) (cg := c9') (GB := wr.heap.size) (pG := p9) (bv := fun i => L.getD i 0) Q t pk _ _ _ _ _ _ _ _ _ _ _ _ _ _ _ _ _ _ _ _ _ _ _ _ _ _ _ _ _ _ _ _ _ _ _ _ _ _ _ _ _ _ _ _ _ _ _ _ _ _ _ _ _ _ _ _ _ _ _ _ _ _ _ _ _ _ _ _ _ _ _ _ _ _ _ _ _ _ _ _ _ _ _ _ _ _ _ _ _ _ _ _ _ _ _ _ _ _ _ _ _ _ _ _ _ _ _ _ _ _ _ _ _ _ _ _ _ _ _ _ _ _ _ _ _ _ _ _ _ _ _ _ _ _ _ _ _ _ _ _ _ _ _ _ _ _ _ _ _ _ _ _ _ _ _ _ _ _ _ _ _ _ _ _ _ _ _ _ _ _ _ _ _ _ _ _ _ _ _ _ _ _ _ _ _ _ _ _ _ _ _ _ _ _ _ _ _ _ _ _ _ _ _ _ _ _ _ _ _ _ _ _ _ _ _ _ _ _ _ _ _ _ _ _ _ _ _ _ _ _ _ _ _ _ _ _ _ _ _ _ _ _ _ _ _ _ _ _ _ _ _ _ _ _ _ _ _ _ _ _ _ _ _ _ _ _ _ _ _ _ _ _ _ _ _ _ _ _ _ _ _ _ _ _ _ _ _ _ _ _ _ _ _ _ _ _ _ _ _ _ _ _ _ _ _ _ _ _ _ _ _ _ _ _ _ _ _ _ _ _ _ _ _ _ _ _ _ _ _ _ _ _ _ _ _ _ _ _ _ _ _ _ _ _ _ _ _ _ _ _ _ _ _ _ _ _ _ _ _ _ _ _ _ _ _ _ _ _ _ _ _ _ _ _ _ _ _ _ _ _ _ _ _ _ _ _ _ _ _ _ _ _ _ _ _ _ _ _ _ _ _ _ _ _ _ _ _ _ _ _ _ _ _ _ _ _ _ _ _ _ _ _ _ _ _ _ _ _ _ _ _ _ _ _ _ _ _ _ _ _ _ _ _ _ _ _ _ _ _ _ _ _ _ _ _ _ _ _ _ _ _ _ _ _ _ _ _ _ _ _ _ _ _ _ _ _ _ _ _ _ _ _ _ _ _ _ _ G.out P I hnil (Nat.le_refl _) (fun s hs b e => by have := ((P.fs s hs).own.lt b e).2; omega) ht (by omega) (by omega) P.lt P.lt (fun i hi => by omega) (fun i hi => by omega) (fun a W' hW h10 => HQ.out a W' (n4.trans hW) h10)
      · obtain ⟨q1, cur, q2⟩ := n7 (by omega)
        exact lawS9 (E := wr.heap.size) (m := m) (cg := c9') (GB := g9) (pG := p9) (bv := fun i => L.getD i 0) Q t pk _ _ _ _ _ _ _ _ _ _ _ _ _ _ _ _ _ _ _ _ _ _ _ _ _ _ _ _ _ _ _ _ _ _ _ _ _ _ _ _ _ _ _ _ _ _ _ _ _ _ _ _ _ _ _ _ _ _ _ _ _ _ _ _ _ _ _ _ _ _ _ _ _ _ _ _ _ _ _ _ _ _ _ _ _ _ _ _ _ _ _ _ _ _ _ _ _ _ _ _ _ _ _ _ _ _ _ _ _ _ _ _ _ _ _ _ _ _ _ _ _ _ _ _ _ _ _ _ _ _ _ _ _ _ _ _ _ _ _ _ _ _ _ _ _ _ _ _ _ _ _ _ _ _ _ _ _ _ _ _ _ _ _ _ _ _ _ _ _ _ _ _ _ _ _ _ _ _ _ _ _ _ _ _ _ _ _ _ _ _ _ _ _ _ _ _ _ _ _ _ _ _ _ _ _ _ _ _ _ _ _ _ _ _ _ _ _ _ _ _ _ _ _ _ _ _ _ _ _ _ _ _ _ _ _ _ _ _ _ _ _ _ _ _ _ _ _ _ _ _ _ _ _ _ _ _ _ _ _ _ _ _ _ _ _ _ _ _ _ _ _ _ _ _ _ _ _ _ _ _ _ _ _ _ _ _ _ _ _ _ _ _ _ _ _ _ _ _ _ _ _ _ _ _ _ _ _ _ _ _ _ _ _ _ _ _ _ _ _ _ _ _ _ _ _ _ _ _ _ _ _ _ _ _ _ _ _ _ _ _ _ _ _ _ _ _ _ _ _ _ _ _ _ _ _ _ _ _ _ _ _ _ _ _ _ _ _ _ _ _ _ _ _ _ _ _ _ _ _ _ _ _ _ _ _ _ _ _ _ _ _ _ _ _ _ _ _ _ _ _ _ _ _ _ _ _ _ _ _ _ _ _ _ _ _ _ _ _ _ _ _ _ _ _ _ _ _ _ _ _ _ _ _ _ _ _ _ _ _ _ _ _ _ _ _ _ _ _ _ _ _ _ _ _ _ _ _ _ _ _ _ _ _ _ _ _ _ _ _ _ _ _ _ _ _ _ _ _ _ _ _ _ _ _ _ _ _ G.out P I hnil (Nat.le_refl _) (fun s hs b e => ⟨((P.fs s hs).own.lt b e).2, fun e2 => by obtain ⟨cur', h4⟩ := own31 (P.fs s hs).own e; rw [e2, q2] at h4; cases h4⟩) ht (by omega) (by omega) P.lt q1 n5 (fun i hi => ⟨hb2 i hi, n6 i hi⟩) (fun a W' hW h10 => HQ.out a W' (n4.trans hW) h10)

end Go.Proofs.Ybulkdlic
