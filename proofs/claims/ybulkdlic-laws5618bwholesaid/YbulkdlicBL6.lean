/-
  DERIVED. alloc.LawS5618BWhole: THE LAW, New.
-/
import Derived.Test.YbulkdlicBL8
namespace Go.Proofs.Ybulkdlic
open Go.RowKit

attribute [local go_sem ↓] Go.wp_at_zero Go.wp_at_succ

/-- Where tier i begins. -/
def bsN (ln : Nat → Nat) : Nat → Nat
  | 0 => 0
  | i + 1 => bsN ln i + ln i + 1 + i % 2
theorem bsN_le (ln : Nat → Nat) (hl : ∀ i, ln i ≤ 255) : ∀ i, bsN ln i ≤ i * 257
  | 0 => Nat.le_refl _
  | i + 1 => by have := bsN_le ln hl i; have := hl i; show bsN ln i + ln i + 1 + i % 2 ≤ (i + 1) * 257; omega
theorem bsN_mono (ln : Nat → Nat) {i : Nat} : ∀ (j : Nat), i < j → bsN ln i + ln i < bsN ln j
  | 0, h => by omega
  | j + 1, h => by
    show bsN ln i + ln i < bsN ln j + ln j + 1 + j % 2
    by_cases e : i = j
    · subst e; omega
    · have := bsN_mono ln (i := i) j (by omega); omega
theorem geoN (ln : Nat → Nat) (hl : ∀ i, ln i ≤ 255) {n : Nat} (hn : n ≤ 256) : Geo n (bsN ln) (fun i => bsN ln i + ln i) :=
  ⟨hn, fun i hi => ⟨by omega, by have := hl i; omega, by have := hl i; have := bsN_le ln hl i; have : i * 257 ≤ 256 * 257 := Nat.mul_le_mul_right _ (by omega); omega⟩, fun i j hij hj => bsN_mono ln j hij⟩
/-- The tiers, in the order of their numbers. -/
def tiL (ln : Nat → Nat) (j : Nat) : List (Nat × Nat) := (List.range j).map fun i => (bsN ln i, bsN ln i + ln i)
theorem tiL_length (ln : Nat → Nat) (j : Nat) : (tiL ln j).length = j := by simp [tiL]
theorem tiL_succ (ln : Nat → Nat) (j : Nat) : tiL ln (j + 1) = tiL ln j ++ [(bsN ln j, bsN ln j + ln j)] := by simp [tiL, List.range_succ]
theorem tiL_at (ln : Nat → Nat) {n j : Nat} (hj : j < n) : (tiL ln n)[j]? = some (bsN ln j, bsN ln j + ln j) := by simp [tiL, hj]
/-- .. as the law hands them to New. -/
def tiR (ln : Nat → Nat) (rev : Bool) (n : Nat) : List (Nat × Nat) := if rev then (tiL ln n).reverse else tiL ln n
theorem tiR_length (ln : Nat → Nat) (rev : Bool) (n : Nat) : (tiR ln rev n).length = n := by unfold tiR; split <;> simp [tiL_length]
theorem tiR_at (ln : Nat → Nat) (rev : Bool) {n j : Nat} (hj : j < n) : fst (tiR ln rev n) j = bsN ln (pr rev n j) ∧ lst (tiR ln rev n) j = bsN ln (pr rev n j) + ln (pr rev n j) := by
  have h : (tiR ln rev n)[j]? = some (bsN ln (pr rev n j), bsN ln (pr rev n j) + ln (pr rev n j)) := by
    unfold tiR pr
    cases rev with
    | false => simp only [Bool.false_eq_true, if_false]; exact tiL_at ln hj
    | true =>
      simp only [if_true]
      rw [List.getElem?_reverse (by rw [tiL_length]; exact hj), tiL_length]
      exact tiL_at ln (by omega)
  have h2 := getD_at (L := tiR ln rev n) (k := j) (by rw [tiR_length]; exact hj)
  rw [h] at h2
  have h3 := Option.some.inj h2
  exact ⟨(congrArg Prod.fst h3).symm, (congrArg Prod.snd h3).symm⟩

set_option maxRecDepth 1000000 in
theorem tl6 : tl 6 B4 = .seq (hdc (tl 6 B4)) (tl 7 B4) := by kernel_rfl

set_option maxRecDepth 1000000 in
theorem tl7 : tl 7 B4 = .seq (hdc (tl 7 B4)) (tl 8 B4) := by kernel_rfl

set_option maxRecDepth 1000000 in
set_option maxHeartbeats 4000000 in
theorem law6 {w : World} {n : Nat}
    (Q : Exit → Act → World → Prop) (base0 : Nat) (rev : Bool) (ln : Nat → Nat) (t : ByteArray) (pk : Nat) (pO p11 : Option Addr) (no cO c11 OPB : Nat) (oO oo hh tt : Nat → Nat) (aa : Nat → Int) (xx : Nat → Nat) (c0 c1 c5 c6 c7 c8 c9 c10 c12 c13 c14 c15 c16 c17 c18 c19 c20 c21 c22 c23 c24 c25 c26 c27 c28 c29 c30 c31 c32 c33 c34 c35 c36 c37 c38 c39 c40 c41 c42 c43 c44 c45 c46 c47 c48 c49 c50 c51 c52 c53 c54 c55 c56 c57 c58 c59 c60 c61 c62 c63 c64 c65 c66 c67 c68 c69 c70 c71 c72 c73 c74 c75 c76 c77 c78 c79 c80 c81 c82 c83 c84 c85 c86 c87 c88 c89 c90 c91 c92 c93 c94 c95 c96 c97 c98 c99 c100 c101 c102 c103 c104 c105 c106 c107 c108 c109 c110 c111 c112 c113 c114 c115 c116 c117 c118 c119 c120 c121 c122 c123 c124 c125 c126 c127 c128 c129 c130 c131 c132 c133 c134 c135 c136 c137 c138 c139 c140 c141 c142 c143 c144 c145 c146 c147 c148 c149 c150 c151 c152 c153 c154 c155 c156 c157 c158 c159 c160 c161 c162 c163 c164 c165 c166 c167 c168 c169 c170 c171 c172 c173 c174 c175 c176 c177 c178 c179 c180 c181 c182 c183 c184 c185 c186 c187 c188 c189 c190 c191 c192 c193 c194 c195 c196 c197 c198 c199 c200 c201 c202 c203 c204 c205 c206 c207 c208 c209 c210 c211 c212 c213 c214 c215 c216 c217 c218 c219 c220 c221 c222 c223 c224 c225 c226 c227 c228 c229 c230 c231 c232 c233 c234 c235 c236 c237 c238 c239 c240 c241 c242 c243 c244 c245 c246 c247 c248 c249 c250 c251 c252 c253 c254 c255 c256 c257 c258 c259 c260 c261 c262 c263 c264 c265 c266 c267 c268 c269 c270 c271 c272 c273 c274 c275 c276 c277 c278 c279 c280 c281 c282 c283 c284 c285 c286 c287 c288 c289 c290 c291 c292 c293 c294 c295 c296 c297 c298 c299 c300 c301 c302 c303 c304 c305 c306 c307 c308 c309 c310 c311 c312 c313 c314 c315 c316 c317 c318 c319 c320 c321 c322 c323 c324 c325 c326 c327 c328 c329 c330 c331 c332 c333 c334 c335 c336 c337 c338 c339 c340 c341 c342 c343 c344 c345 c346 c347 c348 c349 c350 c351 c352 c353 c354 c355 c356 c357 c358 c359 c360 c361 c362 c363 c364 c365 c366 c367 c368 c369 c370 c371 c372 c373 c374 c375 c376 c377 c378 c379 c380 c381 c382 c383 c384 c385 c386 c387 c388 c389 c390 c391 c392 c393 c394 c395 c396 c397 c398 c399 c400 c401 c402 c403 c404 c405 c406 c407 c408 c409 c410 c411 c412 c413 c414 c415 c416 c417 c418 c419 c420 c421 c422 c423 c424 c425 c426 c427 c428 c429 c430 c431 c432 c433 c434 c435 c436 c437 c438 c439 c440 c441 c442 c443 c444 c445 c446 c447 c448 c449 c450 c451 c452 c453 c454 c455 c456 c457 c458 c459 c460 c461 c462 c463 c464 c465 c466 c467 c468 c469 c470 c471 c472 c473 c474 c475 c476 c477 c478 c479 c480 c481 c482 c483 c484 c485 c486 c487 c488 c489 c490 : Value)
    (hl8 : ∀ i, ln i ≤ 255) (hn : n ≤ 256) (hrow : w.ownsRow base0 31 4 (.slice p11 n c11) n (flat (tiR ln rev n)))
    (ht : t.size ≤ maxLen) (hno : no ≤ 4096) (hOP : 0 < no → OPB < w.heap.size)
    (hixO : ∀ (i : Nat), i < no → ∀ W, (Instr.indexAt 53 (.slice pO no cO) (.int .i64 i)).run Yba.prog W = .ok (.pointer (some ⟨OPB, oO i, none⟩)) W)
    (hop : ∀ i, i < no → w.cell? ⟨OPB, oO i, none⟩ = some (.int .u8 (oo i : Int)) ∧ w.cell? ⟨OPB, oO i + 1, none⟩ = some (.int .u8 (hh i : Int)) ∧ w.cell? ⟨OPB, oO i + 2, none⟩ = some (.int .i64 (aa i)) ∧ w.cell? ⟨OPB, oO i + 3, none⟩ = some (.int .u8 (tt i : Int)))
    (hxx : ∀ i, i < no → IntKind.u64.wrap (aa i) = (xx i : Int) ∧ xx i < 18446744073709551616) (h8 : ∀ i, i < no → tt i < 256)
    (HQ : Hid (∀ a W, Below w.heap.size w W → a.tmps[10]? = some (.bool true) ∧ a.defers = [] → Q .ret a W)) :
    Code.wp Yba.prog (tl 6 B4) Q ⟨#[c0, c1, .slice pO no cO, .string t, .int .u8 (pk : Int), c5, c6, c7, c8, c9, c10, .slice p11 n c11, c12, c13, c14, c15, c16, c17, c18, c19, c20, c21, c22, c23, c24, c25, c26, c27, c28, c29, c30, c31, c32, c33, c34, c35, c36, c37, c38, c39, c40, c41, c42, c43, c44, c45, c46, c47, c48, c49, c50, c51, c52, c53, c54, c55, c56, c57, c58, c59, c60, c61, c62, c63, c64, c65, c66, c67, c68, c69, c70, c71, c72, c73, c74, c75, c76, c77, c78, c79, c80, c81, c82, c83, c84, c85, c86, c87, c88, c89, c90, c91, c92, c93, c94, c95, c96, c97, c98, c99, c100, c101, c102, c103, c104, c105, c106, c107, c108, c109, c110, c111, c112, c113, c114, c115, c116, c117, c118, c119, c120, c121, c122, c123, c124, c125, c126, c127, c128, c129, c130, c131, c132, c133, c134, c135, c136, c137, c138, c139, c140, c141, c142, c143, c144, c145, c146, c147, c148, c149, c150, c151, c152, c153, c154, c155, c156, c157, c158, c159, c160, c161, c162, c163, c164, c165, c166, c167, c168, c169, c170, c171, c172, c173, c174, c175, c176, c177, c178, c179, c180, c181, c182, c183, c184, c185, c186, c187, c188, c189, c190, c191, c192, c193, c194, c195, c196, c197, c198, c199, c200, c201, c202, c203, c204, c205, c206, c207, c208, c209, c210, c211, c212, c213, c214, c215, c216, c217, c218, c219, c220, c221, c222, c223, c224, c225, c226, c227, c228, c229, c230, c231, c232, c233, c234, c235, c236, c237, c238, c239, c240, c241, c242, c243, c244, c245, c246, c247, c248, c249, c250, c251, c252, c253, c254, c255, c256, c257, c258, c259, c260, c261, c262, c263, c264, c265, c266, c267, c268, c269, c270, c271, c272, c273, c274, c275, c276, c277, c278, c279, c280, c281, c282, c283, c284, c285, c286, c287, c288, c289, c290, c291, c292, c293, c294, c295, c296, c297, c298, c299, c300, c301, c302, c303, c304, c305, c306, c307, c308, c309, c310, c311, c312, c313, c314, c315, c316, c317, c318, c319, c320, c321, c322, c323, c324, c325, c326, c327, c328, c329, c330, c331, c332, c333, c334, c335, c336, c337, c338, c339, c340, c341, c342, c343, c344, c345, c346, c347, c348, c349, c350, c351, c352, c353, c354, c355, c356, c357, c358, c359, c360, c361, c362, c363, c364, c365, c366, c367, c368, c369, c370, c371, c372, c373, c374, c375, c376, c377, c378, c379, c380, c381, c382, c383, c384, c385, c386, c387, c388, c389, c390, c391, c392, c393, c394, c395, c396, c397, c398, c399, c400, c401, c402, c403, c404, c405, c406, c407, c408, c409, c410, c411, c412, c413, c414, c415, c416, c417, c418, c419, c420, c421, c422, c423, c424, c425, c426, c427, c428, c429, c430, c431, c432, c433, c434, c435, c436, c437, c438, c439, c440, c441, c442, c443, c444, c445, c446, c447, c448, c449, c450, c451, c452, c453, c454, c455, c456, c457, c458, c459, c460, c461, c462, c463, c464, c465, c466, c467, c468, c469, c470, c471, c472, c473, c474, c475, c476, c477, c478, c479, c480, c481, c482, c483, c484, c485, c486, c487, c488, c489, c490], []⟩ w := by
  have G := geoN ln hl8 hn
  have HNEW : Calls Yba.prog 6 #[.slice p11 n c11, .slice p11 n c11] w fun e w' => e = .returned (.pointer (some ⟨w.heap.size + 3, 0, none⟩)) ∧ ∃ pb cap BB sz, (n = 0 → pb = none) ∧ PI w.heap.size n rev (bsN ln) (fun i => bsN ln i + ln i) pb cap BB sz 0 w' ∧ PK w.heap.size w w' := by
    obtain ⟨g9, p9, c9, hv, hix, hcs⟩ := row_view hrow (tiR_length ln rev n)
    cases hv
    refine newB_any rev G hix (fun j hj => ?_)
    obtain ⟨q0, q1, q2, q3⟩ := hcs j hj
    obtain ⟨e1, e2⟩ := tiR_at ln rev hj
    rw [e1] at q1
    rw [e2] at q3
    exact ⟨q0, q1, q2, q3⟩
  have HH : Hid (Geo n (bsN ln) (fun i => bsN ln i + ln i) ∧ t.size ≤ maxLen ∧ (0 < no → OPB < w.heap.size) ∧ (∀ (i : Nat), i < no → ∀ W, (Instr.indexAt 53 (.slice pO no cO) (.int .i64 i)).run Yba.prog W = .ok (.pointer (some ⟨OPB, oO i, none⟩)) W) ∧ (∀ i, i < no → w.cell? ⟨OPB, oO i, none⟩ = some (.int .u8 (oo i : Int)) ∧ w.cell? ⟨OPB, oO i + 1, none⟩ = some (.int .u8 (hh i : Int)) ∧ w.cell? ⟨OPB, oO i + 2, none⟩ = some (.int .i64 (aa i)) ∧ w.cell? ⟨OPB, oO i + 3, none⟩ = some (.int .u8 (tt i : Int))) ∧ (∀ i, i < no → IntKind.u64.wrap (aa i) = (xx i : Int) ∧ xx i < 18446744073709551616) ∧ ∀ i, i < no → tt i < 256) := ⟨G, ht, hOP, hixO, hop, hxx, h8⟩
  clear G hl8 hrow ht hixO hop hxx h8 hOP
  rw [tl6]
  refine seq_cut ?_
  intro K HK
  conv => arg 2; whnf
  go_wp2_with (go_at_call 6; refine HNEW.mono ?_; rintro e w1 ⟨rfl, pb, cap, BB, sz, hnil, hPI, hPK⟩; dsimp only)
  refine HK.out _ _ ?_
  have HP : Hid (PI w.heap.size n rev (bsN ln) (fun i => bsN ln i + ln i) pb cap BB sz 0 w1 ∧ PK w.heap.size w w1 ∧ (n = 0 → pb = none)) := ⟨hPI, hPK, hnil⟩
  clear HK HNEW hPI hPK hnil
  rw [tl7]
  refine seq_cut ?_
  intro K HK
  conv => arg 2; whnf
  go_wp2
  refine HK.out _ _ ?_
  obtain ⟨h1, h2, h3⟩ := HP.out
  obtain ⟨g1, g2, g3, g4, g5, g6, g7⟩ := HH.out
  have hB1 : Below w.heap.size w (w1.alloc (.cells #[] 29)) := (h2.below (Nat.le_refl _)).trans ((below_one _).mono h2.size)
  have hlt := h1.lt
  have hbb : 0 < n → BB < w1.heap.size := fun h0 => by obtain ⟨LL, cc, vv, h, hs, g, gs, P, I⟩ := h1; exact World.block_lt_of_cell? _ _ (P.pool.byv 0 h0)
  exact law8 Q t pk (some ⟨w1.heap.size, 0, none⟩) pO p11 0 no cO c11 OPB oO oo hh tt aa xx _ _ _ _ _ _ _ _ _ _ _ _ _ _ _ _ _ _ _ _ _ _ _ _ _ _ _ _ _ _ _ _ _ _ _ _ _ _ _ _ _ _ _ _ _ _ _ _ _ _ _ _ _ _ _ _ _ _ _ _ _ _ _ _ _ _ _ _ _ _ _ _ _ _ _ _ _ _ _ _ _ _ _ _ _ _ _ _ _ _ _ _ _ _ _ _ _ _ _ _ _ _ _ _ _ _ _ _ _ _ _ _ _ _ _ _ _ _ _ _ _ _ _ _ _ _ _ _ _ _ _ _ _ _ _ _ _ _ _ _ _ _ _ _ _ _ _ _ _ _ _ _ _ _ _ _ _ _ _ _ _ _ _ _ _ _ _ _ _ _ _ _ _ _ _ _ _ _ _ _ _ _ _ _ _ _ _ _ _ _ _ _ _ _ _ _ _ _ _ _ _ _ _ _ _ _ _ _ _ _ _ _ _ _ _ _ _ _ _ _ _ _ _ _ _ _ _ _ _ _ _ _ _ _ _ _ _ _ _ _ _ _ _ _ _ _ _ _ _ _ _ _ _ _ _ _ _ _ _ _ _ _ _ _ _ _ _ _ _ _ _ _ _ _ _ _ _ _ _ _ _ _ _ _ _ _ _ _ _ _ _ _ _ _ _ _ _ _ _ _ _ _ _ _ _ _ _ _ _ _ _ _ _ _ _ _ _ _ _ _ _ _ _ _ _ _ _ _ _ _ _ _ _ _ _ _ _ _ _ _ _ _ _ _ _ _ _ _ _ _ _ _ _ _ _ _ _ _ _ _ _ _ _ _ _ _ _ _ _ _ _ _ _ _ _ _ _ _ _ _ _ _ _ _ _ _ _ _ _ _ _ _ _ _ _ _ _ _ _ _ _ _ _ _ _ _ _ _ _ _ _ _ _ _ _ _ _ _ _ _ _ _ _ _ _ _ _ _ _ _ _ _ _ _ _ _ _ _ _ _ _ _ _ _ _ _ _ _ _ _ _ _ _ _ _ _ _ _ _ _ _ _ _ _ _ _ _ _ _ _ _ _ _ _ _ _ _ _ _ _ _ _ _ _ _ g1 (h1.below (below_one _)) h3 g2 hno g3
    ⟨rfl, .inr ⟨w1.heap.size, 0, #[], rfl, by omega, heap_alloc_new w1 _, by simp, by simp, by simp, by simp⟩⟩ (fun h0 e => by have := hbb h0; simp [Value.ownBlock] at e; omega) g4
    (fun i hi => ⟨(hB1.cell (p := ⟨OPB, oO i, none⟩) (g3 (by omega))).trans (g5 i hi).1, (hB1.cell (p := ⟨OPB, oO i + 1, none⟩) (g3 (by omega))).trans (g5 i hi).2.1, (hB1.cell (p := ⟨OPB, oO i + 2, none⟩) (g3 (by omega))).trans (g5 i hi).2.2.1, (hB1.cell (p := ⟨OPB, oO i + 3, none⟩) (g3 (by omega))).trans (g5 i hi).2.2.2⟩) g6 g7 (fun a W hW h10 => HQ.out a W (hB1.trans hW) h10)

end Go.Proofs.Ybulkdlic
