/-
  DERIVED. alloc.LawS5618BWhole: THE LAW's LAST TEST.
-/
import Derived.Test.YbulkdlicBLaw0
namespace Go.Proofs.Ybulkdlic
open Go.RowKit

attribute [local go_sem ↓] Go.wp_at_zero Go.wp_at_succ

set_option maxRecDepth 1000000 in
theorem tl38 : tl 38 B4 = .seq (hdc (tl 38 B4)) (tl 39 B4) := by kernel_rfl

set_option maxRecDepth 1000000 in
set_option maxHeartbeats 4000000 in
theorem law38 {M n : Nat} {rev : Bool} {F Z : Nat → Nat} {pb : Option Addr} {cap BB k : Nat} {LL : Nat → List (Nat × Nat)} {cc : Nat → Nat} {vv : Nat → Value} {h : List UInt8 → Option Nat} {hs : Nat} {g : Nat → Bool} {gs sz : Nat} {w : World}
    (Q : Exit → Act → World → Prop) (pb' : Option Addr) (cap' BB' SB : Nat) (c0 c1 c2 c3 c4 c5 c6 c7 c8 c9 c10 c11 c12 c13 c14 c16 c17 c18 c19 c20 c21 c22 c23 c24 c25 c26 c27 c28 c29 c30 c31 c34 c35 c36 c37 c38 c39 c40 c41 c42 c43 c44 c45 c46 c47 c48 c49 c50 c51 c52 c53 c54 c55 c56 c57 c58 c59 c60 c61 c62 c63 c64 c65 c66 c67 c68 c69 c70 c71 c72 c73 c74 c75 c76 c77 c78 c79 c80 c81 c82 c83 c84 c85 c86 c87 c88 c89 c90 c91 c92 c93 c94 c95 c96 c97 c98 c99 c100 c101 c102 c103 c104 c105 c106 c107 c108 c109 c110 c111 c112 c113 c114 c115 c116 c117 c118 c119 c120 c121 c122 c123 c124 c125 c126 c127 c128 c129 c130 c131 c132 c133 c134 c135 c136 c137 c138 c139 c140 c141 c142 c143 c144 c145 c146 c147 c148 c149 c150 c151 c152 c153 c154 c155 c156 c157 c158 c159 c160 c161 c162 c163 c164 c165 c166 c167 c168 c169 c170 c171 c172 c173 c174 c175 c176 c177 c178 c179 c180 c181 c182 c183 c184 c185 c186 c187 c188 c189 c190 c191 c192 c193 c194 c195 c196 c197 c198 c199 c200 c201 c202 c203 c204 c205 c206 c207 c208 c209 c210 c211 c212 c213 c214 c215 c216 c217 c218 c219 c220 c221 c222 c223 c224 c225 c226 c227 c228 c229 c230 c231 c232 c233 c234 c235 c236 c237 c238 c239 c240 c241 c242 c243 c244 c245 c246 c247 c248 c249 c250 c251 c252 c253 c254 c255 c256 c257 c258 c259 c260 c261 c262 c263 c264 c265 c266 c267 c268 c269 c270 c271 c272 c273 c274 c275 c276 c277 c278 c279 c280 c281 c282 c283 c284 c285 c286 c287 c288 c289 c290 c291 c292 c293 c294 c295 c296 c297 c298 c299 c300 c301 c302 c303 c304 c305 c306 c307 c308 c309 c310 c311 c312 c313 c314 c315 c316 c317 c318 c319 c320 c321 c322 c323 c324 c325 c326 c327 c328 c329 c330 c331 c332 c333 c334 c335 c336 c337 c338 c339 c340 c341 c342 c343 c344 c345 c346 c347 c348 c349 c350 c351 c352 c353 c354 c355 c356 c357 c358 c359 c360 c361 c362 c363 c364 c365 c366 c367 c368 c369 c370 c371 c372 c373 c374 c375 c376 c377 c378 c379 c380 c381 c382 c383 c384 c385 c386 c387 c388 c389 c390 c391 c392 c393 c394 c395 c396 c397 c398 c399 c400 c401 c402 c403 c404 c405 c406 c407 c408 c409 c410 c411 c412 c413 c414 c415 c416 c417 c418 c419 c420 c421 c422 c423 c424 c425 c426 c427 c428 c429 c430 c431 c432 c433 c434 c435 c436 c437 c438 c439 c440 c441 c442 c443 c444 c445 c446 c447 c448 c449 c450 c451 c452 c453 c454 c455 c456 c457 c458 c459 c460 c461 c462 c463 c464 c465 c466 c467 c468 c469 c470 c471 c472 c473 c474 c475 c476 c477 c478 c479 c480 c481 c482 c483 c484 c485 c486 c487 c488 c489 c490 : Value)
    (hP : PS M n rev F Z pb cap BB k LL cc vv h hs g gs sz w) (hn : n ≤ 256) (hpb' : 0 < n → pb' = some ⟨BB', 0, none⟩) (hc' : ∀ k, k < n → w.cell? ⟨BB', k, none⟩ = some (.pointer (some ⟨M + 2, pr rev n k * 7, none⟩)))
    (s0 : w.cell? ⟨SB, 0, none⟩ = some (.int .u64 0)) (s1 : w.cell? ⟨SB, 1, none⟩ = some (.int .u64 (sz : Int)))
    (HQ : Hid (∀ a W, Below w.heap.size w W → a.tmps[10]? = some (.bool true) ∧ a.defers = [] → Q .ret a W)) :
    Code.wp Yba.prog (tl 38 B4) Q ⟨#[c0, c1, c2, c3, c4, c5, c6, c7, c8, c9, c10, c11, c12, c13, c14, .pointer (some ⟨M + 3, 0, none⟩), c16, c17, c18, c19, c20, c21, c22, c23, c24, c25, c26, c27, c28, c29, c30, c31, .slice pb' n cap', .pointer (some ⟨SB, 0, none⟩), c34, c35, c36, c37, c38, c39, c40, c41, c42, c43, c44, c45, c46, c47, c48, c49, c50, c51, c52, c53, c54, c55, c56, c57, c58, c59, c60, c61, c62, c63, c64, c65, c66, c67, c68, c69, c70, c71, c72, c73, c74, c75, c76, c77, c78, c79, c80, c81, c82, c83, c84, c85, c86, c87, c88, c89, c90, c91, c92, c93, c94, c95, c96, c97, c98, c99, c100, c101, c102, c103, c104, c105, c106, c107, c108, c109, c110, c111, c112, c113, c114, c115, c116, c117, c118, c119, c120, c121, c122, c123, c124, c125, c126, c127, c128, c129, c130, c131, c132, c133, c134, c135, c136, c137, c138, c139, c140, c141, c142, c143, c144, c145, c146, c147, c148, c149, c150, c151, c152, c153, c154, c155, c156, c157, c158, c159, c160, c161, c162, c163, c164, c165, c166, c167, c168, c169, c170, c171, c172, c173, c174, c175, c176, c177, c178, c179, c180, c181, c182, c183, c184, c185, c186, c187, c188, c189, c190, c191, c192, c193, c194, c195, c196, c197, c198, c199, c200, c201, c202, c203, c204, c205, c206, c207, c208, c209, c210, c211, c212, c213, c214, c215, c216, c217, c218, c219, c220, c221, c222, c223, c224, c225, c226, c227, c228, c229, c230, c231, c232, c233, c234, c235, c236, c237, c238, c239, c240, c241, c242, c243, c244, c245, c246, c247, c248, c249, c250, c251, c252, c253, c254, c255, c256, c257, c258, c259, c260, c261, c262, c263, c264, c265, c266, c267, c268, c269, c270, c271, c272, c273, c274, c275, c276, c277, c278, c279, c280, c281, c282, c283, c284, c285, c286, c287, c288, c289, c290, c291, c292, c293, c294, c295, c296, c297, c298, c299, c300, c301, c302, c303, c304, c305, c306, c307, c308, c309, c310, c311, c312, c313, c314, c315, c316, c317, c318, c319, c320, c321, c322, c323, c324, c325, c326, c327, c328, c329, c330, c331, c332, c333, c334, c335, c336, c337, c338, c339, c340, c341, c342, c343, c344, c345, c346, c347, c348, c349, c350, c351, c352, c353, c354, c355, c356, c357, c358, c359, c360, c361, c362, c363, c364, c365, c366, c367, c368, c369, c370, c371, c372, c373, c374, c375, c376, c377, c378, c379, c380, c381, c382, c383, c384, c385, c386, c387, c388, c389, c390, c391, c392, c393, c394, c395, c396, c397, c398, c399, c400, c401, c402, c403, c404, c405, c406, c407, c408, c409, c410, c411, c412, c413, c414, c415, c416, c417, c418, c419, c420, c421, c422, c423, c424, c425, c426, c427, c428, c429, c430, c431, c432, c433, c434, c435, c436, c437, c438, c439, c440, c441, c442, c443, c444, c445, c446, c447, c448, c449, c450, c451, c452, c453, c454, c455, c456, c457, c458, c459, c460, c461, c462, c463, c464, c465, c466, c467, c468, c469, c470, c471, c472, c473, c474, c475, c476, c477, c478, c479, c480, c481, c482, c483, c484, c485, c486, c487, c488, c489, c490], []⟩ w := by
  have HE := equalP_same BB BB' n cap cap' (M + 2) pb pb' (fun k => pr rev n k * 7) w.drew (by omega) hP.pbs hpb' hP.pool.byv hc'
  have c3 : w.cell? ⟨M + 3, 3, none⟩ = some (.slice pb n cap) := hP.pool.sl
  have c4 := hP.c4
  have c5 : w.cell? ⟨M + 3, 4 + 1, none⟩ = some (.int .u64 (sz : Int)) := hP.c5
  have hS : ∀ W, Below w.heap.size w W → W.cell? ⟨M + 3, 3, none⟩ = some (.slice pb n cap) ∧ W.cell? ⟨M + 3, 4, none⟩ = some (.int .u64 0) ∧ W.cell? ⟨M + 3, 4 + 1, none⟩ = some (.int .u64 (sz : Int)) ∧ W.cell? ⟨SB, 0, none⟩ = some (.int .u64 0) ∧ W.cell? ⟨SB, 1, none⟩ = some (.int .u64 (sz : Int)) ∧ Below w.heap.size w W := fun W hb => ⟨cell_below c3 hb, cell_below c4 hb, cell_below c5 hb, cell_below s0 hb, cell_below s1 hb, hb⟩
  clear hP hpb' hc'
  rw [tl38]
  refine seq_cut ?_
  intro K HK
  conv => arg 2; whnf
  go_wp2
  go_region_held3 (fun W => W.cell? ⟨M + 3, 3, none⟩ = some (.slice pb n cap) ∧ W.cell? ⟨M + 3, 4, none⟩ = some (.int .u64 0) ∧ W.cell? ⟨M + 3, 4 + 1, none⟩ = some (.int .u64 (sz : Int)) ∧ W.cell? ⟨SB, 0, none⟩ = some (.int .u64 0) ∧ W.cell? ⟨SB, 1, none⟩ = some (.int .u64 (sz : Int)) ∧ Below w.heap.size w W)
    (first | exact hS _ (Below.refl _ _).drew | exact hS _ (((Below.refl _ _).drew).trans hB'))
    (first | (go_at_call 21; refine HE.mono ?_; rintro e w' ⟨rfl, hB'⟩))
  rename_i hHeld
  have HB : Hid (Below w.heap.size w w') := hHeld.2.2.2.2.2
  clear hHeld hB' hS HE
  go_wp2
  refine HK.out _ _ ?_
  conv => arg 2; whnf
  go_wp2
  exact HQ.out _ _ HB.out ⟨rfl, rfl⟩

end Go.Proofs.Ybulkdlic
