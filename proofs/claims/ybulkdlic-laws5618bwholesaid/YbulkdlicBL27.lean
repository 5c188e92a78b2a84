/-
  DERIVED. alloc.LawS5618BWhole: THE LAW, the names behind Release.
-/
import Derived.Test.YbulkdlicBL28
namespace Go.Proofs.Ybulkdlic
open Go.RowKit

attribute [local go_sem ↓] Go.wp_at_zero Go.wp_at_succ

theorem bytes_ne {a b : ByteArray} (h : a ≠ b) : (a.toList == b.toList) = false := by
  rw [beq_eq_false_iff_ne]
  intro e
  rw [ByteArray.toList_eq, ByteArray.toList_eq] at e
  exact h (WideShapes.bytes_inj e)

set_option maxRecDepth 1000000 in
theorem tl27 : tl 27 B4 = .seq (hdc (tl 27 B4)) (tl 28 B4) := by kernel_rfl

set_option maxRecDepth 1000000 in
set_option maxHeartbeats 4000000 in
theorem law27 {M n : Nat} {rev : Bool} {F Z : Nat → Nat} {pb : Option Addr} {cap BB k : Nat} {LL : Nat → List (Nat × Nat)} {cc : Nat → Nat} {vv : Nat → Value} {h : List UInt8 → Option Nat} {hs : Nat} {g : Nat → Bool} {gs sz : Nat} {w : World} {pb' : Option Addr} {cap' BB' SB RB CB HB x eb : Nat} {tg : Int} {ov : Nat → Value} {LL0 : Nat → List (Nat × Nat)} {cc0 : Nat → Nat}
    (Q : Exit → Act → World → Prop) (b35 b36 : Bool) (ob ol m cg GB QB : Nat) (pG : Option Addr) (bv : Nat → Nat) (g0 : Nat → Bool) (t : ByteArray) (NB VB OB : Nat) (nm : Nat → ByteArray) (h0 : List UInt8 → Option Nat) (c0 c1 c2 c4 c5 c6 c7 c8 c9 c10 c11 c12 c13 c14 c17 c18 c19 c20 c24 c28 c31 c37 c38 c39 c40 c41 c42 c43 c44 c45 c46 c47 c48 c49 c50 c51 c52 c53 c54 c55 c56 c57 c58 c59 c60 c61 c62 c63 c64 c65 c66 c67 c68 c69 c70 c71 c72 c73 c74 c75 c76 c77 c78 c79 c80 c81 c82 c83 c84 c85 c86 c87 c88 c89 c90 c91 c92 c93 c94 c95 c96 c97 c98 c99 c100 c101 c102 c103 c104 c105 c106 c107 c108 c109 c110 c111 c112 c113 c114 c115 c116 c117 c118 c119 c120 c121 c122 c123 c124 c125 c126 c127 c128 c129 c130 c131 c132 c133 c134 c135 c136 c137 c138 c139 c140 c141 c142 c143 c144 c145 c146 c147 c148 c149 c150 c151 c152 c153 c154 c155 c156 c157 c158 c159 c160 c161 c162 c163 c164 c165 c166 c167 c168 c169 c170 c171 c172 c173 c174 c175 c176 c177 c178 c179 c180 c181 c182 c183 c184 c185 c186 c187 c188 c189 c190 c191 c192 c193 c194 c195 c196 c197 c198 c199 c200 c201 c202 c203 c204 c205 c206 c207 c208 c209 c210 c211 c212 c213 c214 c215 c216 c217 c218 c219 c220 c221 c222 c223 c224 c225 c226 c227 c228 c229 c230 c231 c232 c233 c234 c235 c236 c237 c238 c239 c240 c241 c242 c243 c244 c245 c246 c247 c248 c249 c250 c251 c252 c253 c254 c255 c256 c257 c258 c259 c260 c261 c262 c263 c264 c265 c266 c267 c268 c269 c270 c271 c272 c273 c274 c275 c276 c277 c278 c279 c280 c281 c282 c283 c284 c285 c286 c287 c288 c289 c290 c291 c292 c293 c294 c295 c296 c297 c298 c299 c300 c301 c302 c303 c304 c305 c306 c307 c308 c309 c310 c311 c312 c313 c314 c315 c316 c317 c318 c319 c320 c321 c322 c323 c324 c325 c326 c327 c328 c329 c330 c331 c332 c333 c334 c335 c336 c337 c338 c339 c340 c341 c342 c343 c344 c345 c346 c347 c348 c349 c350 c351 c352 c353 c354 c355 c356 c357 c358 c359 c360 c361 c362 c363 c364 c365 c366 c367 c368 c369 c370 c371 c372 c373 c374 c375 c376 c377 c378 c379 c380 c381 c382 c383 c384 c385 c386 c387 c388 c389 c390 c391 c392 c393 c394 c395 c396 c397 c398 c399 c400 c401 c402 c403 c404 c405 c406 c407 c408 c409 c410 c411 c412 c413 c414 c415 c416 c417 c418 c419 c420 c421 c422 c423 c424 c425 c426 c427 c428 c429 c430 c431 c432 c433 c434 c435 c436 c437 c438 c439 c440 c441 c442 c443 c444 c445 c446 c447 c448 c449 c450 c451 c452 c453 c454 c455 c456 c457 c458 c459 c460 c461 c462 c463 c464 c465 c466 c467 c468 c469 c470 c471 c472 c473 c474 c475 c476 c477 c478 c479 c480 c481 c482 c483 c484 c485 c486 c487 c488 c489 c490 : Value)
    (hcase : (b35 = true ∧ b36 = false ∧ ∃ q, q < n ∧ tg = (q : Int) ∧ F (pr rev n q) ≤ x ∧ x ≤ Z (pr rev n q)) ∨ ((b35 && !b36) = false ∧ tg = -1))
    (f : LF M n rev F Z pb cap BB k LL cc vv h hs g gs sz pb' cap' BB' SB RB CB HB x eb tg ov LL0 cc0 w) (hob : gs + (if b36 then 1 else 0) = ob) (hol : hs + (if b35 then 1 else 0) = ol) (hk : k ≤ 100000) (hm : m ≤ 100000)
    (hix : ∀ (i : Nat), i < m → ∀ W, (Instr.indexAt 55 (.slice pG m cg) (.int .i64 i)).run Yba.prog W = .ok (.pointer (some ⟨GB, i * 2, none⟩)) W)
    (hbv : ∀ i, i < m → w.cell? ⟨GB, i * 2, none⟩ = some (.int .u64 0) ∧ w.cell? ⟨GB, i * 2 + 1, none⟩ = some (.int .u64 (bv i : Int)) ∧ w.cell? ⟨QB, i, none⟩ = some (.bool (g0 (bv i))))
    (hg : ∀ i, i < m → bv i < 18446744073709551616 ∧ g (bv i) = (if b36 = true ∧ bv i = x then false else g0 (bv i)))
    (hnm : ∀ i, i < 5 → (nm i).size ≤ maxLen ∧ w.cell? ⟨NB, i, none⟩ = some (.string (nm i)) ∧ w.cell? ⟨VB, i * 2, none⟩ = some (.int .u64 0) ∧ w.cell? ⟨VB, i * 2 + 1, none⟩ = some (.int .u64 (((h0 (nm i).data.toList).getD 0 : Nat) : Int)) ∧ w.cell? ⟨OB, i, none⟩ = some (.bool (h0 (nm i).data.toList).isSome))
    (hh : h = updH h0 t.data.toList none)
    (HQ : Hid (∀ a W, Below w.heap.size w W → a.tmps[10]? = some (.bool true) ∧ a.defers = [] → Q .ret a W)) :
    Code.wp Yba.prog (tl 27 B4) Q ⟨#[c0, c1, c2, .string t, c4, c5, c6, c7, c8, c9, c10, c11, c12, c13, c14, .pointer (some ⟨M + 3, 0, none⟩), .slice pG m cg, c17, c18, c19, c20, .slice (some ⟨NB, 0, none⟩) 5 5, .slice (some ⟨VB, 0, none⟩) 5 5, .slice (some ⟨OB, 0, none⟩) 5 5, c24, .int .i64 (ol : Int), .int .i64 (ob : Int), .slice (some ⟨QB, 0, none⟩) m m, c28, .slice (some ⟨RB, 0, none⟩) n n, .slice (some ⟨CB, 0, none⟩) n n, c31, .slice pb' n cap', .pointer (some ⟨SB, 0, none⟩), .pointer (some ⟨HB, 0, none⟩), .bool b35, .bool b36, c37, c38, c39, c40, c41, c42, c43, c44, c45, c46, c47, c48, c49, c50, c51, c52, c53, c54, c55, c56, c57, c58, c59, c60, c61, c62, c63, c64, c65, c66, c67, c68, c69, c70, c71, c72, c73, c74, c75, c76, c77, c78, c79, c80, c81, c82, c83, c84, c85, c86, c87, c88, c89, c90, c91, c92, c93, c94, c95, c96, c97, c98, c99, c100, c101, c102, c103, c104, c105, c106, c107, c108, c109, c110, c111, c112, c113, c114, c115, c116, c117, c118, c119, c120, c121, c122, c123, c124, c125, c126, c127, c128, c129, c130, c131, c132, c133, c134, c135, c136, c137, c138, c139, c140, c141, c142, c143, c144, c145, c146, c147, c148, c149, c150, c151, c152, c153, c154, c155, c156, c157, c158, c159, c160, c161, c162, c163, c164, c165, c166, c167, c168, c169, c170, c171, c172, c173, c174, c175, c176, c177, c178, c179, c180, c181, c182, c183, c184, c185, c186, c187, c188, c189, c190, c191, c192, c193, c194, c195, c196, c197, c198, c199, c200, c201, c202, c203, c204, c205, c206, c207, c208, c209, c210, c211, c212, c213, c214, c215, c216, c217, c218, c219, c220, c221, c222, c223, c224, c225, c226, c227, c228, c229, c230, c231, c232, c233, c234, c235, c236, c237, c238, c239, c240, c241, c242, c243, c244, c245, c246, c247, c248, c249, c250, c251, c252, c253, c254, c255, c256, c257, c258, c259, c260, c261, c262, c263, c264, c265, c266, c267, c268, c269, c270, c271, c272, c273, c274, c275, c276, c277, c278, c279, c280, c281, c282, c283, c284, c285, c286, c287, c288, c289, c290, c291, c292, c293, c294, c295, c296, c297, c298, c299, c300, c301, c302, c303, c304, c305, c306, c307, c308, c309, c310, c311, c312, c313, c314, c315, c316, c317, c318, c319, c320, c321, c322, c323, c324, c325, c326, c327, c328, c329, c330, c331, c332, c333, c334, c335, c336, c337, c338, c339, c340, c341, c342, c343, c344, c345, c346, c347, c348, c349, c350, c351, c352, c353, c354, c355, c356, c357, c358, c359, c360, c361, c362, c363, c364, c365, c366, c367, c368, c369, c370, c371, c372, c373, c374, c375, c376, c377, c378, c379, c380, c381, c382, c383, c384, c385, c386, c387, c388, c389, c390, c391, c392, c393, c394, c395, c396, c397, c398, c399, c400, c401, c402, c403, c404, c405, c406, c407, c408, c409, c410, c411, c412, c413, c414, c415, c416, c417, c418, c419, c420, c421, c422, c423, c424, c425, c426, c427, c428, c429, c430, c431, c432, c433, c434, c435, c436, c437, c438, c439, c440, c441, c442, c443, c444, c445, c446, c447, c448, c449, c450, c451, c452, c453, c454, c455, c456, c457, c458, c459, c460, c461, c462, c463, c464, c465, c466, c467, c468, c469, c470, c471, c472, c473, c474, c475, c476, c477, c478, c479, c480, c481, c482, c483, c484, c485, c486, c487, c488, c489, c490], []⟩ w := by
  have HN : Hid (∀ (W : World) (c0 c1 c2 c3 c4 c5 c6 c7 c8 c9 c10 c11 c12 c13 c14 c17 c18 c19 c20 c21 c22 c23 c24 c28 c31 c37 c38 c39 c40 c41 c42 c43 c44 c45 c46 c47 c48 c49 c50 c51 c52 c53 c54 c55 c56 c57 c58 c59 c60 c61 c62 c63 c64 c65 c66 c67 c68 c69 c70 c71 c72 c73 c74 c75 c76 c77 c78 c79 c80 c81 c82 c83 c84 c85 c86 c87 c88 c89 c90 c91 c92 c93 c94 c95 c96 c97 c98 c99 c100 c101 c102 c103 c104 c105 c106 c107 c108 c109 c110 c111 c112 c113 c114 c115 c116 c117 c118 c119 c120 c121 c122 c123 c124 c125 c126 c127 c128 c129 c130 c131 c132 c133 c134 c135 c136 c137 c138 c139 c140 c141 c142 c143 c144 c145 c146 c147 c148 c149 c150 c151 c152 c153 c154 c155 c156 c157 c158 c159 c160 c161 c162 c163 c164 c165 c166 c167 c168 c169 c170 c171 c172 c173 c174 c175 c176 c177 c178 c179 c180 c181 c182 c183 c184 c185 c186 c187 c188 c189 c190 c191 c192 c193 c194 c195 c196 c197 c198 c199 c200 c201 c202 c203 c204 c205 c206 c207 c208 c209 c210 c211 c212 c213 c214 c215 c216 c217 c218 c219 c220 c221 c222 c223 c224 c225 c226 c227 c228 c229 c230 c231 c232 c233 c234 c235 c236 c237 c238 c239 c240 c241 c242 c243 c244 c245 c246 c247 c248 c249 c250 c251 c252 c253 c254 c255 c256 c257 c258 c259 c260 c261 c262 c263 c264 c265 c266 c267 c268 c269 c270 c271 c272 c273 c274 c275 c276 c277 c278 c279 c280 c281 c282 c283 c284 c285 c286 c287 c288 c289 c290 c291 c292 c293 c294 c295 c296 c297 c298 c299 c300 c301 c302 c303 c304 c305 c306 c307 c308 c309 c310 c311 c312 c313 c314 c315 c316 c317 c318 c319 c320 c321 c322 c323 c324 c325 c326 c327 c328 c329 c330 c331 c332 c333 c334 c335 c336 c337 c338 c339 c340 c341 c342 c343 c344 c345 c346 c347 c348 c349 c350 c351 c352 c353 c354 c355 c356 c357 c358 c359 c360 c361 c362 c363 c364 c365 c366 c367 c368 c369 c370 c371 c372 c373 c374 c375 c376 c377 c378 c379 c380 c381 c382 c383 c384 c385 c386 c387 c388 c389 c390 c391 c392 c393 c394 c395 c396 c397 c398 c399 c400 c401 c402 c403 c404 c405 c406 c407 c408 c409 c410 c411 c412 c413 c414 c415 c416 c417 c418 c419 c420 c421 c422 c423 c424 c425 c426 c427 c428 c429 c430 c431 c432 c433 c434 c435 c436 c437 c438 c439 c440 c441 c442 c443 c444 c445 c446 c447 c448 c449 c450 c451 c452 c453 c454 c455 c456 c457 c458 c459 c460 c461 c462 c463 c464 c465 c466 c467 c468 c469 c470 c471 c472 c473 c474 c475 c476 c477 c478 c479 c480 c481 c482 c483 c484 c485 c486 c487 c488 c489 c490 : Value), Below w.heap.size w W → Code.wp Yba.prog (tl 28 B4) Q ⟨#[c0, c1, c2, c3, c4, c5, c6, c7, c8, c9, c10, c11, c12, c13, c14, .pointer (some ⟨M + 3, 0, none⟩), .slice pG m cg, c17, c18, c19, c20, c21, c22, c23, c24, .int .i64 (ol : Int), .int .i64 (ob : Int), .slice (some ⟨QB, 0, none⟩) m m, c28, .slice (some ⟨RB, 0, none⟩) n n, .slice (some ⟨CB, 0, none⟩) n n, c31, .slice pb' n cap', .pointer (some ⟨SB, 0, none⟩), .pointer (some ⟨HB, 0, none⟩), .bool b35, .bool b36, c37, c38, c39, c40, c41, c42, c43, c44, c45, c46, c47, c48, c49, c50, c51, c52, c53, c54, c55, c56, c57, c58, c59, c60, c61, c62, c63, c64, c65, c66, c67, c68, c69, c70, c71, c72, c73, c74, c75, c76, c77, c78, c79, c80, c81, c82, c83, c84, c85, c86, c87, c88, c89, c90, c91, c92, c93, c94, c95, c96, c97, c98, c99, c100, c101, c102, c103, c104, c105, c106, c107, c108, c109, c110, c111, c112, c113, c114, c115, c116, c117, c118, c119, c120, c121, c122, c123, c124, c125, c126, c127, c128, c129, c130, c131, c132, c133, c134, c135, c136, c137, c138, c139, c140, c141, c142, c143, c144, c145, c146, c147, c148, c149, c150, c151, c152, c153, c154, c155, c156, c157, c158, c159, c160, c161, c162, c163, c164, c165, c166, c167, c168, c169, c170, c171, c172, c173, c174, c175, c176, c177, c178, c179, c180, c181, c182, c183, c184, c185, c186, c187, c188, c189, c190, c191, c192, c193, c194, c195, c196, c197, c198, c199, c200, c201, c202, c203, c204, c205, c206, c207, c208, c209, c210, c211, c212, c213, c214, c215, c216, c217, c218, c219, c220, c221, c222, c223, c224, c225, c226, c227, c228, c229, c230, c231, c232, c233, c234, c235, c236, c237, c238, c239, c240, c241, c242, c243, c244, c245, c246, c247, c248, c249, c250, c251, c252, c253, c254, c255, c256, c257, c258, c259, c260, c261, c262, c263, c264, c265, c266, c267, c268, c269, c270, c271, c272, c273, c274, c275, c276, c277, c278, c279, c280, c281, c282, c283, c284, c285, c286, c287, c288, c289, c290, c291, c292, c293, c294, c295, c296, c297, c298, c299, c300, c301, c302, c303, c304, c305, c306, c307, c308, c309, c310, c311, c312, c313, c314, c315, c316, c317, c318, c319, c320, c321, c322, c323, c324, c325, c326, c327, c328, c329, c330, c331, c332, c333, c334, c335, c336, c337, c338, c339, c340, c341, c342, c343, c344, c345, c346, c347, c348, c349, c350, c351, c352, c353, c354, c355, c356, c357, c358, c359, c360, c361, c362, c363, c364, c365, c366, c367, c368, c369, c370, c371, c372, c373, c374, c375, c376, c377, c378, c379, c380, c381, c382, c383, c384, c385, c386, c387, c388, c389, c390, c391, c392, c393, c394, c395, c396, c397, c398, c399, c400, c401, c402, c403, c404, c405, c406, c407, c408, c409, c410, c411, c412, c413, c414, c415, c416, c417, c418, c419, c420, c421, c422, c423, c424, c425, c426, c427, c428, c429, c430, c431, c432, c433, c434, c435, c436, c437, c438, c439, c440, c441, c442, c443, c444, c445, c446, c447, c448, c449, c450, c451, c452, c453, c454, c455, c456, c457, c458, c459, c460, c461, c462, c463, c464, c465, c466, c467, c468, c469, c470, c471, c472, c473, c474, c475, c476, c477, c478, c479, c480, c481, c482, c483, c484, c485, c486, c487, c488, c489, c490], []⟩ W) := by
    intro W c0 c1 c2 c3 c4 c5 c6 c7 c8 c9 c10 c11 c12 c13 c14 c17 c18 c19 c20 c21 c22 c23 c24 c28 c31 c37 c38 c39 c40 c41 c42 c43 c44 c45 c46 c47 c48 c49 c50 c51 c52 c53 c54 c55 c56 c57 c58 c59 c60 c61 c62 c63 c64 c65 c66 c67 c68 c69 c70 c71 c72 c73 c74 c75 c76 c77 c78 c79 c80 c81 c82 c83 c84 c85 c86 c87 c88 c89 c90 c91 c92 c93 c94 c95 c96 c97 c98 c99 c100 c101 c102 c103 c104 c105 c106 c107 c108 c109 c110 c111 c112 c113 c114 c115 c116 c117 c118 c119 c120 c121 c122 c123 c124 c125 c126 c127 c128 c129 c130 c131 c132 c133 c134 c135 c136 c137 c138 c139 c140 c141 c142 c143 c144 c145 c146 c147 c148 c149 c150 c151 c152 c153 c154 c155 c156 c157 c158 c159 c160 c161 c162 c163 c164 c165 c166 c167 c168 c169 c170 c171 c172 c173 c174 c175 c176 c177 c178 c179 c180 c181 c182 c183 c184 c185 c186 c187 c188 c189 c190 c191 c192 c193 c194 c195 c196 c197 c198 c199 c200 c201 c202 c203 c204 c205 c206 c207 c208 c209 c210 c211 c212 c213 c214 c215 c216 c217 c218 c219 c220 c221 c222 c223 c224 c225 c226 c227 c228 c229 c230 c231 c232 c233 c234 c235 c236 c237 c238 c239 c240 c241 c242 c243 c244 c245 c246 c247 c248 c249 c250 c251 c252 c253 c254 c255 c256 c257 c258 c259 c260 c261 c262 c263 c264 c265 c266 c267 c268 c269 c270 c271 c272 c273 c274 c275 c276 c277 c278 c279 c280 c281 c282 c283 c284 c285 c286 c287 c288 c289 c290 c291 c292 c293 c294 c295 c296 c297 c298 c299 c300 c301 c302 c303 c304 c305 c306 c307 c308 c309 c310 c311 c312 c313 c314 c315 c316 c317 c318 c319 c320 c321 c322 c323 c324 c325 c326 c327 c328 c329 c330 c331 c332 c333 c334 c335 c336 c337 c338 c339 c340 c341 c342 c343 c344 c345 c346 c347 c348 c349 c350 c351 c352 c353 c354 c355 c356 c357 c358 c359 c360 c361 c362 c363 c364 c365 c366 c367 c368 c369 c370 c371 c372 c373 c374 c375 c376 c377 c378 c379 c380 c381 c382 c383 c384 c385 c386 c387 c388 c389 c390 c391 c392 c393 c394 c395 c396 c397 c398 c399 c400 c401 c402 c403 c404 c405 c406 c407 c408 c409 c410 c411 c412 c413 c414 c415 c416 c417 c418 c419 c420 c421 c422 c423 c424 c425 c426 c427 c428 c429 c430 c431 c432 c433 c434 c435 c436 c437 c438 c439 c440 c441 c442 c443 c444 c445 c446 c447 c448 c449 c450 c451 c452 c453 c454 c455 c456 c457 c458 c459 c460 c461 c462 c463 c464 c465 c466 c467 c468 c469 c470 c471 c472 c473 c474 c475 c476 c477 c478 c479 c480 c481 c482 c483 c484 c485 c486 c487 c488 c489 c490 hb
    exact law28 Q b35 b36 ob ol m cg GB QB pG bv g0 c0 c1 c2 c3 c4 c5 c6 c7 c8 c9 c10 c11 c12 c13 c14 c17 c18 c19 c20 c21 c22 c23 c24 c28 c31 c37 c38 c39 c40 c41 c42 c43 c44 c45 c46 c47 c48 c49 c50 c51 c52 c53 c54 c55 c56 c57 c58 c59 c60 c61 c62 c63 c64 c65 c66 c67 c68 c69 c70 c71 c72 c73 c74 c75 c76 c77 c78 c79 c80 c81 c82 c83 c84 c85 c86 c87 c88 c89 c90 c91 c92 c93 c94 c95 c96 c97 c98 c99 c100 c101 c102 c103 c104 c105 c106 c107 c108 c109 c110 c111 c112 c113 c114 c115 c116 c117 c118 c119 c120 c121 c122 c123 c124 c125 c126 c127 c128 c129 c130 c131 c132 c133 c134 c135 c136 c137 c138 c139 c140 c141 c142 c143 c144 c145 c146 c147 c148 c149 c150 c151 c152 c153 c154 c155 c156 c157 c158 c159 c160 c161 c162 c163 c164 c165 c166 c167 c168 c169 c170 c171 c172 c173 c174 c175 c176 c177 c178 c179 c180 c181 c182 c183 c184 c185 c186 c187 c188 c189 c190 c191 c192 c193 c194 c195 c196 c197 c198 c199 c200 c201 c202 c203 c204 c205 c206 c207 c208 c209 c210 c211 c212 c213 c214 c215 c216 c217 c218 c219 c220 c221 c222 c223 c224 c225 c226 c227 c228 c229 c230 c231 c232 c233 c234 c235 c236 c237 c238 c239 c240 c241 c242 c243 c244 c245 c246 c247 c248 c249 c250 c251 c252 c253 c254 c255 c256 c257 c258 c259 c260 c261 c262 c263 c264 c265 c266 c267 c268 c269 c270 c271 c272 c273 c274 c275 c276 c277 c278 c279 c280 c281 c282 c283 c284 c285 c286 c287 c288 c289 c290 c291 c292 c293 c294 c295 c296 c297 c298 c299 c300 c301 c302 c303 c304 c305 c306 c307 c308 c309 c310 c311 c312 c313 c314 c315 c316 c317 c318 c319 c320 c321 c322 c323 c324 c325 c326 c327 c328 c329 c330 c331 c332 c333 c334 c335 c336 c337 c338 c339 c340 c341 c342 c343 c344 c345 c346 c347 c348 c349 c350 c351 c352 c353 c354 c355 c356 c357 c358 c359 c360 c361 c362 c363 c364 c365 c366 c367 c368 c369 c370 c371 c372 c373 c374 c375 c376 c377 c378 c379 c380 c381 c382 c383 c384 c385 c386 c387 c388 c389 c390 c391 c392 c393 c394 c395 c396 c397 c398 c399 c400 c401 c402 c403 c404 c405 c406 c407 c408 c409 c410 c411 c412 c413 c414 c415 c416 c417 c418 c419 c420 c421 c422 c423 c424 c425 c426 c427 c428 c429 c430 c431 c432 c433 c434 c435 c436 c437 c438 c439 c440 c441 c442 c443 c444 c445 c446 c447 c448 c449 c450 c451 c452 c453 c454 c455 c456 c457 c458 c459 c460 c461 c462 c463 c464 c465 c466 c467 c468 c469 c470 c471 c472 c473 c474 c475 c476 c477 c478 c479 c480 c481 c482 c483 c484 c485 c486 c487 c488 c489 c490 hcase (f.below hb) hob hol hk hm hix (fun i hi => ⟨cell_below (hbv i hi).1 hb, cell_below (hbv i hi).2.1 hb, cell_below (hbv i hi).2.2 hb⟩) hg (fun a W' hW h10 => HQ.out a W' (hb.trans (hW.mono hb.size)) h10)
  have HNM : Hid (∀ i, i < 5 → (nm i).size ≤ maxLen ∧ w.cell? ⟨NB, i, none⟩ = some (.string (nm i)) ∧ w.cell? ⟨VB, i * 2, none⟩ = some (.int .u64 0) ∧ w.cell? ⟨VB, i * 2 + 1, none⟩ = some (.int .u64 (((h0 (nm i).data.toList).getD 0 : Nat) : Int)) ∧ w.cell? ⟨OB, i, none⟩ = some (.bool (h0 (nm i).data.toList).isSome)) := hnm
  have HF : Hid (PS M n rev F Z pb cap BB k LL cc vv h hs g gs sz w ∧ h = updH h0 t.data.toList none) := ⟨f.P, hh⟩
  clear f hcase HQ hix hbv hg hob hol hnm hh
  rw [tl27]
  refine seq_cut ?_
  intro K HK
  conv => arg 2; whnf
  go_wp2
  go_loopw [39] (fun i wr => ∃ j : Nat, j ≤ 5 ∧ i = .int .i64 j ∧ Below w.heap.size w wr) (fun i _ => 5 - (intOf i).toNat)
  case atStart => exact ⟨0, Nat.zero_le _, rfl, Below.refl _ w⟩
  case round =>
    obtain ⟨i, hi, rfl, hB⟩ := hrel
    by_cases hlt : i < 5
    · have hlI : (i : Int) < 5 := by omega
      obtain ⟨hsz, a0, a1, a2, a3⟩ := HNM.out i hlt
      have z0 := cell_below a0 hB
      have z1 := cell_below a1 hB
      have z2 := cell_below a2 hB
      have z3 := cell_below a3 hB
      have P1 := HF.out.1.below hB
      have hcH := P1.cH
      have hlk1 := (P1.below (Below.refl _ wr).drew).mH.look hsz
      have hlk2 := (P1.below (below_one (.cells #[.int .u64 0, .int .u64 0] 29)).drew).mH.look hsz
      have HBl : Hid (Below w.heap.size w wr) := hB
      obtain ⟨u, hu⟩ : ∃ u, h (nm i).data.toList = u := ⟨_, rfl⟩
      rw [hu] at hlk1 hlk2
      have hS : ∀ W, Below wr.heap.size wr W → W.cell? ⟨M + 3, 0, none⟩ = some (.map (some M)) ∧ W.cell? ⟨NB, i, none⟩ = some (.string (nm i)) ∧ Below wr.heap.size wr W := fun W hb => ⟨cell_below hcH hb, cell_below z0 hb, hb⟩
      clear P1 hB
      by_cases heq : nm i = t
      · have hun : u = none := by
          rw [← hu, HF.out.2, heq]
          simp [updH]
        subst hun
        subst heq
        clear hu
        go_wp2
        go_region_held3 (fun W => W.cell? ⟨M + 3, 0, none⟩ = some (.map (some M)) ∧ W.cell? ⟨NB, i, none⟩ = some (.string (nm i)) ∧ Below wr.heap.size wr W)
          (first | (refine hS _ ?_; repeat (first | exact Below.refl _ _ | refine Below.drew ?_ | refine Below.alloc ?_ (by simp) _ | refine Below.setCell ?_ (by simp) _)))
          (fail)
        all_goals have hBa : Below wr.heap.size wr (wr.alloc (.cells #[.int .u64 0, .int .u64 0] 29)).drew := (below_one _).drew
        all_goals have y0 := cell_below z0 hBa
        all_goals clear hS hlk1 hlk2
        all_goals go_wp2
        all_goals exact ⟨⟨i + 1, by omega, by go_num, HBl.out.trans (((below_one _).drew).mono HBl.out.size)⟩, by simp [intOf]; omega⟩
      · have hu2 : u = h0 (nm i).data.toList := by
          rw [← hu, HF.out.2]
          unfold updH
          rw [if_neg (fun e => heq (by
            have e2 := Array.toList_inj.1 e
            cases hn1 : nm i; cases ht1 : t
            rw [hn1, ht1] at e2
            simpa using e2))]
        rw [← hu2] at z2 z3
        have hne1 := bytes_ne heq
        clear hu hu2 heq
        cases u with
        | none =>
          simp only [Option.getD_none, Option.isSome_none] at z2 z3 hlk1 hlk2
          go_wp2
          go_region_held3 (fun W => W.cell? ⟨M + 3, 0, none⟩ = some (.map (some M)) ∧ W.cell? ⟨NB, i, none⟩ = some (.string (nm i)) ∧ Below wr.heap.size wr W)
            (first | (refine hS _ ?_; repeat (first | exact Below.refl _ _ | refine Below.drew ?_ | refine Below.alloc ?_ (by simp) _ | refine Below.setCell ?_ (by simp) _)))
            (fail)
          all_goals have hBa : Below wr.heap.size wr (wr.alloc (.cells #[.int .u64 0, .int .u64 0] 29)).drew := (below_one _).drew
          all_goals have y0 := cell_below z0 hBa
          all_goals have y1 := cell_below z1 hBa
          all_goals have y2 := cell_below z2 hBa
          all_goals have y3 := cell_below z3 hBa
          all_goals clear hS hlk1 hlk2
          all_goals go_wp2
          all_goals refine wp_at_world (fun W => Below wr.heap.size wr W ∧ W.cell? ⟨VB, i * 2, none⟩ = some (.int .u64 0) ∧ W.cell? ⟨VB, i * 2 + 1, none⟩ = some (.int .u64 0) ∧ W.cell? ⟨OB, i, none⟩ = some (.bool false) ∧ W.cell? ⟨wr.heap.size, 0, none⟩ = some (.int .u64 0) ∧ W.cell? ⟨wr.heap.size, 1, none⟩ = some (.int .u64 0)) ⟨hBa, y1, y2, y3, newAt rfl rfl, newAt rfl rfl⟩ ?_
          all_goals clear hBa y0 y1 y2 y3
          all_goals rintro W ⟨hBW, y1, y2, y3, y4, y5⟩
          all_goals go_quiet (fail)
          all_goals go_wp2
          all_goals exact ⟨⟨i + 1, by omega, by go_num, HBl.out.trans ((below_drewN hBW _).mono HBl.out.size)⟩, by simp [intOf]; omega⟩
        | some yv =>
          simp only [Option.getD_some, Option.isSome_some] at z2 z3 hlk1 hlk2
          go_wp2
          go_region_held3 (fun W => W.cell? ⟨M + 3, 0, none⟩ = some (.map (some M)) ∧ W.cell? ⟨NB, i, none⟩ = some (.string (nm i)) ∧ Below wr.heap.size wr W)
            (first | (refine hS _ ?_; repeat (first | exact Below.refl _ _ | refine Below.drew ?_ | refine Below.alloc ?_ (by simp) _ | refine Below.setCell ?_ (by simp) _)))
            (fail)
          all_goals have hBa : Below wr.heap.size wr (wr.alloc (.cells #[.int .u64 0, .int .u64 (yv : Int)] 29)).drew := (below_one _).drew
          all_goals have y0 := cell_below z0 hBa
          all_goals have y1 := cell_below z1 hBa
          all_goals have y2 := cell_below z2 hBa
          all_goals have y3 := cell_below z3 hBa
          all_goals clear hS hlk1 hlk2
          all_goals go_wp2
          all_goals refine wp_at_world (fun W => Below wr.heap.size wr W ∧ W.cell? ⟨VB, i * 2, none⟩ = some (.int .u64 0) ∧ W.cell? ⟨VB, i * 2 + 1, none⟩ = some (.int .u64 (yv : Int)) ∧ W.cell? ⟨OB, i, none⟩ = some (.bool true) ∧ W.cell? ⟨wr.heap.size, 0, none⟩ = some (.int .u64 0) ∧ W.cell? ⟨wr.heap.size, 1, none⟩ = some (.int .u64 (yv : Int))) ⟨hBa, y1, y2, y3, newAt rfl rfl, newAt rfl rfl⟩ ?_
          all_goals clear hBa y0 y1 y2 y3
          all_goals rintro W ⟨hBW, y1, y2, y3, y4, y5⟩
          all_goals go_quiet (fail)
          all_goals go_wp2
          all_goals exact ⟨⟨i + 1, by omega, by go_num, HBl.out.trans ((below_drewN hBW _).mono HBl.out.size)⟩, by simp [intOf]; omega⟩
    · obtain rfl : i = 5 := by omega
      have hlI : ¬ ((5 : Nat) : Int) < 5 := by omega
      have HBl : Hid (Below w.heap.size w wr) := hB
      clear hB
      go_wp2
      refine HK.out _ _ ?_
      exact HN.out wr _ _ _ _ _ _ _ _ _ _ _ _ _ _ _ _ _ _ _ _ _ _ _ _ _ _ _ _ _ _ _ _ _ _ _ _ _ _ _ _ _ _ _ _ _ _ _ _ _ _ _ _ _ _ _ _ _ _ _ _ _ _ _ _ _ _ _ _ _ _ _ _ _ _ _ _ _ _ _ _ _ _ _ _ _ _ _ _ _ _ _ _ _ _ _ _ _ _ _ _ _ _ _ _ _ _ _ _ _ _ _ _ _ _ _ _ _ _ _ _ _ _ _ _ _ _ _ _ _ _ _ _ _ _ _ _ _ _ _ _ _ _ _ _ _ _ _ _ _ _ _ _ _ _ _ _ _ _ _ _ _ _ _ _ _ _ _ _ _ _ _ _ _ _ _ _ _ _ _ _ _ _ _ _ _ _ _ _ _ _ _ _ _ _ _ _ _ _ _ _ _ _ _ _ _ _ _ _ _ _ _ _ _ _ _ _ _ _ _ _ _ _ _ _ _ _ _ _ _ _ _ _ _ _ _ _ _ _ _ _ _ _ _ _ _ _ _ _ _ _ _ _ _ _ _ _ _ _ _ _ _ _ _ _ _ _ _ _ _ _ _ _ _ _ _ _ _ _ _ _ _ _ _ _ _ _ _ _ _ _ _ _ _ _ _ _ _ _ _ _ _ _ _ _ _ _ _ _ _ _ _ _ _ _ _ _ _ _ _ _ _ _ _ _ _ _ _ _ _ _ _ _ _ _ _ _ _ _ _ _ _ _ _ _ _ _ _ _ _ _ _ _ _ _ _ _ _ _ _ _ _ _ _ _ _ _ _ _ _ _ _ _ _ _ _ _ _ _ _ _ _ _ _ _ _ _ _ _ _ _ _ _ _ _ _ _ _ _ _ _ _ _ _ _ _ _ _ _ _ _ _ _ _ _ _ _ _ _ _ _ _ _ _ _ _ _ _ _ _ _ _ _ _ _ _ _ _ _ _ _ _ _ _ _ _ _ _ _ _ _ _ _ _ _ _ _ _ _ _ _ _ _ _ _ _ _ _ _ _ _ _ _ _ _ _ _ _ _ _ HBl.out

end Go.Proofs.Ybulkdlic
