/-
  DERIVED. alloc.LawS5618BWhole: THE LAW, WALKED.
-/
import Derived.Test.YbulkdlicBL6
namespace Go.Proofs.Ybulkdlic
open Go.RowKit

attribute [local go_sem ↓] Go.wp_at_zero Go.wp_at_succ

set_option maxRecDepth 1000000 in
theorem tl0 : tl 0 B4 = .seq (hdc (tl 0 B4)) (tl 1 B4) := by kernel_rfl

set_option maxRecDepth 1000000 in
theorem tl1 : tl 1 B4 = .seq (hdc (tl 1 B4)) (tl 2 B4) := by kernel_rfl

set_option maxRecDepth 1000000 in
theorem tl2 : tl 2 B4 = .seq (hdc (tl 2 B4)) (tl 3 B4) := by kernel_rfl

set_option maxRecDepth 1000000 in
theorem tl3 : tl 3 B4 = .seq (hdc (tl 3 B4)) (tl 4 B4) := by kernel_rfl

set_option maxRecDepth 1000000 in
theorem tl4 : tl 4 B4 = .seq (hdc (tl 4 B4)) (tl 5 B4) := by kernel_rfl

set_option maxRecDepth 1000000 in
theorem tl5 : tl 5 B4 = .seq (hdc (tl 5 B4)) (tl 6 B4) := by kernel_rfl

set_option maxRecDepth 1000000 in
set_option maxHeartbeats 4000000 in
theorem lawB_any (nl cl no cO LB OPB pk : Nat) (pl pO : Option Addr) (rev : Bool) (t : ByteArray) (ln oL oO oo hh tt : Nat → Nat) (aa : Nat → Int) (xx : Nat → Nat) (w : World) (hl8 : ∀ i, ln i ≤ 255) (ht : t.size ≤ maxLen)
    (hixL : ∀ (i : Nat), i < nl → ∀ W, (Instr.indexAt 52 (.slice pl nl cl) (.int .i64 i)).run Yba.prog W = .ok (.pointer (some ⟨LB, oL i, none⟩)) W)
    (hL : ∀ i, i < nl → w.cell? ⟨LB, oL i, none⟩ = some (.int .u8 (ln i : Int)))
    (hOB : 0 < no → OPB < w.heap.size)
    (hixO : ∀ (i : Nat), i < no → ∀ W, (Instr.indexAt 53 (.slice pO no cO) (.int .i64 i)).run Yba.prog W = .ok (.pointer (some ⟨OPB, oO i, none⟩)) W)
    (hop : ∀ i, i < no → w.cell? ⟨OPB, oO i, none⟩ = some (.int .u8 (oo i : Int)) ∧ w.cell? ⟨OPB, oO i + 1, none⟩ = some (.int .u8 (hh i : Int)) ∧ w.cell? ⟨OPB, oO i + 2, none⟩ = some (.int .i64 (aa i)) ∧ w.cell? ⟨OPB, oO i + 3, none⟩ = some (.int .u8 (tt i : Int)))
    (hxx : ∀ i, i < no → IntKind.u64.wrap (aa i) = (xx i : Int) ∧ xx i < 18446744073709551616) (h8 : ∀ i, i < no → tt i < 256) :
    Calls Yba.prog 4 #[.slice pl nl cl, .bool rev, .slice pO no cO, .string t, .int .u8 (pk : Int)] w fun e w' => e = .returned (.bool true) ∧ Below w.heap.size w w' := by
  have HX : Hid (∀ (i : Nat), i < nl → ∀ W, (Instr.indexAt 52 (.slice pl nl cl) (.int .i64 i)).run Yba.prog W = .ok (.pointer (some ⟨LB, oL i, none⟩)) W) := hixL
  have HL : Hid (∀ i, i < nl → w.cell? ⟨LB, oL i, none⟩ = some (.int .u8 (ln i : Int))) := hL
  have HO : Hid ((∀ (i : Nat), i < no → ∀ W, (Instr.indexAt 53 (.slice pO no cO) (.int .i64 i)).run Yba.prog W = .ok (.pointer (some ⟨OPB, oO i, none⟩)) W) ∧ (∀ i, i < no → w.cell? ⟨OPB, oO i, none⟩ = some (.int .u8 (oo i : Int)) ∧ w.cell? ⟨OPB, oO i + 1, none⟩ = some (.int .u8 (hh i : Int)) ∧ w.cell? ⟨OPB, oO i + 2, none⟩ = some (.int .i64 (aa i)) ∧ w.cell? ⟨OPB, oO i + 3, none⟩ = some (.int .u8 (tt i : Int))) ∧ (∀ i, i < no → IntKind.u64.wrap (aa i) = (xx i : Int) ∧ xx i < 18446744073709551616) ∧ (∀ i, i < no → tt i < 256) ∧ t.size ≤ maxLen ∧ (0 < no → OPB < w.heap.size)) := ⟨hixO, hop, hxx, h8, ht, hOB⟩
  have HL8 : Hid (∀ i, ln i ≤ 255) := hl8
  clear hixL hL hixO hop hxx h8 ht hOB hl8
  go_enter Yba.func4, Yba.ntmps4
  refine (show Code.wp Yba.prog (tl 0 B4) _ _ _ from ?_)
  obtain ⟨Qf, hQf⟩ : ∃ Qf, Qf = bodyPost Yba.prog Yba.f4 (fun e w' => e = .returned (.bool true) ∧ Below w.heap.size w w') := ⟨_, rfl⟩
  rw [← hQf]
  have HQ : Hid (∀ a W, Below w.heap.size w W → a.tmps[10]? = some (.bool true) ∧ a.defers = [] → Qf .ret a W) := fun a W hb h10 => by
    rw [hQf]
    exact bodyPost_ret (results_tmp rfl _ _ _) h10.2 ⟨by rw [show a.tmps.getD 10 undef = .bool true by simp [Array.getD_eq_getD_getElem?, h10.1]], hb⟩
  clear hQf
  rw [tl0]
  refine seq_cut ?_
  intro K HK
  conv => arg 2; whnf
  go_wp2
  refine HK.out _ _ ?_
  clear HK
  rw [tl1]
  refine seq_cut ?_
  intro K HK
  conv => arg 2; whnf
  by_cases hA : 256 < nl
  · have hA1 : (256 : Int) < (nl : Int) := by omega
    go_wp2
    exact HQ.out _ _ (Below.refl _ w) ⟨rfl, rfl⟩
  by_cases hB : 4096 < no
  · have hA1 : ¬ (256 : Int) < (nl : Int) := by omega
    have hB1 : (4096 : Int) < (no : Int) := by omega
    go_wp2
    exact HQ.out _ _ (Below.refl _ w) ⟨rfl, rfl⟩
  have hA1 : ¬ (256 : Int) < (nl : Int) := by omega
  have hB1 : ¬ (4096 : Int) < (no : Int) := by omega
  go_wp2
  refine HK.out _ _ ?_
  have hnl : nl ≤ 256 := by omega
  have hno : no ≤ 4096 := by omega
  clear HK hA hB hA1 hB1
  obtain ⟨i3, hi, hz0, hz1, hz2⟩ := info_parts info31b
  obtain ⟨wm, hmk, hmo, hmg⟩ := run_makeSlice_owned (P := Yba.prog) w w.heap.size 25 31 i3 _ 4 Yba.underlying25 hi hz0 hz1 .i64 .i64 nl (by omega) (by rw [hz2]; omega) (by unfold maxLen; omega) (Nat.le_refl _)
  have HM : Hid (wm.ownsRow w.heap.size 31 4 (.slice (some ⟨w.heap.size, 0, none⟩) 0 nl) 0 [] ∧ Below w.heap.size w wm) := ⟨hmo, ⟨hmg.os, hmg.tape, hmg.output, hmg.size, fun b hb => hmg.block b hb (by simp)⟩⟩
  clear hmo hmg
  rw [tl2]
  refine seq_cut ?_
  intro K HK
  conv => arg 2; whnf
  go_wp2
  refine HK.out _ _ ?_
  clear HK hmk
  rw [tl3]
  refine seq_cut ?_
  intro K HK
  conv => arg 2; whnf
  go_wp2
  refine HK.out _ _ ?_
  clear HK
  rw [tl4]
  refine seq_cut ?_
  intro K HK
  conv => arg 2; whnf
  go_wp2
  go_loopw [11, 12, 13] (fun v b i wr => ∃ (j : Nat) (vT : Value), j ≤ nl ∧ v = vT ∧ b = .int .u64 (bsN ln j : Int) ∧ i = .int .i64 j ∧ wr.ownsRow w.heap.size 31 4 vT j (flat (tiL ln j)) ∧ Below w.heap.size w wr) (fun _ _ i _ => nl - (intOf i).toNat)
  case atStart => exact ⟨0, _, Nat.zero_le _, rfl, rfl, rfl, HM.out.1, HM.out.2⟩
  case round =>
    clear HM
    obtain ⟨j, vT, hj, rfl, rfl, rfl, hrow, hB⟩ := hrel
    by_cases hlt : j < nl
    · have hlI : (j : Int) < (nl : Int) := by omega
      have hxk := HX.out j hlt
      have a0 := HL.out j hlt
      have z0 := cell_below a0 hB
      obtain ⟨l, hl⟩ : ∃ l, ln j = l := ⟨_, rfl⟩
      rw [hl] at z0
      obtain ⟨b, hb⟩ : ∃ b, bsN ln j = b := ⟨_, rfl⟩
      rw [hb]
      obtain ⟨r, hr⟩ : ∃ r, j % 2 = r := ⟨_, rfl⟩
      have hbs : bsN ln (j + 1) = b + (l + 1 + r) := by show bsN ln j + ln j + 1 + j % 2 = _; omega
      have hl8 : l ≤ 255 := by rw [← hl]; exact HL8.out j
      have hb8 : b ≤ 65792 := by rw [← hb]; have := bsN_le ln HL8.out j; omega
      have w0 : IntKind.u64.wrap (l : Int) = (l : Int) := by rw [IntKind.wrap_u64]; omega
      have w1 : IntKind.u64.wrap ((b : Int) + (l : Int)) = (b : Int) + (l : Int) := by rw [IntKind.wrap_u64]; omega
      have w2 : IntKind.u64.wrap ((l : Int) + 1) = (l : Int) + 1 := by rw [IntKind.wrap_u64]; omega
      have w3 : (j : Int).tmod 2 = (r : Int) := by rw [Int.tmod_eq_emod_of_nonneg (by omega)]; omega
      have w4 : IntKind.u64.wrap (r : Int) = (r : Int) := by rw [IntKind.wrap_u64]; omega
      have w5 : IntKind.u64.wrap ((l : Int) + 1 + (r : Int)) = (l : Int) + 1 + (r : Int) := by rw [IntKind.wrap_u64]; omega
      have w6 : IntKind.u64.wrap ((b : Int) + ((l : Int) + 1 + (r : Int))) = (b : Int) + ((l : Int) + 1 + (r : Int)) := by rw [IntKind.wrap_u64]; omega
      have HR : Hid (wr.ownsRow w.heap.size 31 4 u11 j (flat (tiL ln j)) ∧ Below w.heap.size w wr ∧ bsN ln (j + 1) = b + (l + 1 + r) ∧ tiL ln (j + 1) = tiL ln j ++ [(b, b + l)]) := ⟨hrow, hB, hbs, by rw [tiL_succ, hb, hl]⟩
      have hls : w.heap.size ≤ wr.heap.size := hB.size
      clear hrow hB a0 hbs hl hb hr hl8 hb8
      go_wp2_with (at_builtin; refine wpList_append_lies _ (by rfl) (.tmp 76) (.tmp 84) 25 (by rfl) w.heap.size 31 i3 _ 4 32 Yba.underlying25 hi hz0 hz1 hz2 rfl (by decide) u11 j (flat (tiL ln j)) (by rfl) (HR.out.1.alloc _) ⟨wr.heap.size, 0, none⟩ 1 1 [.int .u64 0, .int .u64 (b : Int), .int .u64 0, .int .u64 ((b : Int) + (l : Int))] (by rfl) rfl (news4 rfl _ _ _ _ 31) (by simp [Value.oneCell']) (by omega) (by unfold maxLen; omega) (by omega) (by simp; omega) _ rfl ?_; intro g3 cap3 w3 hown3 hgrow3 hat3 hlt3)
      obtain ⟨q1, q2, q3, q4⟩ := HR.out
      refine ⟨⟨j + 1, _, by omega, rfl, ?_, by go_num, ?_, ((q2.alloc hls _).grown hgrow3 (by simp; omega) (fun b e => (q1.lt b e).1))⟩, by simp [intOf]; omega⟩
      · rw [q3, show (((b + (l + 1 + r) : Nat)) : Int) = (b : Int) + ((l : Int) + 1 + (r : Int)) by omega]
      · rw [q4, flat_append, flat_one, show rc (b, b + l) = [.int .u64 0, .int .u64 (b : Int), .int .u64 0, .int .u64 ((b : Int) + (l : Int))] by simp [rc]]
        exact hown3
    · obtain rfl : j = nl := by omega
      have hlI : ¬ (j : Int) < (j : Int) := by omega
      obtain ⟨p11, c11', hv11⟩ := own_form hrow
      subst hv11
      have HR : Hid (wr.ownsRow w.heap.size 31 4 (.slice p11 j c11') j (flat (tiL ln j)) ∧ Below w.heap.size w wr) := ⟨hrow, hB⟩
      have H9 := reverse_any w.heap.size (.slice p11 j c11') (tiL ln j) j wr (tiL_length ln j) (by omega) hrow
      clear hrow hB
      go_wp2
      refine HK.out _ _ ?_
      clear HK
      have HN : Hid (∀ (W : World) (c0 c1 c5 c6 c7 c8 c9 c10 c12 c13 c14 c15 c16 c17 c18 c19 c20 c21 c22 c23 c24 c25 c26 c27 c28 c29 c30 c31 c32 c33 c34 c35 c36 c37 c38 c39 c40 c41 c42 c43 c44 c45 c46 c47 c48 c49 c50 c51 c52 c53 c54 c55 c56 c57 c58 c59 c60 c61 c62 c63 c64 c65 c66 c67 c68 c69 c70 c71 c72 c73 c74 c75 c76 c77 c78 c79 c80 c81 c82 c83 c84 c85 c86 c87 c88 c89 c90 c91 c92 c93 c94 c95 c96 c97 c98 c99 c100 c101 c102 c103 c104 c105 c106 c107 c108 c109 c110 c111 c112 c113 c114 c115 c116 c117 c118 c119 c120 c121 c122 c123 c124 c125 c126 c127 c128 c129 c130 c131 c132 c133 c134 c135 c136 c137 c138 c139 c140 c141 c142 c143 c144 c145 c146 c147 c148 c149 c150 c151 c152 c153 c154 c155 c156 c157 c158 c159 c160 c161 c162 c163 c164 c165 c166 c167 c168 c169 c170 c171 c172 c173 c174 c175 c176 c177 c178 c179 c180 c181 c182 c183 c184 c185 c186 c187 c188 c189 c190 c191 c192 c193 c194 c195 c196 c197 c198 c199 c200 c201 c202 c203 c204 c205 c206 c207 c208 c209 c210 c211 c212 c213 c214 c215 c216 c217 c218 c219 c220 c221 c222 c223 c224 c225 c226 c227 c228 c229 c230 c231 c232 c233 c234 c235 c236 c237 c238 c239 c240 c241 c242 c243 c244 c245 c246 c247 c248 c249 c250 c251 c252 c253 c254 c255 c256 c257 c258 c259 c260 c261 c262 c263 c264 c265 c266 c267 c268 c269 c270 c271 c272 c273 c274 c275 c276 c277 c278 c279 c280 c281 c282 c283 c284 c285 c286 c287 c288 c289 c290 c291 c292 c293 c294 c295 c296 c297 c298 c299 c300 c301 c302 c303 c304 c305 c306 c307 c308 c309 c310 c311 c312 c313 c314 c315 c316 c317 c318 c319 c320 c321 c322 c323 c324 c325 c326 c327 c328 c329 c330 c331 c332 c333 c334 c335 c336 c337 c338 c339 c340 c341 c342 c343 c344 c345 c346 c347 c348 c349 c350 c351 c352 c353 c354 c355 c356 c357 c358 c359 c360 c361 c362 c363 c364 c365 c366 c367 c368 c369 c370 c371 c372 c373 c374 c375 c376 c377 c378 c379 c380 c381 c382 c383 c384 c385 c386 c387 c388 c389 c390 c391 c392 c393 c394 c395 c396 c397 c398 c399 c400 c401 c402 c403 c404 c405 c406 c407 c408 c409 c410 c411 c412 c413 c414 c415 c416 c417 c418 c419 c420 c421 c422 c423 c424 c425 c426 c427 c428 c429 c430 c431 c432 c433 c434 c435 c436 c437 c438 c439 c440 c441 c442 c443 c444 c445 c446 c447 c448 c449 c450 c451 c452 c453 c454 c455 c456 c457 c458 c459 c460 c461 c462 c463 c464 c465 c466 c467 c468 c469 c470 c471 c472 c473 c474 c475 c476 c477 c478 c479 c480 c481 c482 c483 c484 c485 c486 c487 c488 c489 c490 : Value), W.ownsRow w.heap.size 31 4 (.slice p11 j c11') j (flat (tiR ln rev j)) → Below w.heap.size w W → Code.wp Yba.prog (tl 6 B4) Qf ⟨#[c0, c1, .slice pO no cO, .string t, .int .u8 (pk : Int), c5, c6, c7, c8, c9, c10, .slice p11 j c11', c12, c13, c14, c15, c16, c17, c18, c19, c20, c21, c22, c23, c24, c25, c26, c27, c28, c29, c30, c31, c32, c33, c34, c35, c36, c37, c38, c39, c40, c41, c42, c43, c44, c45, c46, c47, c48, c49, c50, c51, c52, c53, c54, c55, c56, c57, c58, c59, c60, c61, c62, c63, c64, c65, c66, c67, c68, c69, c70, c71, c72, c73, c74, c75, c76, c77, c78, c79, c80, c81, c82, c83, c84, c85, c86, c87, c88, c89, c90, c91, c92, c93, c94, c95, c96, c97, c98, c99, c100, c101, c102, c103, c104, c105, c106, c107, c108, c109, c110, c111, c112, c113, c114, c115, c116, c117, c118, c119, c120, c121, c122, c123, c124, c125, c126, c127, c128, c129, c130, c131, c132, c133, c134, c135, c136, c137, c138, c139, c140, c141, c142, c143, c144, c145, c146, c147, c148, c149, c150, c151, c152, c153, c154, c155, c156, c157, c158, c159, c160, c161, c162, c163, c164, c165, c166, c167, c168, c169, c170, c171, c172, c173, c174, c175, c176, c177, c178, c179, c180, c181, c182, c183, c184, c185, c186, c187, c188, c189, c190, c191, c192, c193, c194, c195, c196, c197, c198, c199, c200, c201, c202, c203, c204, c205, c206, c207, c208, c209, c210, c211, c212, c213, c214, c215, c216, c217, c218, c219, c220, c221, c222, c223, c224, c225, c226, c227, c228, c229, c230, c231, c232, c233, c234, c235, c236, c237, c238, c239, c240, c241, c242, c243, c244, c245, c246, c247, c248, c249, c250, c251, c252, c253, c254, c255, c256, c257, c258, c259, c260, c261, c262, c263, c264, c265, c266, c267, c268, c269, c270, c271, c272, c273, c274, c275, c276, c277, c278, c279, c280, c281, c282, c283, c284, c285, c286, c287, c288, c289, c290, c291, c292, c293, c294, c295, c296, c297, c298, c299, c300, c301, c302, c303, c304, c305, c306, c307, c308, c309, c310, c311, c312, c313, c314, c315, c316, c317, c318, c319, c320, c321, c322, c323, c324, c325, c326, c327, c328, c329, c330, c331, c332, c333, c334, c335, c336, c337, c338, c339, c340, c341, c342, c343, c344, c345, c346, c347, c348, c349, c350, c351, c352, c353, c354, c355, c356, c357, c358, c359, c360, c361, c362, c363, c364, c365, c366, c367, c368, c369, c370, c371, c372, c373, c374, c375, c376, c377, c378, c379, c380, c381, c382, c383, c384, c385, c386, c387, c388, c389, c390, c391, c392, c393, c394, c395, c396, c397, c398, c399, c400, c401, c402, c403, c404, c405, c406, c407, c408, c409, c410, c411, c412, c413, c414, c415, c416, c417, c418, c419, c420, c421, c422, c423, c424, c425, c426, c427, c428, c429, c430, c431, c432, c433, c434, c435, c436, c437, c438, c439, c440, c441, c442, c443, c444, c445, c446, c447, c448, c449, c450, c451, c452, c453, c454, c455, c456, c457, c458, c459, c460, c461, c462, c463, c464, c465, c466, c467, c468, c469, c470, c471, c472, c473, c474, c475, c476, c477, c478, c479, c480, c481, c482, c483, c484, c485, c486, c487, c488, c489, c490], []⟩ W) := by
        intro W c0 c1 c5 c6 c7 c8 c9 c10 c12 c13 c14 c15 c16 c17 c18 c19 c20 c21 c22 c23 c24 c25 c26 c27 c28 c29 c30 c31 c32 c33 c34 c35 c36 c37 c38 c39 c40 c41 c42 c43 c44 c45 c46 c47 c48 c49 c50 c51 c52 c53 c54 c55 c56 c57 c58 c59 c60 c61 c62 c63 c64 c65 c66 c67 c68 c69 c70 c71 c72 c73 c74 c75 c76 c77 c78 c79 c80 c81 c82 c83 c84 c85 c86 c87 c88 c89 c90 c91 c92 c93 c94 c95 c96 c97 c98 c99 c100 c101 c102 c103 c104 c105 c106 c107 c108 c109 c110 c111 c112 c113 c114 c115 c116 c117 c118 c119 c120 c121 c122 c123 c124 c125 c126 c127 c128 c129 c130 c131 c132 c133 c134 c135 c136 c137 c138 c139 c140 c141 c142 c143 c144 c145 c146 c147 c148 c149 c150 c151 c152 c153 c154 c155 c156 c157 c158 c159 c160 c161 c162 c163 c164 c165 c166 c167 c168 c169 c170 c171 c172 c173 c174 c175 c176 c177 c178 c179 c180 c181 c182 c183 c184 c185 c186 c187 c188 c189 c190 c191 c192 c193 c194 c195 c196 c197 c198 c199 c200 c201 c202 c203 c204 c205 c206 c207 c208 c209 c210 c211 c212 c213 c214 c215 c216 c217 c218 c219 c220 c221 c222 c223 c224 c225 c226 c227 c228 c229 c230 c231 c232 c233 c234 c235 c236 c237 c238 c239 c240 c241 c242 c243 c244 c245 c246 c247 c248 c249 c250 c251 c252 c253 c254 c255 c256 c257 c258 c259 c260 c261 c262 c263 c264 c265 c266 c267 c268 c269 c270 c271 c272 c273 c274 c275 c276 c277 c278 c279 c280 c281 c282 c283 c284 c285 c286 c287 c288 c289 c290 c291 c292 c293 c294 c295 c296 c297 c298 c299 c300 c301 c302 c303 c304 c305 c306 c307 c308 c309 c310 c311 c312 c313 c314 c315 c316 c317 c318 c319 c320 c321 c322 c323 c324 c325 c326 c327 c328 c329 c330 c331 c332 c333 c334 c335 c336 c337 c338 c339 c340 c341 c342 c343 c344 c345 c346 c347 c348 c349 c350 c351 c352 c353 c354 c355 c356 c357 c358 c359 c360 c361 c362 c363 c364 c365 c366 c367 c368 c369 c370 c371 c372 c373 c374 c375 c376 c377 c378 c379 c380 c381 c382 c383 c384 c385 c386 c387 c388 c389 c390 c391 c392 c393 c394 c395 c396 c397 c398 c399 c400 c401 c402 c403 c404 c405 c406 c407 c408 c409 c410 c411 c412 c413 c414 c415 c416 c417 c418 c419 c420 c421 c422 c423 c424 c425 c426 c427 c428 c429 c430 c431 c432 c433 c434 c435 c436 c437 c438 c439 c440 c441 c442 c443 c444 c445 c446 c447 c448 c449 c450 c451 c452 c453 c454 c455 c456 c457 c458 c459 c460 c461 c462 c463 c464 c465 c466 c467 c468 c469 c470 c471 c472 c473 c474 c475 c476 c477 c478 c479 c480 c481 c482 c483 c484 c485 c486 c487 c488 c489 c490 hr hb
        obtain ⟨o1, o2, o3, o4, o5, o6⟩ := HO.out
        exact law6 Qf w.heap.size rev ln t pk pO p11 no cO c11' OPB oO oo hh tt aa xx c0 c1 c5 c6 c7 c8 c9 c10 c12 c13 c14 c15 c16 c17 c18 c19 c20 c21 c22 c23 c24 c25 c26 c27 c28 c29 c30 c31 c32 c33 c34 c35 c36 c37 c38 c39 c40 c41 c42 c43 c44 c45 c46 c47 c48 c49 c50 c51 c52 c53 c54 c55 c56 c57 c58 c59 c60 c61 c62 c63 c64 c65 c66 c67 c68 c69 c70 c71 c72 c73 c74 c75 c76 c77 c78 c79 c80 c81 c82 c83 c84 c85 c86 c87 c88 c89 c90 c91 c92 c93 c94 c95 c96 c97 c98 c99 c100 c101 c102 c103 c104 c105 c106 c107 c108 c109 c110 c111 c112 c113 c114 c115 c116 c117 c118 c119 c120 c121 c122 c123 c124 c125 c126 c127 c128 c129 c130 c131 c132 c133 c134 c135 c136 c137 c138 c139 c140 c141 c142 c143 c144 c145 c146 c147 c148 c149 c150 c151 c152 c153 c154 c155 c156 c157 c158 c159 c160 c161 c162 c163 c164 c165 c166 c167 c168 c169 c170 c171 c172 c173 c174 c175 c176 c177 c178 c179 c180 c181 c182 c183 c184 c185 c186 c187 c188 c189 c190 c191 c192 c193 c194 c195 c196 c197 c198 c199 c200 c201 c202 c203 c204 c205 c206 c207 c208 c209 c210 c211 c212 c213 c214 c215 c216 c217 c218 c219 c220 c221 c222 c223 c224 c225 c226 c227 c228 c229 c230 c231 c232 c233 c234 c235 c236 c237 c238 c239 c240 c241 c242 c243 c244 c245 c246 c247 c248 c249 c250 c251 c252 c253 c254 c255 c256 c257 c258 c259 c260 c261 c262 c263 c264 c265 c266 c267 c268 c269 c270 c271 c272 c273 c274 c275 c276 c277 c278 c279 c280 c281 c282 c283 c284 c285 c286 c287 c288 c289 c290 c291 c292 c293 c294 c295 c296 c297 c298 c299 c300 c301 c302 c303 c304 c305 c306 c307 c308 c309 c310 c311 c312 c313 c314 c315 c316 c317 c318 c319 c320 c321 c322 c323 c324 c325 c326 c327 c328 c329 c330 c331 c332 c333 c334 c335 c336 c337 c338 c339 c340 c341 c342 c343 c344 c345 c346 c347 c348 c349 c350 c351 c352 c353 c354 c355 c356 c357 c358 c359 c360 c361 c362 c363 c364 c365 c366 c367 c368 c369 c370 c371 c372 c373 c374 c375 c376 c377 c378 c379 c380 c381 c382 c383 c384 c385 c386 c387 c388 c389 c390 c391 c392 c393 c394 c395 c396 c397 c398 c399 c400 c401 c402 c403 c404 c405 c406 c407 c408 c409 c410 c411 c412 c413 c414 c415 c416 c417 c418 c419 c420 c421 c422 c423 c424 c425 c426 c427 c428 c429 c430 c431 c432 c433 c434 c435 c436 c437 c438 c439 c440 c441 c442 c443 c444 c445 c446 c447 c448 c449 c450 c451 c452 c453 c454 c455 c456 c457 c458 c459 c460 c461 c462 c463 c464 c465 c466 c467 c468 c469 c470 c471 c472 c473 c474 c475 c476 c477 c478 c479 c480 c481 c482 c483 c484 c485 c486 c487 c488 c489 c490 HL8.out hnl hr o5 hno (fun h0 => Nat.lt_of_lt_of_le (o6 h0) hb.size) o1 (fun i hi => ⟨cell_below (o2 i hi).1 hb, cell_below (o2 i hi).2.1 hb, cell_below (o2 i hi).2.2.1 hb, cell_below (o2 i hi).2.2.2 hb⟩) o3 o4 (fun a W' hW h10 => HQ.out a W' (hb.trans (hW.mono hb.size)) h10)
      rw [tl5]
      refine seq_cut ?_
      intro K HK
      conv => arg 2; whnf
      cases rev with
      | false =>
        go_wp2
        refine HK.out _ _ ?_
        exact HN.out wr _ _ _ _ _ _ _ _ _ _ _ _ _ _ _ _ _ _ _ _ _ _ _ _ _ _ _ _ _ _ _ _ _ _ _ _ _ _ _ _ _ _ _ _ _ _ _ _ _ _ _ _ _ _ _ _ _ _ _ _ _ _ _ _ _ _ _ _ _ _ _ _ _ _ _ _ _ _ _ _ _ _ _ _ _ _ _ _ _ _ _ _ _ _ _ _ _ _ _ _ _ _ _ _ _ _ _ _ _ _ _ _ _ _ _ _ _ _ _ _ _ _ _ _ _ _ _ _ _ _ _ _ _ _ _ _ _ _ _ _ _ _ _ _ _ _ _ _ _ _ _ _ _ _ _ _ _ _ _ _ _ _ _ _ _ _ _ _ _ _ _ _ _ _ _ _ _ _ _ _ _ _ _ _ _ _ _ _ _ _ _ _ _ _ _ _ _ _ _ _ _ _ _ _ _ _ _ _ _ _ _ _ _ _ _ _ _ _ _ _ _ _ _ _ _ _ _ _ _ _ _ _ _ _ _ _ _ _ _ _ _ _ _ _ _ _ _ _ _ _ _ _ _ _ _ _ _ _ _ _ _ _ _ _ _ _ _ _ _ _ _ _ _ _ _ _ _ _ _ _ _ _ _ _ _ _ _ _ _ _ _ _ _ _ _ _ _ _ _ _ _ _ _ _ _ _ _ _ _ _ _ _ _ _ _ _ _ _ _ _ _ _ _ _ _ _ _ _ _ _ _ _ _ _ _ _ _ _ _ _ _ _ _ _ _ _ _ _ _ _ _ _ _ _ _ _ _ _ _ _ _ _ _ _ _ _ _ _ _ _ _ _ _ _ _ _ _ _ _ _ _ _ _ _ _ _ _ _ _ _ _ _ _ _ _ _ _ _ _ _ _ _ _ _ _ _ _ _ _ _ _ _ _ _ _ _ _ _ _ _ _ _ _ _ _ _ _ _ _ _ _ _ _ _ _ _ _ _ _ _ _ _ _ _ _ _ _ _ _ _ _ _ _ _ _ _ _ _ _ _ _ _ _ _ _ _ _ _ _ _ _ _ _ _ _ _ _ _ _ _ _ _ _ _ _ _ _ HR.out.1 HR.out.2
      | true =>
        go_wp2_with (go_at_call 9; refine H9.mono ?_; rintro e w1 ⟨rfl, hrv, hgr⟩; dsimp only)
        refine HK.out _ _ ?_
        exact HN.out w1 _ _ _ _ _ _ _ _ _ _ _ _ _ _ _ _ _ _ _ _ _ _ _ _ _ _ _ _ _ _ _ _ _ _ _ _ _ _ _ _ _ _ _ _ _ _ _ _ _ _ _ _ _ _ _ _ _ _ _ _ _ _ _ _ _ _ _ _ _ _ _ _ _ _ _ _ _ _ _ _ _ _ _ _ _ _ _ _ _ _ _ _ _ _ _ _ _ _ _ _ _ _ _ _ _ _ _ _ _ _ _ _ _ _ _ _ _ _ _ _ _ _ _ _ _ _ _ _ _ _ _ _ _ _ _ _ _ _ _ _ _ _ _ _ _ _ _ _ _ _ _ _ _ _ _ _ _ _ _ _ _ _ _ _ _ _ _ _ _ _ _ _ _ _ _ _ _ _ _ _ _ _ _ _ _ _ _ _ _ _ _ _ _ _ _ _ _ _ _ _ _ _ _ _ _ _ _ _ _ _ _ _ _ _ _ _ _ _ _ _ _ _ _ _ _ _ _ _ _ _ _ _ _ _ _ _ _ _ _ _ _ _ _ _ _ _ _ _ _ _ _ _ _ _ _ _ _ _ _ _ _ _ _ _ _ _ _ _ _ _ _ _ _ _ _ _ _ _ _ _ _ _ _ _ _ _ _ _ _ _ _ _ _ _ _ _ _ _ _ _ _ _ _ _ _ _ _ _ _ _ _ _ _ _ _ _ _ _ _ _ _ _ _ _ _ _ _ _ _ _ _ _ _ _ _ _ _ _ _ _ _ _ _ _ _ _ _ _ _ _ _ _ _ _ _ _ _ _ _ _ _ _ _ _ _ _ _ _ _ _ _ _ _ _ _ _ _ _ _ _ _ _ _ _ _ _ _ _ _ _ _ _ _ _ _ _ _ _ _ _ _ _ _ _ _ _ _ _ _ _ _ _ _ _ _ _ _ _ _ _ _ _ _ _ _ _ _ _ _ _ _ _ _ _ _ _ _ _ _ _ _ _ _ _ _ _ _ _ _ _ _ _ _ _ _ _ _ _ _ _ _ _ _ _ _ _ _ _ _ _ _ _ _ _ _ _ _ _ _ _ _ _ _ _ _ _ _ hrv (HR.out.2.grown hgr HR.out.2.size (fun b e => (HR.out.1.lt b e).1))

end Go.Proofs.Ybulkdlic
