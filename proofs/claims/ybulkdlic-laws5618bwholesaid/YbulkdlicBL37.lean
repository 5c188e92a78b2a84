/-
  DERIVED. alloc.LawS5618BWhole: THE LAW's LAST LOOP: every tier's free set.
-/
import Derived.Test.YbulkdlicBL38
namespace Go.Proofs.Ybulkdlic
open Go.RowKit

attribute [local go_sem ↓] Go.wp_at_zero Go.wp_at_succ

set_option maxRecDepth 1000000 in
theorem tl37 : tl 37 B4 = .seq (hdc (tl 37 B4)) (tl 38 B4) := by kernel_rfl

set_option maxRecDepth 1000000 in
set_option maxHeartbeats 4000000 in
theorem law37 {M n : Nat} {rev : Bool} {F Z : Nat → Nat} {pb : Option Addr} {cap BB k : Nat} {LL : Nat → List (Nat × Nat)} {cc : Nat → Nat} {vv : Nat → Value} {h : List UInt8 → Option Nat} {hs : Nat} {g : Nat → Bool} {gs sz : Nat} {w : World}
    (Q : Exit → Act → World → Prop) (pb' : Option Addr) (cap' BB' SB RB CB HB x eb : Nat) (tg : Int) (ov : Nat → Value) (LL0 : Nat → List (Nat × Nat)) (cc0 : Nat → Nat) (c0 c1 c2 c3 c4 c5 c6 c7 c8 c9 c10 c11 c12 c13 c14 c16 c17 c18 c19 c20 c21 c22 c23 c24 c25 c26 c27 c28 c31 c35 c36 c37 c38 c39 c40 c41 c42 c43 c44 c45 c46 c48 c49 c50 c51 c52 c53 c54 c55 c56 c57 c58 c59 c60 c61 c62 c63 c64 c65 c66 c67 c68 c69 c70 c71 c72 c73 c74 c75 c76 c77 c78 c79 c80 c81 c82 c83 c84 c85 c86 c87 c88 c89 c90 c91 c92 c93 c94 c95 c96 c97 c98 c99 c100 c101 c102 c103 c104 c105 c106 c107 c108 c109 c110 c111 c112 c113 c114 c115 c116 c117 c118 c119 c120 c121 c122 c123 c124 c125 c126 c127 c128 c129 c130 c131 c132 c133 c134 c135 c136 c137 c138 c139 c140 c141 c142 c143 c144 c145 c146 c147 c148 c149 c150 c151 c152 c153 c154 c155 c156 c157 c158 c159 c160 c161 c162 c163 c164 c165 c166 c167 c168 c169 c170 c171 c172 c173 c174 c175 c176 c177 c178 c179 c180 c181 c182 c183 c184 c185 c186 c187 c188 c189 c190 c191 c192 c193 c194 c195 c196 c197 c198 c199 c200 c201 c202 c203 c204 c205 c206 c207 c208 c209 c210 c211 c212 c213 c214 c215 c216 c217 c218 c219 c220 c221 c222 c223 c224 c225 c226 c227 c228 c229 c230 c231 c232 c233 c234 c235 c236 c237 c238 c239 c240 c241 c242 c243 c244 c245 c246 c247 c248 c249 c250 c251 c252 c253 c254 c255 c256 c257 c258 c259 c260 c261 c262 c263 c264 c265 c266 c267 c268 c269 c270 c271 c272 c273 c274 c275 c276 c277 c278 c279 c280 c281 c282 c283 c284 c285 c286 c287 c288 c289 c290 c291 c292 c293 c294 c295 c296 c297 c298 c299 c300 c301 c302 c303 c304 c305 c306 c307 c308 c309 c310 c311 c312 c313 c314 c315 c316 c317 c318 c319 c320 c321 c322 c323 c324 c325 c326 c327 c328 c329 c330 c331 c332 c333 c334 c335 c336 c337 c338 c339 c340 c341 c342 c343 c344 c345 c346 c347 c348 c349 c350 c351 c352 c353 c354 c355 c356 c357 c358 c359 c360 c361 c362 c363 c364 c365 c366 c367 c368 c369 c370 c371 c372 c373 c374 c375 c376 c377 c378 c379 c380 c381 c382 c383 c384 c385 c386 c387 c388 c389 c390 c391 c392 c393 c394 c395 c396 c397 c398 c399 c400 c401 c402 c403 c404 c405 c406 c407 c408 c409 c410 c411 c412 c413 c414 c415 c416 c417 c418 c419 c420 c421 c422 c423 c424 c425 c426 c427 c428 c429 c430 c431 c432 c433 c434 c435 c436 c437 c438 c439 c440 c441 c442 c443 c444 c445 c446 c447 c448 c449 c450 c451 c452 c453 c454 c455 c456 c457 c458 c459 c460 c461 c462 c463 c464 c465 c466 c467 c468 c469 c470 c471 c472 c473 c474 c475 c476 c477 c478 c479 c480 c481 c482 c483 c484 c485 c486 c487 c488 c489 c490 : Value)
    (hP : PS M n rev F Z pb cap BB k LL cc vv h hs g gs sz w) (hn : n ≤ 256) (hpb' : 0 < n → pb' = some ⟨BB', 0, none⟩) (hc' : ∀ k, k < n → w.cell? ⟨BB', k, none⟩ = some (.pointer (some ⟨M + 2, pr rev n k * 7, none⟩)))
    (s0 : w.cell? ⟨SB, 0, none⟩ = some (.int .u64 0)) (s1 : w.cell? ⟨SB, 1, none⟩ = some (.int .u64 (sz : Int)))
    (hov : ∀ t, t < n → w.cell? ⟨RB, t, none⟩ = some (ov t) ∧ w.ownsRow eb 31 4 (ov t) (LL0 t).length (flat (LL0 t)) ∧ w.cell? ⟨CB, t * 2, none⟩ = some (.int .u64 0) ∧ w.cell? ⟨CB, t * 2 + 1, none⟩ = some (.int .u64 (cc0 t : Int)))
    (hv0 : w.cell? ⟨HB, 0, none⟩ = some (.int .u64 0)) (hv1 : w.cell? ⟨HB, 1, none⟩ = some (.int .u64 (x : Int)))
    (hR : ∀ t, t < n → (LL0 t).length ≤ 256 ∧ (LL t).length ≤ 1000 ∧ cc0 t ≤ 256 ∧ ((t : Int) ≠ tg → LL t = LL0 t ∧ cc t = cc0 t) ∧ ((t : Int) = tg → LL t = mrg (insP x (LL0 t)) ∧ cc t = cc0 t + 1 ∧ ¬ Mem x (LL0 t) ∧ (∀ r ∈ LL0 t, r.2 + 1 < 18446744073709551616) ∧ x + 1 < 18446744073709551616))
    (HQ : Hid (∀ a W, Below w.heap.size w W → a.tmps[10]? = some (.bool true) ∧ a.defers = [] → Q .ret a W)) :
    Code.wp Yba.prog (tl 37 B4) Q ⟨#[c0, c1, c2, c3, c4, c5, c6, c7, c8, c9, c10, c11, c12, c13, c14, .pointer (some ⟨M + 3, 0, none⟩), c16, c17, c18, c19, c20, c21, c22, c23, c24, c25, c26, c27, c28, .slice (some ⟨RB, 0, none⟩) n n, .slice (some ⟨CB, 0, none⟩) n n, c31, .slice pb' n cap', .pointer (some ⟨SB, 0, none⟩), .pointer (some ⟨HB, 0, none⟩), c35, c36, c37, c38, c39, c40, c41, c42, c43, c44, c45, c46, .int .i64 tg, c48, c49, c50, c51, c52, c53, c54, c55, c56, c57, c58, c59, c60, c61, c62, c63, c64, c65, c66, c67, c68, c69, c70, c71, c72, c73, c74, c75, c76, c77, c78, c79, c80, c81, c82, c83, c84, c85, c86, c87, c88, c89, c90, c91, c92, c93, c94, c95, c96, c97, c98, c99, c100, c101, c102, c103, c104, c105, c106, c107, c108, c109, c110, c111, c112, c113, c114, c115, c116, c117, c118, c119, c120, c121, c122, c123, c124, c125, c126, c127, c128, c129, c130, c131, c132, c133, c134, c135, c136, c137, c138, c139, c140, c141, c142, c143, c144, c145, c146, c147, c148, c149, c150, c151, c152, c153, c154, c155, c156, c157, c158, c159, c160, c161, c162, c163, c164, c165, c166, c167, c168, c169, c170, c171, c172, c173, c174, c175, c176, c177, c178, c179, c180, c181, c182, c183, c184, c185, c186, c187, c188, c189, c190, c191, c192, c193, c194, c195, c196, c197, c198, c199, c200, c201, c202, c203, c204, c205, c206, c207, c208, c209, c210, c211, c212, c213, c214, c215, c216, c217, c218, c219, c220, c221, c222, c223, c224, c225, c226, c227, c228, c229, c230, c231, c232, c233, c234, c235, c236, c237, c238, c239, c240, c241, c242, c243, c244, c245, c246, c247, c248, c249, c250, c251, c252, c253, c254, c255, c256, c257, c258, c259, c260, c261, c262, c263, c264, c265, c266, c267, c268, c269, c270, c271, c272, c273, c274, c275, c276, c277, c278, c279, c280, c281, c282, c283, c284, c285, c286, c287, c288, c289, c290, c291, c292, c293, c294, c295, c296, c297, c298, c299, c300, c301, c302, c303, c304, c305, c306, c307, c308, c309, c310, c311, c312, c313, c314, c315, c316, c317, c318, c319, c320, c321, c322, c323, c324, c325, c326, c327, c328, c329, c330, c331, c332, c333, c334, c335, c336, c337, c338, c339, c340, c341, c342, c343, c344, c345, c346, c347, c348, c349, c350, c351, c352, c353, c354, c355, c356, c357, c358, c359, c360, c361, c362, c363, c364, c365, c366, c367, c368, c369, c370, c371, c372, c373, c374, c375, c376, c377, c378, c379, c380, c381, c382, c383, c384, c385, c386, c387, c388, c389, c390, c391, c392, c393, c394, c395, c396, c397, c398, c399, c400, c401, c402, c403, c404, c405, c406, c407, c408, c409, c410, c411, c412, c413, c414, c415, c416, c417, c418, c419, c420, c421, c422, c423, c424, c425, c426, c427, c428, c429, c430, c431, c432, c433, c434, c435, c436, c437, c438, c439, c440, c441, c442, c443, c444, c445, c446, c447, c448, c449, c450, c451, c452, c453, c454, c455, c456, c457, c458, c459, c460, c461, c462, c463, c464, c465, c466, c467, c468, c469, c470, c471, c472, c473, c474, c475, c476, c477, c478, c479, c480, c481, c482, c483, c484, c485, c486, c487, c488, c489, c490], []⟩ w := by
  have HP : Hid (PS M n rev F Z pb cap BB k LL cc vv h hs g gs sz w ∧ (0 < n → pb' = some ⟨BB', 0, none⟩) ∧ (∀ k, k < n → w.cell? ⟨BB', k, none⟩ = some (.pointer (some ⟨M + 2, pr rev n k * 7, none⟩))) ∧ w.cell? ⟨SB, 0, none⟩ = some (.int .u64 0) ∧ w.cell? ⟨SB, 1, none⟩ = some (.int .u64 (sz : Int))) := ⟨hP, hpb', hc', s0, s1⟩
  have HOV : Hid (∀ t, t < n → w.cell? ⟨RB, t, none⟩ = some (ov t) ∧ w.ownsRow eb 31 4 (ov t) (LL0 t).length (flat (LL0 t)) ∧ w.cell? ⟨CB, t * 2, none⟩ = some (.int .u64 0) ∧ w.cell? ⟨CB, t * 2 + 1, none⟩ = some (.int .u64 (cc0 t : Int))) := hov
  have HR : Hid (∀ t, t < n → (LL0 t).length ≤ 256 ∧ (LL t).length ≤ 1000 ∧ cc0 t ≤ 256 ∧ ((t : Int) ≠ tg → LL t = LL0 t ∧ cc t = cc0 t) ∧ ((t : Int) = tg → LL t = mrg (insP x (LL0 t)) ∧ cc t = cc0 t + 1 ∧ ¬ Mem x (LL0 t) ∧ (∀ r ∈ LL0 t, r.2 + 1 < 18446744073709551616) ∧ x + 1 < 18446744073709551616)) := hR
  clear hP hpb' hc' s0 s1 hov hR
  rw [tl37]
  refine seq_cut ?_
  intro K HK
  conv => arg 2; whnf
  go_wp2
  go_loopw [49] (fun i wr => ∃ t : Nat, t ≤ n ∧ i = .int .i64 t ∧ Below w.heap.size w wr) (fun i _ => n - (intOf i).toNat)
  case atStart => exact ⟨0, Nat.zero_le _, rfl, Below.refl _ w⟩
  case round =>
    obtain ⟨t, ht, rfl, hB⟩ := hrel
    have P1 := HP.out.1.below hB
    have cT := P1.cT
    by_cases hlt : t < n
    · have hlI : (t : Int) < (n : Int) := by omega
      obtain ⟨o1, o2, o3, o4⟩ := HOV.out t hlt
      have z1 := cell_below o1 hB
      have z3 := cell_below o3 hB
      have z4 := cell_below o4 hB
      have v0 := cell_below hv0 hB
      have v1 := cell_below hv1 hB
      have how : wr.ownsRow eb 31 4 (ov t) (LL0 t).length (flat (LL0 t)) := o2.kept (grown_below hB) (by cases (ov t).ownBlock <;> simp)
      obtain ⟨po, co, hov⟩ := own_form how
      obtain ⟨no, hno⟩ : ∃ no, (LL0 t).length = no := ⟨_, rfl⟩
      rw [hno] at hov how
      rw [hov] at z1 how
      have HBl : Hid (Below w.heap.size w wr) := hB
      have hS : ∀ W, Below wr.heap.size wr W → W.cell? ⟨M + 3, 2, none⟩ = some (.slice (some ⟨M + 2, 0, none⟩) n n) ∧ W.cell? ⟨RB, t, none⟩ = some (.slice po no co) ∧ W.cell? ⟨CB, t * 2, none⟩ = some (.int .u64 0) ∧ W.cell? ⟨CB, t * 2 + 1, none⟩ = some (.int .u64 (cc0 t : Int)) ∧ Below wr.heap.size wr W := fun W hb => ⟨cell_below cT hb, cell_below z1 hb, cell_below z3 hb, cell_below z4 hb, hb⟩
      clear hB o1 o2 o3 o4
      go_wp2
      go_region_held3 (fun W => W.cell? ⟨M + 3, 2, none⟩ = some (.slice (some ⟨M + 2, 0, none⟩) n n) ∧ W.cell? ⟨RB, t, none⟩ = some (.slice po no co) ∧ W.cell? ⟨CB, t * 2, none⟩ = some (.int .u64 0) ∧ W.cell? ⟨CB, t * 2 + 1, none⟩ = some (.int .u64 (cc0 t : Int)) ∧ Below wr.heap.size wr W)
        (first | (refine hS _ ?_; repeat (first | exact Below.refl _ _ | refine Below.drew ?_ | refine Below.alloc ?_ (by simp) _ | refine Below.setCell ?_ (by simp) _)))
        (fail)
      have FPt := P1.fs t hlt
      obtain ⟨pv, cv, hvv⟩ := own_form FPt.own
      obtain ⟨nv, hnv⟩ : ∃ nv, (LL t).length = nv := ⟨_, rfl⟩
      rw [hnv] at hvv
      have FP : Hid (FS (M + 4) (M + 2) (t * 7 + 4) (LL t) (cc t) (vv t) wr) := FPt
      obtain ⟨r1, rl, r2, r3, r4⟩ := HR.out t hlt
      clear FPt P1 hS
      have hBa : Below wr.heap.size wr (wr.alloc (.cells #[.int .u64 0, .int .u64 (cc0 t : Int)] 29)).drew := (below_one _).drew
      have y0 : (wr.alloc (.cells #[.int .u64 0, .int .u64 (cc0 t : Int)] 29)).drew.cell? ⟨wr.heap.size, 0, none⟩ = some (.int .u64 0) := newAt rfl rfl
      have y1 : (wr.alloc (.cells #[.int .u64 0, .int .u64 (cc0 t : Int)] 29)).drew.cell? ⟨wr.heap.size, 1, none⟩ = some (.int .u64 (cc0 t : Int)) := newAt rfl rfl
      have y2 : ∀ i, (wr.alloc (.cells #[.int .u64 0, .int .u64 (cc0 t : Int)] 29)).drew.frozen? ⟨wr.heap.size, i, none⟩ = false := fun i => by
        have e1 : (wr.alloc (.cells #[.int .u64 0, .int .u64 (cc0 t : Int)] 29)).heap[wr.heap.size]? = some (.cells #[.int .u64 0, .int .u64 (cc0 t : Int)] 29) := heap_alloc_new wr _
        show (wr.alloc (.cells #[.int .u64 0, .int .u64 (cc0 t : Int)] 29)).frozen? ⟨wr.heap.size, i, none⟩ = false
        unfold World.frozen?
        rw [e1]
        simp
      by_cases htg : (t : Int) = tg
      · subst htg
        obtain ⟨r5, r6, r7, r8, r9⟩ := r4 rfl
        clear r3 r4
        have HX : Hid (∀ k, k < no → ¬ (fst (LL0 t) k ≤ x ∧ x ≤ lst (LL0 t) k)) := fun k hk hh => r7 (mem_iff_at.2 ⟨k, by omega, hh⟩)
        go_wp2
        refine wp_at_world (fun W1 => Below wr.heap.size wr W1 ∧ wr.heap.size < W1.heap.size ∧ W1.cell? ⟨wr.heap.size, 0, none⟩ = some (.int .u64 0) ∧ W1.cell? ⟨wr.heap.size, 1, none⟩ = some (.int .u64 (cc0 t : Int)) ∧ (∀ i, W1.frozen? ⟨wr.heap.size, i, none⟩ = false)) ⟨hBa, by simp, y0, y1, y2⟩ ?_
        clear hBa y0 y1 y2
        rintro W1 ⟨hB1, hsz1, y0, y1, y2⟩
        have how1 : W1.drew.ownsRow eb 31 4 (.slice po no co) no (flat (LL0 t)) := how.kept (grown_below hB1.drew) (by cases po <;> simp [Value.ownBlock])
        have H18 := with_new eb (.slice po no co) (LL0 t) no x W1.drew hno (by omega) how1 HX.out r8 r9
        have z1' := cell_below z1 hB1
        have v0' := cell_below v0 hB1
        have v1' := cell_below v1 hB1
        have hS9 : ∀ W, Below W1.heap.size W1 W → W.cell? ⟨RB, t, none⟩ = some (.slice po no co) ∧ W.cell? ⟨HB, 0, none⟩ = some (.int .u64 0) ∧ W.cell? ⟨HB, 1, none⟩ = some (.int .u64 (x : Int)) ∧ Below W1.heap.size W1 W := fun W hb => ⟨cell_below z1' hb, cell_below v0' hb, cell_below v1' hb, hb⟩
        have HB1 : Hid (Below wr.heap.size wr W1) := hB1
        clear how how1 hB1
        go_region_held3 (fun W => W.cell? ⟨RB, t, none⟩ = some (.slice po no co) ∧ W.cell? ⟨HB, 0, none⟩ = some (.int .u64 0) ∧ W.cell? ⟨HB, 1, none⟩ = some (.int .u64 (x : Int)) ∧ Below W1.heap.size W1 W)
          (first | exact hS9 _ (Below.refl _ _).drew | exact hS9 _ (((Below.refl _ _).drew).trans hB'))
          (first | (go_at_call 18; refine H18.mono ?_; rintro e w2 ⟨v3, rfl, hv3, hB'⟩; obtain ⟨p3, c3', hvf⟩ := own_form hv3; obtain ⟨n3, hn3⟩ : ∃ n3, (mrg (insP x (LL0 t))).length = n3 := ⟨_, rfl⟩; rw [hn3] at hvf hv3; subst hvf))
        rename_i hHeld
        have hB2 : Below W1.heap.size W1 w2 := hHeld.2.2.2
        have g0 := cell_below y0 hB2
        have g1 := cell_below y1 hB2
        have g2 : ∀ i, w2.frozen? ⟨wr.heap.size, i, none⟩ = false := fun i => (hB2.frozen (p := ⟨wr.heap.size, i, none⟩) hsz1).trans (y2 i)
        have H19 := binc_nat (cc0 t) (by omega)
        have hNW : (LL t).length = n3 := by rw [r5, hn3]
        have HV3 : Hid (w2.ownsRow W1.heap.size 31 4 (.slice p3 n3 c3') n3 (flat (LL t)) ∧ Below wr.heap.size wr w2 ∧ wr.heap.size < w2.heap.size ∧ W1.heap.size ≤ w2.heap.size ∧ wr.heap.size < W1.heap.size) := ⟨by rw [r5]; exact hv3, HB1.out.trans (hB2.mono HB1.out.size), Nat.lt_of_lt_of_le hsz1 hB2.size, hB2.size, hsz1⟩
        clear hHeld hB' hS9 H18 hv3 hB2 y0 y1 y2 z1' v0' v1' HB1 HX r7 r8 r9
        go_wp2_with (go_at_call 19; refine (H19 _).mono ?_; rintro e w3 ⟨rfl, hB3⟩; have f0 := cell_below g0 hB3; have f1 := cell_below g1 hB3; have f2 : ∀ i, w3.frozen? ⟨wr.heap.size, i, none⟩ = false := fun i => (hB3.frozen (p := ⟨wr.heap.size, i, none⟩) HV3.out.2.2.1).trans (g2 i))
        have HC : Hid (Below wr.heap.size wr ((w3.setCell ⟨wr.heap.size, 0, none⟩ (.int .u64 0)).setCell ⟨wr.heap.size, 1, none⟩ (.int .u64 ((cc0 t : Int) + 1))) ∧ ((w3.setCell ⟨wr.heap.size, 0, none⟩ (.int .u64 0)).setCell ⟨wr.heap.size, 1, none⟩ (.int .u64 ((cc0 t : Int) + 1))).cell? ⟨wr.heap.size, 0, none⟩ = some (.int .u64 0) ∧ ((w3.setCell ⟨wr.heap.size, 0, none⟩ (.int .u64 0)).setCell ⟨wr.heap.size, 1, none⟩ (.int .u64 ((cc0 t : Int) + 1))).cell? ⟨wr.heap.size, 1, none⟩ = some (.int .u64 (cc t : Int)) ∧ ((w3.setCell ⟨wr.heap.size, 0, none⟩ (.int .u64 0)).setCell ⟨wr.heap.size, 1, none⟩ (.int .u64 ((cc0 t : Int) + 1))).ownsRow W1.heap.size 31 4 (.slice p3 n3 c3') n3 (flat (LL t))) := by
          obtain ⟨m1, m2, m3, m4, m5⟩ := HV3.out
          refine ⟨((m2.trans (hB3.mono (Nat.le_of_lt m3))).setCell (p := ⟨wr.heap.size, 0, none⟩) (Nat.le_refl _) _).setCell (p := ⟨wr.heap.size, 1, none⟩) (Nat.le_refl _) _, ?_, ?_, ?_⟩
          · rw [World.cell?_setCell_other _ _ _ _ (by simp)]
            exact World.cell?_setCell_same' _ _ _ (by rw [f0]; rfl)
          · rw [r6, show (((cc0 t + 1 : Nat)) : Int) = (cc0 t : Int) + 1 by omega]
            exact World.cell?_setCell_same' _ _ _ (by rw [World.cell?_setCell_other _ _ _ _ (by simp), f1]; rfl)
          · refine own_block (m1.kept (grown_below hB3) (by cases p3 <;> simp [Value.ownBlock])) (fun b e => ?_)
            have := (m1.lt b e).1
            rw [Below.heap_setCell _ _ _ _ (show b ≠ wr.heap.size by omega), Below.heap_setCell _ _ _ _ (show b ≠ wr.heap.size by omega)]
        clear HV3 g0 g1 g2 f0 f1 f2 hB3 H19 r5 r6 z1 z3 z4 v0 v1
        refine wp_at_world (fun WQ => Below wr.heap.size wr WQ ∧ WQ.cell? ⟨wr.heap.size, 0, none⟩ = some (.int .u64 0) ∧ WQ.cell? ⟨wr.heap.size, 1, none⟩ = some (.int .u64 (cc t : Int)) ∧ WQ.ownsRow W1.heap.size 31 4 (.slice p3 n3 c3') n3 (flat (LL t))) HC.out ?_
        clear HC
        rintro WQ ⟨q1, q2, q3, q4⟩
        have hE20 := equal_same (M + 4) W1.heap.size (.slice pv nv cv) (.slice p3 n3 c3') (LL t) nv WQ.drew hnv (by omega) (by have := (FP.out.below q1).own; rw [hvv, hnv] at this; exact this) (by rw [← hNW] at q4 ⊢; rw [hnv] at q4 ⊢; exact q4)
        have k1 := cell_below cT q1
        have k2 : WQ.cell? ⟨M + 2, t * 7 + 4, none⟩ = some (.slice pv nv cv) := by have := (FP.out.below q1).run; rw [hvv] at this; exact this
        have k3 : WQ.cell? ⟨M + 2, t * 7 + 4 + 1, none⟩ = some (.int .u64 0) := (FP.out.below q1).chi
        have k4 : WQ.cell? ⟨M + 2, t * 7 + 4 + 1 + 1, none⟩ = some (.int .u64 (cc t : Int)) := (FP.out.below q1).clo
        have hSQ : ∀ W, Below WQ.heap.size WQ W → W.cell? ⟨M + 3, 2, none⟩ = some (.slice (some ⟨M + 2, 0, none⟩) n n) ∧ W.cell? ⟨M + 2, t * 7 + 4, none⟩ = some (.slice pv nv cv) ∧ W.cell? ⟨M + 2, t * 7 + 4 + 1, none⟩ = some (.int .u64 0) ∧ W.cell? ⟨M + 2, t * 7 + 4 + 1 + 1, none⟩ = some (.int .u64 (cc t : Int)) ∧ W.cell? ⟨wr.heap.size, 0, none⟩ = some (.int .u64 0) ∧ W.cell? ⟨wr.heap.size, 1, none⟩ = some (.int .u64 (cc t : Int)) ∧ Below WQ.heap.size WQ W := fun W hb => ⟨cell_below k1 hb, cell_below k2 hb, cell_below k3 hb, cell_below k4 hb, cell_below q2 hb, cell_below q3 hb, hb⟩
        have HQ1 : Hid (Below wr.heap.size wr WQ) := q1
        clear q1 q4
        go_region_held3 (fun W => W.cell? ⟨M + 3, 2, none⟩ = some (.slice (some ⟨M + 2, 0, none⟩) n n) ∧ W.cell? ⟨M + 2, t * 7 + 4, none⟩ = some (.slice pv nv cv) ∧ W.cell? ⟨M + 2, t * 7 + 4 + 1, none⟩ = some (.int .u64 0) ∧ W.cell? ⟨M + 2, t * 7 + 4 + 1 + 1, none⟩ = some (.int .u64 (cc t : Int)) ∧ W.cell? ⟨wr.heap.size, 0, none⟩ = some (.int .u64 0) ∧ W.cell? ⟨wr.heap.size, 1, none⟩ = some (.int .u64 (cc t : Int)) ∧ Below WQ.heap.size WQ W)
          (first | exact hSQ _ (Below.refl _ _).drew | exact hSQ _ (((Below.refl _ _).drew).trans hB'))
          (first | (go_at_call 20; refine hE20.mono ?_; rintro e w' ⟨rfl, hB'⟩))
        rename_i hHeld
        have HE2 : Hid (Below wr.heap.size wr w') := HQ1.out.trans (hHeld.2.2.2.2.2.2.mono HQ1.out.size)
        clear hHeld hB' hSQ hE20 k1 k2 k3 k4 q2 q3
        go_wp2
        exact ⟨⟨t + 1, by omega, by go_num, HBl.out.trans (HE2.out.mono HBl.out.size)⟩, by simp [intOf]; omega⟩
      · obtain ⟨r5, r6⟩ := r3 htg
        have hE1 : ((t : Int) == tg) = false := by simpa using htg
        have hNW : (LL t).length = no := by rw [r5, hno]
        have HC : Hid (Below wr.heap.size wr (wr.alloc (.cells #[.int .u64 0, .int .u64 (cc0 t : Int)] 29)).drew ∧ (wr.alloc (.cells #[.int .u64 0, .int .u64 (cc0 t : Int)] 29)).drew.cell? ⟨wr.heap.size, 0, none⟩ = some (.int .u64 0) ∧ (wr.alloc (.cells #[.int .u64 0, .int .u64 (cc0 t : Int)] 29)).drew.cell? ⟨wr.heap.size, 1, none⟩ = some (.int .u64 (cc t : Int)) ∧ (wr.alloc (.cells #[.int .u64 0, .int .u64 (cc0 t : Int)] 29)).drew.ownsRow eb 31 4 (.slice po no co) no (flat (LL t))) := ⟨hBa, y0, by rw [r6]; exact y1, by rw [r5]; exact how.kept (grown_below hBa) (by cases po <;> simp [Value.ownBlock])⟩
        clear r3 r4 hBa y0 y1 y2 how r5 r6
        go_wp2
        refine wp_at_world (fun WQ => Below wr.heap.size wr WQ ∧ WQ.cell? ⟨wr.heap.size, 0, none⟩ = some (.int .u64 0) ∧ WQ.cell? ⟨wr.heap.size, 1, none⟩ = some (.int .u64 (cc t : Int)) ∧ WQ.ownsRow eb 31 4 (.slice po no co) no (flat (LL t))) HC.out ?_
        clear HC
        rintro WQ ⟨q1, q2, q3, q4⟩
        have hE20 := equal_same (M + 4) eb (.slice pv nv cv) (.slice po no co) (LL t) nv WQ.drew hnv (by omega) (by have := (FP.out.below q1).own; rw [hvv, hnv] at this; exact this) (by rw [← hNW] at q4 ⊢; rw [hnv] at q4 ⊢; exact q4)
        have k1 := cell_below cT q1
        have k2 : WQ.cell? ⟨M + 2, t * 7 + 4, none⟩ = some (.slice pv nv cv) := by have := (FP.out.below q1).run; rw [hvv] at this; exact this
        have k3 : WQ.cell? ⟨M + 2, t * 7 + 4 + 1, none⟩ = some (.int .u64 0) := (FP.out.below q1).chi
        have k4 : WQ.cell? ⟨M + 2, t * 7 + 4 + 1 + 1, none⟩ = some (.int .u64 (cc t : Int)) := (FP.out.below q1).clo
        have hSQ : ∀ W, Below WQ.heap.size WQ W → W.cell? ⟨M + 3, 2, none⟩ = some (.slice (some ⟨M + 2, 0, none⟩) n n) ∧ W.cell? ⟨M + 2, t * 7 + 4, none⟩ = some (.slice pv nv cv) ∧ W.cell? ⟨M + 2, t * 7 + 4 + 1, none⟩ = some (.int .u64 0) ∧ W.cell? ⟨M + 2, t * 7 + 4 + 1 + 1, none⟩ = some (.int .u64 (cc t : Int)) ∧ W.cell? ⟨wr.heap.size, 0, none⟩ = some (.int .u64 0) ∧ W.cell? ⟨wr.heap.size, 1, none⟩ = some (.int .u64 (cc t : Int)) ∧ Below WQ.heap.size WQ W := fun W hb => ⟨cell_below k1 hb, cell_below k2 hb, cell_below k3 hb, cell_below k4 hb, cell_below q2 hb, cell_below q3 hb, hb⟩
        have HQ1 : Hid (Below wr.heap.size wr WQ) := q1
        clear q1 q4
        go_region_held3 (fun W => W.cell? ⟨M + 3, 2, none⟩ = some (.slice (some ⟨M + 2, 0, none⟩) n n) ∧ W.cell? ⟨M + 2, t * 7 + 4, none⟩ = some (.slice pv nv cv) ∧ W.cell? ⟨M + 2, t * 7 + 4 + 1, none⟩ = some (.int .u64 0) ∧ W.cell? ⟨M + 2, t * 7 + 4 + 1 + 1, none⟩ = some (.int .u64 (cc t : Int)) ∧ W.cell? ⟨wr.heap.size, 0, none⟩ = some (.int .u64 0) ∧ W.cell? ⟨wr.heap.size, 1, none⟩ = some (.int .u64 (cc t : Int)) ∧ Below WQ.heap.size WQ W)
          (first | exact hSQ _ (Below.refl _ _).drew | exact hSQ _ (((Below.refl _ _).drew).trans hB'))
          (first | (go_at_call 20; refine hE20.mono ?_; rintro e w' ⟨rfl, hB'⟩))
        rename_i hHeld
        have HE2 : Hid (Below wr.heap.size wr w') := HQ1.out.trans (hHeld.2.2.2.2.2.2.mono HQ1.out.size)
        clear hHeld hB' hSQ hE20 k1 k2 k3 k4 q2 q3
        go_wp2
        exact ⟨⟨t + 1, by omega, by go_num, HBl.out.trans (HE2.out.mono HBl.out.size)⟩, by simp [intOf]; omega⟩

    · obtain rfl : t = n := by omega
      have hlI : ¬ (t : Int) < (t : Int) := by omega
      have HBl : Hid (Below w.heap.size w wr) := hB
      clear hB P1
      go_wp2
      refine HK.out _ _ ?_
      obtain ⟨h1, h2, h3, h4, h5⟩ := HP.out
      have hb := HBl.out
      exact law38 Q pb' cap' BB' SB _ _ _ _ _ _ _ _ _ _ _ _ _ _ _ _ _ _ _ _ _ _ _ _ _ _ _ _ _ _ _ _ _ _ _ _ _ _ _ _ _ _ _ _ _ _ _ _ _ _ _ _ _ _ _ _ _ _ _ _ _ _ _ _ _ _ _ _ _ _ _ _ _ _ _ _ _ _ _ _ _ _ _ _ _ _ _ _ _ _ _ _ _ _ _ _ _ _ _ _ _ _ _ _ _ _ _ _ _ _ _ _ _ _ _ _ _ _ _ _ _ _ _ _ _ _ _ _ _ _ _ _ _ _ _ _ _ _ _ _ _ _ _ _ _ _ _ _ _ _ _ _ _ _ _ _ _ _ _ _ _ _ _ _ _ _ _ _ _ _ _ _ _ _ _ _ _ _ _ _ _ _ _ _ _ _ _ _ _ _ _ _ _ _ _ _ _ _ _ _ _ _ _ _ _ _ _ _ _ _ _ _ _ _ _ _ _ _ _ _ _ _ _ _ _ _ _ _ _ _ _ _ _ _ _ _ _ _ _ _ _ _ _ _ _ _ _ _ _ _ _ _ _ _ _ _ _ _ _ _ _ _ _ _ _ _ _ _ _ _ _ _ _ _ _ _ _ _ _ _ _ _ _ _ _ _ _ _ _ _ _ _ _ _ _ _ _ _ _ _ _ _ _ _ _ _ _ _ _ _ _ _ _ _ _ _ _ _ _ _ _ _ _ _ _ _ _ _ _ _ _ _ _ _ _ _ _ _ _ _ _ _ _ _ _ _ _ _ _ _ _ _ _ _ _ _ _ _ _ _ _ _ _ _ _ _ _ _ _ _ _ _ _ _ _ _ _ _ _ _ _ _ _ _ _ _ _ _ _ _ _ _ _ _ _ _ _ _ _ _ _ _ _ _ _ _ _ _ _ _ _ _ _ _ _ _ _ _ _ _ _ _ _ _ _ _ _ _ _ _ _ _ _ _ _ _ _ _ _ _ _ _ _ _ _ _ _ _ _ _ _ _ _ _ _ _ _ _ _ _ _ _ _ _ _ _ _ _ _ _ _ _ _ _ _ _ _ _ _ _ _ _ _ _ _ _ _ _ (h1.below hb) hn h2 (fun k hk => cell_below (h3 k hk) hb) (cell_below h4 hb) (cell_below h5 hb) (fun a W hW h10 => HQ.out a W (hb.trans (hW.mono hb.size)) h10)

end Go.Proofs.Ybulkdlic
