/-
  Seat b6625890a: the law FnReadScriptMatchesFirstFailureModel, the classes. Frames written by program.
-/
import Derived.Test.Qxb6625890aBJ
namespace Go.Proofs.Qxb6625890a
open Go.RowKit Go.Maps
set_option linter.unusedVariables false
attribute [local go_sem] neq35

theorem SP.f0 {p : SP} : p.f 0 = p.S.length := by
  rcases ffw_char (wS p.ends p.I0 p.S 0) p.S.length p.S.length (Nat.le_refl _) with ⟨h1, _⟩ | ⟨_, h2, _⟩
  · exact h1
  · unfold wS wantB at h2; simp at h2
theorem SP.f23 {p : SP} : p.f 2 = p.f 3 := by
  have : wS p.ends p.I0 p.S 2 = wS p.ends p.I0 p.S 3 := by
    funext i
    unfold wS wantB
    cases cfS p.ends p.I0 p.S i <;> cases drS p.ends p.S i <;> rfl
  unfold SP.f
  rw [this]
theorem SP.f_lt {p : SP} (k : Nat) (h : p.f k ≠ p.S.length) : p.f k < p.S.length := by
  have := ffw_le (wS p.ends p.I0 p.S k) p.S.length p.S.length (Nat.le_refl _)
  have h2 : p.f k ≤ p.S.length := this
  omega
theorem tl3_14 : tl Try.f3 14 = Code.seq (st Try.f3 14) (tl Try.f3 15) := by kernel_rfl

set_option maxRecDepth 100000 in
set_option maxHeartbeats 2000000 in
theorem sx14 {w w0 : World} {B : Nat} (p : SP) (gd : Nat) (u0 u4 u5 u6 u10 u11 u12 u13 u17 u18 u19 u20 u21 u22 u23 u24 u25 u26 u27 u28 u29 u30 u31 u32 u33 u34 u35 u36 u37 u38 u39 u40 u41 u42 u43 u44 u45 u46 u47 u48 u49 u50 u51 u52 u53 u54 u55 u56 u57 u58 u59 u60 u61 u62 u63 u64 u65 u66 u67 u68 u69 u70 u71 u72 u73 u74 u75 u76 u77 u78 u79 u80 u81 u82 u83 u84 u85 u86 u87 u88 u89 u90 u91 u92 u93 u94 u95 u96 u97 u98 u99 u100 u101 u102 u103 u104 u105 u106 u107 u108 u109 u110 u111 u112 u113 u114 u115 u116 u117 u118 u119 u120 u121 u122 u123 u124 u125 u126 u127 u128 u129 u130 u131 u132 u133 u134 u135 u136 u137 u138 u139 u140 u141 u142 u143 u144 u145 u146 u147 u148 u149 u150 u151 u152 u153 u154 u155 u156 u157 u158 u159 u160 u161 u162 u163 u164 u165 u166 u167 u168 u169 u170 u171 u172 u173 u174 u175 u176 u177 u178 u179 u180 u181 u182 u183 u184 u185 u186 u187 u188 u189 u190 u191 u192 u193 u194 u195 u196 u197 u198 u199 u200 u201 u202 u203 u204 u205 u206 u207 u208 u209 u210 u211 u212 u213 u214 u215 u216 u217 u218 u219 u220 u221 u222 u223 u224 u225 u226 u227 u228 u229 u230 u231 u232 u233 u234 u235 u236 u237 u238 u239 u240 u241 u242 u243 u244 u245 u246 u247 u248 u249 u250 u251 u252 u253 u254 u255 u256 u257 u258 u259 u260 u261 u262 u263 u264 u265 u266 u267 u268 u269 u270 u271 u272 u273 u274 u275 u276 u277 u278 u279 u280 u281 u282 u283 u284 u285 u286 u287 u288 u289 u290 u291 u292 u293 u294 u295 u296 u297 u298 u299 u300 u301 u302 u303 u304 u305 u306 u307 u308 u309 u310 u311 u312 u313 u314 u315 u316 u317 u318 u319 u320 u321 u322 u323 u324 u325 u326 u327 u328 u329 u330 u331 u332 u333 u334 u335 u336 u337 u338 u339 u340 u341 u342 u343 u344 u345 u346 u347 u348 u349 u350 u351 u352 u353 u354 u355 u356 u357 u358 u359 u360 u361 u362 u363 u364 u365 u366 u367 u368 u369 u370 u371 u372 u373 u374 u375 u376 u377 u378 u379 u380 u381 u382 u383 u384 u385 u386 u387 u388 u389 u390 u391 u392 u393 u394 u395 u396 u397 u398 u399 u400 u401 u402 u403 u404 u405 u406 u407 u408 u409 u410 u411 u412 u413 u414 u415 u416 u417 u418 u419 u420 u421 u422 u423 u424 u425 u426 u427 u428 u429 u430 u431 u432 u433 u434 u435 u436 u437 u438 u439 u440 u441 u442 u443 u444 u445 u446 u447 u448 u449 u450 u451 u452 u453 u454 u455 u456 u457 u458 u459 u460 u461 u462 u463 u464 u465 u466 u467 u468 u469 u470 u471 u472 u473 u474 u475 u476 u477 u478 u479 u480 u481 u482 u483 u484 u485 u486 u487 u488 u489 u490 u491 u492 u493 u494 u495 u496 u497 u498 u499 u500 u501 u502 u503 u504 u505 u506 u507 u508 u509 u510 u511 u512 u513 u514 u515 u516 u517 u518 u519 u520 u521 u522 u523 u524 u525 u526 u527 u528 u529 u530 u531 u532 u533 u534 u535 u536 u537 u538 u539 u540 u541 u542 u543 u544 u545 u546 u547 u548 u549 u550 u551 u552 u553 u554 u555 u556 u557 u558 u559 u560 u561 u562 u563 u564 u565 u566 u567 u568 u569 u570 u571 u572 u573 u574 u575 u576 u577 u578 u579 u580 u581 u582 u583 u584 u585 u586 u587 u588 u589 u590 u591 u592 u593 u594 u595 u596 u597 u598 u599 u600 u601 u602 u603 u604 u605 u606 u607 u608 u609 u610 u611 u612 u613 u614 u615 u616 u617 u618 u619 u620 u621 u622 u623 u624 u625 u626 u627 u628 u629 u630 u631 u632 u633 u634 u635 u636 u637 u638 u639 u640 u641 u642 u643 u644 u645 u646 u647 u648 u649 u650 u651 u652 u653 u654 u655 u656 u657 : Value)
    (h : Env w0 B w p) (hd : ∀ j, j < p.S.length → w.cell? ⟨gd, j, none⟩ = some (.bool (p.dr j))) :
    Code.wp Try.prog (tl Try.f3 14) (QT Try.f3 B w0) ⟨#[u0, .slice p.sa p.S.length p.sc, .int .i32 p.probe, .pointer (some ⟨p.bst, 0, none⟩), u4, u5, u6, .int .i64 p.S.length, .pointer (some ⟨p.cb, 0, none⟩), .pointer (some ⟨p.bf, 0, none⟩), u10, u11, u12, u13, .slice (some ⟨gd, 0, none⟩) p.S.length p.S.length, .int .i64 (p.f 1 : Nat), .int .i64 (p.f 3 : Nat), u17, u18, u19, u20, u21, u22, u23, u24, u25, u26, u27, u28, u29, u30, u31, u32, u33, u34, u35, u36, u37, u38, u39, u40, u41, u42, u43, u44, u45, u46, u47, u48, u49, u50, u51, u52, u53, u54, u55, u56, u57, u58, u59, u60, u61, u62, u63, u64, u65, u66, u67, u68, u69, u70, u71, u72, u73, u74, u75, u76, u77, u78, u79, u80, u81, u82, u83, u84, u85, u86, u87, u88, u89, u90, u91, u92, u93, u94, u95, u96, u97, u98, u99, u100, u101, u102, u103, u104, u105, u106, u107, u108, u109, u110, u111, u112, u113, u114, u115, u116, u117, u118, u119, u120, u121, u122, u123, u124, u125, u126, u127, u128, u129, u130, u131, u132, u133, u134, u135, u136, u137, u138, u139, u140, u141, u142, u143, u144, u145, u146, u147, u148, u149, u150, u151, u152, u153, u154, u155, u156, u157, u158, u159, u160, u161, u162, u163, u164, u165, u166, u167, u168, u169, u170, u171, u172, u173, u174, u175, u176, u177, u178, u179, u180, u181, u182, u183, u184, u185, u186, u187, u188, u189, u190, u191, u192, u193, u194, u195, u196, u197, u198, u199, u200, u201, u202, u203, u204, u205, u206, u207, u208, u209, u210, u211, u212, u213, u214, u215, u216, u217, u218, u219, u220, u221, u222, u223, u224, u225, u226, u227, u228, u229, u230, u231, u232, u233, u234, u235, u236, u237, u238, u239, u240, u241, u242, u243, u244, u245, u246, u247, u248, u249, u250, u251, u252, u253, u254, u255, u256, u257, u258, u259, u260, u261, u262, u263, u264, u265, u266, u267, u268, u269, u270, u271, u272, u273, u274, u275, u276, u277, u278, u279, u280, u281, u282, u283, u284, u285, u286, u287, u288, u289, u290, u291, u292, u293, u294, u295, u296, u297, u298, u299, u300, u301, u302, u303, u304, u305, u306, u307, u308, u309, u310, u311, u312, u313, u314, u315, u316, u317, u318, u319, u320, u321, u322, u323, u324, u325, u326, u327, u328, u329, u330, u331, u332, u333, u334, u335, u336, u337, u338, u339, u340, u341, u342, u343, u344, u345, u346, u347, u348, u349, u350, u351, u352, u353, u354, u355, u356, u357, u358, u359, u360, u361, u362, u363, u364, u365, u366, u367, u368, u369, u370, u371, u372, u373, u374, u375, u376, u377, u378, u379, u380, u381, u382, u383, u384, u385, u386, u387, u388, u389, u390, u391, u392, u393, u394, u395, u396, u397, u398, u399, u400, u401, u402, u403, u404, u405, u406, u407, u408, u409, u410, u411, u412, u413, u414, u415, u416, u417, u418, u419, u420, u421, u422, u423, u424, u425, u426, u427, u428, u429, u430, u431, u432, u433, u434, u435, u436, u437, u438, u439, u440, u441, u442, u443, u444, u445, u446, u447, u448, u449, u450, u451, u452, u453, u454, u455, u456, u457, u458, u459, u460, u461, u462, u463, u464, u465, u466, u467, u468, u469, u470, u471, u472, u473, u474, u475, u476, u477, u478, u479, u480, u481, u482, u483, u484, u485, u486, u487, u488, u489, u490, u491, u492, u493, u494, u495, u496, u497, u498, u499, u500, u501, u502, u503, u504, u505, u506, u507, u508, u509, u510, u511, u512, u513, u514, u515, u516, u517, u518, u519, u520, u521, u522, u523, u524, u525, u526, u527, u528, u529, u530, u531, u532, u533, u534, u535, u536, u537, u538, u539, u540, u541, u542, u543, u544, u545, u546, u547, u548, u549, u550, u551, u552, u553, u554, u555, u556, u557, u558, u559, u560, u561, u562, u563, u564, u565, u566, u567, u568, u569, u570, u571, u572, u573, u574, u575, u576, u577, u578, u579, u580, u581, u582, u583, u584, u585, u586, u587, u588, u589, u590, u591, u592, u593, u594, u595, u596, u597, u598, u599, u600, u601, u602, u603, u604, u605, u606, u607, u608, u609, u610, u611, u612, u613, u614, u615, u616, u617, u618, u619, u620, u621, u622, u623, u624, u625, u626, u627, u628, u629, u630, u631, u632, u633, u634, u635, u636, u637, u638, u639, u640, u641, u642, u643, u644, u645, u646, u647, u648, u649, u650, u651, u652, u653, u654, u655, u656, u657], []⟩ w := by
  have hn := h.pl.dom.n
  have HE : Hid _ := h
  have HD : Hid _ := hd
  clear h hd
  rw [tl3_14]
  refine wp_seq_k (fun K hK => ?_)
  conv => arg 2; whnf
  go_wp2_with fail
  go_loopw [20] (fun i wr => ∃ k : Nat, k ≤ 4 ∧ i = .int .i64 k ∧ Below w.heap.size w wr) (fun i _ => 4 - (intOf i).toNat)
  case atStart => exact ⟨0, by omega, rfl, Below.refl _ _⟩
  case round =>
    obtain ⟨k, hk, rfl, hbr⟩ := hrel
    have HBR : Hid _ := hbr
    by_cases hlt : k < 4
    · have HEW : Hid _ := HE.out.grown hbr
      clear hbr
      have hk4 : k = 0 ∨ k = 1 ∨ k = 2 ∨ k = 3 := by omega
      rcases hk4 with rfl | rfl | rfl | rfl
      · skip
        have a1 := (HEW.out.base.kb 0 (by omega))
        have a2 := (HEW.out.base.hbf 0 (by omega))
        have hc := HEW.out.outOf 0 (by omega)
        obtain ⟨o1, o2⟩ := HE.out.oi 0 (by omega)
        cases hck : c4 p.b0 p.b1 p.b2 p.b3 0 with
        | true =>
          obtain ⟨e1, e2⟩ := o1 hck
          rw [hck] at a1
          obtain ⟨y, hy⟩ := Option.ne_none_iff_exists'.1 e2
          rw [← e1, hy, optr_some] at a2
          rw [hy, optr_some] at hc
          have HC : Hid _ := hc
          clear hc o1 o2 e1 e2 hy hck HE HD HEW
          go_wp2_with fail
          refine Calls.mono HC.out ?_
          rintro e w3 ⟨rfl, hw3⟩
          have hw3 := hw3.symm
          subst hw3
          clear HC
          go_wp2_with fail
          go_roundw
          case rel => exact ⟨0 + 1, by omega, by go_num, HBR.out⟩
          case measure => simp [intOf]
        | false =>
          obtain ⟨f1, f2⟩ := o2 hck
          rw [hck] at a1
          by_cases hf : p.f 0 = p.S.length
          · have hnn := f1 hf
            rw [hnn, optr_none] at hc
            have HC : Hid _ := hc
            clear hc o1 o2 f1 f2 hnn hck HE HD HEW hf
            go_wp2_with fail
            refine Calls.mono HC.out ?_
            rintro e w3 ⟨rfl, hw3⟩
            have hw3 := hw3.symm
            subst hw3
            clear HC
            go_wp2_with fail
            go_roundw
            case rel => exact ⟨0 + 1, by omega, by go_num, HBR.out⟩
            case measure => simp [intOf]
          · exact absurd SP.f0 hf
      · skip
        have a1 := (HEW.out.base.kb 1 (by omega))
        have a2 := (HEW.out.base.hbf 1 (by omega))
        have hc := HEW.out.outOf 1 (by omega)
        obtain ⟨o1, o2⟩ := HE.out.oi 1 (by omega)
        cases hck : c4 p.b0 p.b1 p.b2 p.b3 1 with
        | true =>
          obtain ⟨e1, e2⟩ := o1 hck
          rw [hck] at a1
          obtain ⟨y, hy⟩ := Option.ne_none_iff_exists'.1 e2
          rw [← e1, hy, optr_some] at a2
          rw [hy, optr_some] at hc
          have HC : Hid _ := hc
          clear hc o1 o2 e1 e2 hy hck HE HD HEW
          go_wp2_with fail
          refine Calls.mono HC.out ?_
          rintro e w3 ⟨rfl, hw3⟩
          have hw3 := hw3.symm
          subst hw3
          clear HC
          go_wp2_with fail
          go_roundw
          case rel => exact ⟨1 + 1, by omega, by go_num, HBR.out⟩
          case measure => simp [intOf]
        | false =>
          obtain ⟨f1, f2⟩ := o2 hck
          rw [hck] at a1
          by_cases hf : p.f 1 = p.S.length
          · have hnn := f1 hf
            rw [hnn, optr_none] at hc
            have HC : Hid _ := hc
            rw [hf]
            clear hc o1 o2 f1 f2 hnn hck HE HD HEW hf
            go_wp2_with fail
            refine Calls.mono HC.out ?_
            rintro e w3 ⟨rfl, hw3⟩
            have hw3 := hw3.symm
            subst hw3
            clear HC
            go_wp2_with fail
            go_roundw
            case rel => exact ⟨1 + 1, by omega, by go_num, HBR.out⟩
            case measure => simp [intOf]
          · obtain ⟨b, hb⟩ := f2 hf
            have hfl := SP.f_lt (p := p) 1 hf
            have hfe : ffw (wS p.ends p.I0 p.S 1) p.S.length p.S.length = p.f 1 := rfl
            rw [hfe] at hb
            have hg := HEW.out.ops 1 b _ hb
            rw [hb, optr_some] at hc
            obtain ⟨sb, so, es, s0, s1, s2, s3, s4, _⟩ := step_cell HEW.out.base.ss hfl
            rw [es]
            have HC : Hid _ := hc
            clear hc o1 o2 f1 f2 hck HE HD HEW hfe
            generalize p.f 1 = fk at *
            generalize p.S.getD fk e0 = gs at *
            have q0 : wr.cell? ⟨b, 0, none⟩ = some (.int .u8 gs.kd) := cell_blk hg rfl
            have q1 : wr.cell? ⟨b, 1, none⟩ = some (.int .i64 gs.tx) := cell_blk hg rfl
            have q2 : wr.cell? ⟨b, 2, none⟩ = some (.string gs.it) := cell_blk hg rfl
            have q3 : wr.cell? ⟨b, 3, none⟩ = some (.int .i64 gs.so) := cell_blk hg rfl
            have q4 : wr.cell? ⟨b, 4, none⟩ = some (.bool gs.hs) := cell_blk hg rfl
            have hfe : ((fk : Int) == (p.S.length : Int)) = false := by rw [beq_eq_false_iff_ne]; omega
            have hfl' : (fk : Int) < (p.S.length : Int) := by omega
            have hf0 : (0 : Int) ≤ (fk : Int) := by omega
            clear hg hb hf
            go_wp2_with fail
            refine Calls.mono HC.out ?_
            rintro e w3 ⟨rfl, hw3⟩
            have hw3 := hw3.symm
            subst hw3
            clear HC
            go_wp2_with fail
            refine wp_shade2 (fun KK hKK => ?_)
            have HKK : Hid _ := hKK
            clear hKK
            go_region_held3 (fun w' => w'.cell? ⟨b, 0, none⟩ = some (.int .u8 gs.kd) ∧ w'.cell? ⟨b, 1, none⟩ = some (.int .i64 gs.tx) ∧ w'.cell? ⟨b, 2, none⟩ = some (.string gs.it) ∧ w'.cell? ⟨b, 3, none⟩ = some (.int .i64 gs.so) ∧ w'.cell? ⟨b, 4, none⟩ = some (.bool gs.hs) ∧ w'.cell? ⟨sb, so + fk * 8, none⟩ = some (.int .u8 gs.kd) ∧ w'.cell? ⟨sb, so + fk * 8 + 1, none⟩ = some (.int .i64 gs.tx) ∧ w'.cell? ⟨sb, so + fk * 8 + 2, none⟩ = some (.string gs.it) ∧ w'.cell? ⟨sb, so + fk * 8 + 3, none⟩ = some (.int .i64 gs.so) ∧ w'.cell? ⟨sb, so + fk * 8 + 4, none⟩ = some (.bool gs.hs))
              (first | go_keep | (exact ⟨cell_later hb3 q0, cell_later hb3 q1, cell_later hb3 q2, cell_later hb3 q3, cell_later hb3 q4, cell_later hb3 s0, cell_later hb3 s1, cell_later hb3 s2, cell_later hb3 s3, cell_later hb3 s4⟩))
              ((go_at_call 12; refine Calls.mono (sameOp_any gs.kd gs.tx gs.it gs.so gs.hs _) ?_; rintro e w3 ⟨rfl, hb3⟩))
            refine HKK.out _ _ ?_
            clear HKK KK
            have HB3 : Hid _ := hb3
            clear hb3 s0 s1 s2 s3 s4 q0 q1 q2 q3 q4
            go_wp2_with fail
            go_roundw
            case rel => exact ⟨1 + 1, by omega, by go_num, (Below.drew HBR.out).trans (HB3.out.mono (Below.size (Below.drew HBR.out)))⟩
            case measure => simp [intOf]
      · skip
        have a1 := (HEW.out.base.kb 2 (by omega))
        have a2 := (HEW.out.base.hbf 2 (by omega))
        have hc := HEW.out.outOf 2 (by omega)
        obtain ⟨o1, o2⟩ := HE.out.oi 2 (by omega)
        cases hck : c4 p.b0 p.b1 p.b2 p.b3 2 with
        | true =>
          obtain ⟨e1, e2⟩ := o1 hck
          rw [hck] at a1
          obtain ⟨y, hy⟩ := Option.ne_none_iff_exists'.1 e2
          rw [← e1, hy, optr_some] at a2
          rw [hy, optr_some] at hc
          have HC : Hid _ := hc
          clear hc o1 o2 e1 e2 hy hck HE HD HEW
          go_wp2_with fail
          refine Calls.mono HC.out ?_
          rintro e w3 ⟨rfl, hw3⟩
          have hw3 := hw3.symm
          subst hw3
          clear HC
          go_wp2_with fail
          go_roundw
          case rel => exact ⟨2 + 1, by omega, by go_num, HBR.out⟩
          case measure => simp [intOf]
        | false =>
          obtain ⟨f1, f2⟩ := o2 hck
          rw [hck] at a1
          by_cases hf : p.f 2 = p.S.length
          · have hnn := f1 hf
            rw [hnn, optr_none] at hc
            have HC : Hid _ := hc
            rw [SP.f23] at hf
            rw [hf]
            clear hc o1 o2 f1 f2 hnn hck HE HD HEW hf
            go_wp2_with fail
            refine Calls.mono HC.out ?_
            rintro e w3 ⟨rfl, hw3⟩
            have hw3 := hw3.symm
            subst hw3
            clear HC
            go_wp2_with fail
            go_roundw
            case rel => exact ⟨2 + 1, by omega, by go_num, HBR.out⟩
            case measure => simp [intOf]
          · obtain ⟨b, hb⟩ := f2 hf
            have hfl := SP.f_lt (p := p) 2 hf
            have hfe : ffw (wS p.ends p.I0 p.S 2) p.S.length p.S.length = p.f 2 := rfl
            rw [hfe] at hb
            rw [SP.f23] at hb hfl hf hfe
            have hg := HEW.out.ops 2 b _ hb
            rw [hb, optr_some] at hc
            obtain ⟨sb, so, es, s0, s1, s2, s3, s4, _⟩ := step_cell HEW.out.base.ss hfl
            rw [es]
            have HC : Hid _ := hc
            clear hc o1 o2 f1 f2 hck HE HD HEW hfe
            generalize p.f 3 = fk at *
            generalize p.S.getD fk e0 = gs at *
            have q0 : wr.cell? ⟨b, 0, none⟩ = some (.int .u8 gs.kd) := cell_blk hg rfl
            have q1 : wr.cell? ⟨b, 1, none⟩ = some (.int .i64 gs.tx) := cell_blk hg rfl
            have q2 : wr.cell? ⟨b, 2, none⟩ = some (.string gs.it) := cell_blk hg rfl
            have q3 : wr.cell? ⟨b, 3, none⟩ = some (.int .i64 gs.so) := cell_blk hg rfl
            have q4 : wr.cell? ⟨b, 4, none⟩ = some (.bool gs.hs) := cell_blk hg rfl
            have hfe : ((fk : Int) == (p.S.length : Int)) = false := by rw [beq_eq_false_iff_ne]; omega
            have hfl' : (fk : Int) < (p.S.length : Int) := by omega
            have hf0 : (0 : Int) ≤ (fk : Int) := by omega
            clear hg hb hf
            go_wp2_with fail
            refine Calls.mono HC.out ?_
            rintro e w3 ⟨rfl, hw3⟩
            have hw3 := hw3.symm
            subst hw3
            clear HC
            go_wp2_with fail
            refine wp_shade2 (fun KK hKK => ?_)
            have HKK : Hid _ := hKK
            clear hKK
            go_region_held3 (fun w' => w'.cell? ⟨b, 0, none⟩ = some (.int .u8 gs.kd) ∧ w'.cell? ⟨b, 1, none⟩ = some (.int .i64 gs.tx) ∧ w'.cell? ⟨b, 2, none⟩ = some (.string gs.it) ∧ w'.cell? ⟨b, 3, none⟩ = some (.int .i64 gs.so) ∧ w'.cell? ⟨b, 4, none⟩ = some (.bool gs.hs) ∧ w'.cell? ⟨sb, so + fk * 8, none⟩ = some (.int .u8 gs.kd) ∧ w'.cell? ⟨sb, so + fk * 8 + 1, none⟩ = some (.int .i64 gs.tx) ∧ w'.cell? ⟨sb, so + fk * 8 + 2, none⟩ = some (.string gs.it) ∧ w'.cell? ⟨sb, so + fk * 8 + 3, none⟩ = some (.int .i64 gs.so) ∧ w'.cell? ⟨sb, so + fk * 8 + 4, none⟩ = some (.bool gs.hs))
              (first | go_keep | (exact ⟨cell_later hb3 q0, cell_later hb3 q1, cell_later hb3 q2, cell_later hb3 q3, cell_later hb3 q4, cell_later hb3 s0, cell_later hb3 s1, cell_later hb3 s2, cell_later hb3 s3, cell_later hb3 s4⟩))
              ((go_at_call 12; refine Calls.mono (sameOp_any gs.kd gs.tx gs.it gs.so gs.hs _) ?_; rintro e w3 ⟨rfl, hb3⟩))
            refine HKK.out _ _ ?_
            clear HKK KK
            have HB3 : Hid _ := hb3
            clear hb3 s0 s1 s2 s3 s4 q0 q1 q2 q3 q4
            go_wp2_with fail
            go_roundw
            case rel => exact ⟨2 + 1, by omega, by go_num, (Below.drew HBR.out).trans (HB3.out.mono (Below.size (Below.drew HBR.out)))⟩
            case measure => simp [intOf]
      · skip
        have a1 := (HEW.out.base.kb 3 (by omega))
        have a2 := (HEW.out.base.hbf 3 (by omega))
        have hc := HEW.out.outOf 3 (by omega)
        obtain ⟨o1, o2⟩ := HE.out.oi 3 (by omega)
        cases hck : c4 p.b0 p.b1 p.b2 p.b3 3 with
        | true =>
          obtain ⟨e1, e2⟩ := o1 hck
          rw [hck] at a1
          obtain ⟨y, hy⟩ := Option.ne_none_iff_exists'.1 e2
          rw [← e1, hy, optr_some] at a2
          rw [hy, optr_some] at hc
          have HC : Hid _ := hc
          clear hc o1 o2 e1 e2 hy hck HE HD HEW
          go_wp2_with fail
          refine Calls.mono HC.out ?_
          rintro e w3 ⟨rfl, hw3⟩
          have hw3 := hw3.symm
          subst hw3
          clear HC
          go_wp2_with fail
          go_roundw
          case rel => exact ⟨3 + 1, by omega, by go_num, HBR.out⟩
          case measure => simp [intOf]
        | false =>
          obtain ⟨f1, f2⟩ := o2 hck
          rw [hck] at a1
          by_cases hf : p.f 3 = p.S.length
          · have hnn := f1 hf
            rw [hnn, optr_none] at hc
            have HC : Hid _ := hc
            rw [hf]
            clear hc o1 o2 f1 f2 hnn hck HE HD HEW hf
            go_wp2_with fail
            refine Calls.mono HC.out ?_
            rintro e w3 ⟨rfl, hw3⟩
            have hw3 := hw3.symm
            subst hw3
            clear HC
            go_wp2_with fail
            go_roundw
            case rel => exact ⟨3 + 1, by omega, by go_num, HBR.out⟩
            case measure => simp [intOf]
          · obtain ⟨b, hb⟩ := f2 hf
            have hfl := SP.f_lt (p := p) 3 hf
            have hfe : ffw (wS p.ends p.I0 p.S 3) p.S.length p.S.length = p.f 3 := rfl
            rw [hfe] at hb
            have hg := HEW.out.ops 3 b _ hb
            rw [hb, optr_some] at hc
            obtain ⟨sb, so, es, s0, s1, s2, s3, s4, _⟩ := step_cell HEW.out.base.ss hfl
            rw [es]
            have HC : Hid _ := hc
            clear hc o1 o2 f1 f2 hck HE HD HEW hfe
            generalize p.f 3 = fk at *
            generalize p.S.getD fk e0 = gs at *
            have q0 : wr.cell? ⟨b, 0, none⟩ = some (.int .u8 gs.kd) := cell_blk hg rfl
            have q1 : wr.cell? ⟨b, 1, none⟩ = some (.int .i64 gs.tx) := cell_blk hg rfl
            have q2 : wr.cell? ⟨b, 2, none⟩ = some (.string gs.it) := cell_blk hg rfl
            have q3 : wr.cell? ⟨b, 3, none⟩ = some (.int .i64 gs.so) := cell_blk hg rfl
            have q4 : wr.cell? ⟨b, 4, none⟩ = some (.bool gs.hs) := cell_blk hg rfl
            have hfe : ((fk : Int) == (p.S.length : Int)) = false := by rw [beq_eq_false_iff_ne]; omega
            have hfl' : (fk : Int) < (p.S.length : Int) := by omega
            have hf0 : (0 : Int) ≤ (fk : Int) := by omega
            clear hg hb hf
            go_wp2_with fail
            refine Calls.mono HC.out ?_
            rintro e w3 ⟨rfl, hw3⟩
            have hw3 := hw3.symm
            subst hw3
            clear HC
            go_wp2_with fail
            refine wp_shade2 (fun KK hKK => ?_)
            have HKK : Hid _ := hKK
            clear hKK
            go_region_held3 (fun w' => w'.cell? ⟨b, 0, none⟩ = some (.int .u8 gs.kd) ∧ w'.cell? ⟨b, 1, none⟩ = some (.int .i64 gs.tx) ∧ w'.cell? ⟨b, 2, none⟩ = some (.string gs.it) ∧ w'.cell? ⟨b, 3, none⟩ = some (.int .i64 gs.so) ∧ w'.cell? ⟨b, 4, none⟩ = some (.bool gs.hs) ∧ w'.cell? ⟨sb, so + fk * 8, none⟩ = some (.int .u8 gs.kd) ∧ w'.cell? ⟨sb, so + fk * 8 + 1, none⟩ = some (.int .i64 gs.tx) ∧ w'.cell? ⟨sb, so + fk * 8 + 2, none⟩ = some (.string gs.it) ∧ w'.cell? ⟨sb, so + fk * 8 + 3, none⟩ = some (.int .i64 gs.so) ∧ w'.cell? ⟨sb, so + fk * 8 + 4, none⟩ = some (.bool gs.hs))
              (first | go_keep | (exact ⟨cell_later hb3 q0, cell_later hb3 q1, cell_later hb3 q2, cell_later hb3 q3, cell_later hb3 q4, cell_later hb3 s0, cell_later hb3 s1, cell_later hb3 s2, cell_later hb3 s3, cell_later hb3 s4⟩))
              ((go_at_call 12; refine Calls.mono (sameOp_any gs.kd gs.tx gs.it gs.so gs.hs _) ?_; rintro e w3 ⟨rfl, hb3⟩))
            refine HKK.out _ _ ?_
            clear HKK KK
            have HB3 : Hid _ := hb3
            clear hb3 s0 s1 s2 s3 s4 q0 q1 q2 q3 q4
            go_wp2_with fail
            go_roundw
            case rel => exact ⟨3 + 1, by omega, by go_num, (Below.drew HBR.out).trans (HB3.out.mono (Below.size (Below.drew HBR.out)))⟩
            case measure => simp [intOf]
    · obtain rfl : k = 4 := by omega
      clear hbr
      go_wp2_with fail
      exact sx15 p _ _ _ _ _ _ _ _ _ _ _ _ _ _ _ _ _ _ _ _ _ _ _ _ _ _ _ _ _ _ _ _ _ _ _ _ _ _ _ _ _ _ _ _ _ _ _ _ _ _ _ _ _ _ _ _ _ _ _ _ _ _ _ _ _ _ _ _ _ _ _ _ _ _ _ _ _ _ _ _ _ _ _ _ _ _ _ _ _ _ _ _ _ _ _ _ _ _ _ _ _ _ _ _ _ _ _ _ _ _ _ _ _ _ _ _ _ _ _ _ _ _ _ _ _ _ _ _ _ _ _ _ _ _ _ _ _ _ _ _ _ _ _ _ _ _ _ _ _ _ _ _ _ _ _ _ _ _ _ _ _ _ _ _ _ _ _ _ _ _ _ _ _ _ _ _ _ _ _ _ _ _ _ _ _ _ _ _ _ _ _ _ _ _ _ _ _ _ _ _ _ _ _ _ _ _ _ _ _ _ _ _ _ _ _ _ _ _ _ _ _ _ _ _ _ _ _ _ _ _ _ _ _ _ _ _ _ _ _ _ _ _ _ _ _ _ _ _ _ _ _ _ _ _ _ _ _ _ _ _ _ _ _ _ _ _ _ _ _ _ _ _ _ _ _ _ _ _ _ _ _ _ _ _ _ _ _ _ _ _ _ _ _ _ _ _ _ _ _ _ _ _ _ _ _ _ _ _ _ _ _ _ _ _ _ _ _ _ _ _ _ _ _ _ _ _ _ _ _ _ _ _ _ _ _ _ _ _ _ _ _ _ _ _ _ _ _ _ _ _ _ _ _ _ _ _ _ _ _ _ _ _ _ _ _ _ _ _ _ _ _ _ _ _ _ _ _ _ _ _ _ _ _ _ _ _ _ _ _ _ _ _ _ _ _ _ _ _ _ _ _ _ _ _ _ _ _ _ _ _ _ _ _ _ _ _ _ _ _ _ _ _ _ _ _ _ _ _ _ _ _ _ _ _ _ _ _ _ _ _ _ _ _ _ _ _ _ _ _ _ _ _ _ _ _ _ _ _ _ _ _ _ _ _ _ _ _ _ _ _ _ _ _ _ _ _ _ _ _ _ _ _ _ _ _ _ _ _ _ _ _ _ _ _ _ _ _ _ _ _ _ _ _ _ _ _ _ _ _ _ _ _ _ _ _ _ _ _ _ _ _ _ _ _ _ _ _ _ _ _ _ _ _ _ _ _ _ _ _ _ _ _ _ _ _ _ _ _ _ _ _ _ _ _ _ _ _ _ _ _ _ _ _ _ _ _ _ _ _ _ _ _ _ _ _ _ _ _ _ _ _ _ _ _ _ _ _ _ _ _ _ _ _ _ _ _ _ _ _ _ _ _ _ _ _ _ _ _ _ _ _ _ _ _ _ _ _ _ _ _ _ _ _ _ _ _ _ _ _ _ _ _ _ _ _ _ _ _ _ _ _ _ _ _ _ _ _ _ _ _ _ _ (HE.out.grown HBR.out) (fun j hj => cell_later HBR.out (HD.out j hj))

end Go.Proofs.Qxb6625890a
