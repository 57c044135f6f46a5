/-
  Seat b6625890a: the law FnReadScriptMatchesFirstFailureModel, what dirty holds at the probe. Frames written by program.
-/
import Derived.Test.Qxb6625890aBC
namespace Go.Proofs.Qxb6625890a
open Go.RowKit Go.Maps
set_option linter.unusedVariables false

theorem got_at {L z D : List Int} (h : L = z ++ D) {j : Nat} (hj : j < D.length) : z.length + j < L.length ∧ L.getD (z.length + j) 0 = D.getD j 0 := by
  subst h
  refine ⟨by simp; omega, ?_⟩
  rw [List.getD_eq_getElem?_getD, List.getElem?_append_right (by omega), Nat.add_sub_cancel_left, ← List.getD_eq_getElem?_getD]
theorem got_left {L z D : List Int} (h : L = z ++ D) {j : Nat} (hj : j < z.length) : j < L.length ∧ L.getD j 0 = z.getD j 0 := by
  subst h
  refine ⟨by simp; omega, ?_⟩
  rw [List.getD_eq_getElem?_getD, List.getElem?_append_left hj, ← List.getD_eq_getElem?_getD]
theorem tl3_34 : tl Try.f3 34 = Code.seq (st Try.f3 34) (tl Try.f3 35) := by kernel_rfl
theorem tl3_35 : tl Try.f3 35 = Code.seq (st Try.f3 35) (tl Try.f3 36) := by kernel_rfl
theorem tl3_36 : tl Try.f3 36 = Code.seq (st Try.f3 36) (tl Try.f3 37) := by kernel_rfl
theorem tl3_37 : tl Try.f3 37 = Code.seq (st Try.f3 37) (tl Try.f3 38) := by kernel_rfl
theorem tl3_38 : tl Try.f3 38 = Code.seq (st Try.f3 38) (tl Try.f3 39) := by kernel_rfl
theorem tl3_39 : tl Try.f3 39 = Code.seq (st Try.f3 39) (tl Try.f3 40) := by kernel_rfl
theorem tl3_40 : tl Try.f3 40 = Code.seq (st Try.f3 40) (tl Try.f3 41) := by kernel_rfl
theorem tl3_41 : tl Try.f3 41 = Code.seq (st Try.f3 41) (tl Try.f3 42) := by kernel_rfl
theorem tl3_42 : tl Try.f3 42 = Code.seq (st Try.f3 42) (tl Try.f3 43) := by kernel_rfl
theorem tl3_43 : tl Try.f3 43 = Code.seq (st Try.f3 43) (tl Try.f3 44) := by kernel_rfl
theorem tl3_44 : tl Try.f3 44 = Code.seq (st Try.f3 44) (tl Try.f3 45) := by kernel_rfl

set_option maxRecDepth 100000 in
set_option maxHeartbeats 2000000 in
theorem sx43 {w w0 : World} {B : Nat} (p : SP) (gd : Nat) (ia : Option Addr) (ic : Nat) (o : Option Addr) (cp : Nat) (L : List Int) (u0 u4 u5 u6 u9 u10 u11 u12 u13 u15 u16 u17 u18 u19 u20 u21 u22 u23 u24 u25 u26 u27 u28 u29 u30 u31 u32 u33 u34 u35 u36 u37 u38 u39 u40 u41 u42 u43 u44 u45 u46 u47 u48 u49 u50 u52 u53 u54 u55 u57 u58 u59 u60 u61 u62 u63 u64 u65 u66 u67 u68 u69 u70 u71 u72 u73 u74 u75 u76 u77 u78 u79 u80 u81 u82 u83 u84 u85 u86 u87 u88 u89 u90 u91 u92 u93 u94 u95 u96 u97 u98 u99 u100 u101 u102 u103 u104 u105 u106 u107 u108 u109 u110 u111 u112 u113 u114 u115 u116 u117 u118 u119 u120 u121 u122 u123 u124 u125 u126 u127 u128 u129 u130 u131 u132 u133 u134 u135 u136 u137 u138 u139 u140 u141 u142 u143 u144 u145 u146 u147 u148 u149 u150 u151 u152 u153 u154 u155 u156 u157 u158 u159 u160 u161 u162 u163 u164 u165 u166 u167 u168 u169 u170 u171 u172 u173 u174 u175 u176 u177 u178 u179 u180 u181 u182 u183 u184 u185 u186 u187 u188 u189 u190 u191 u192 u193 u194 u195 u196 u197 u198 u199 u200 u201 u202 u203 u204 u205 u206 u207 u208 u209 u210 u211 u212 u213 u214 u215 u216 u217 u218 u219 u220 u221 u222 u223 u224 u225 u226 u227 u228 u229 u230 u231 u232 u233 u234 u235 u236 u237 u238 u239 u240 u241 u242 u243 u244 u245 u246 u247 u248 u249 u250 u251 u252 u253 u254 u255 u256 u257 u258 u259 u260 u261 u262 u263 u264 u265 u266 u267 u268 u269 u270 u271 u272 u273 u274 u275 u276 u277 u278 u279 u280 u281 u282 u283 u284 u285 u286 u287 u288 u289 u290 u291 u292 u293 u294 u295 u296 u297 u298 u299 u300 u301 u302 u303 u304 u305 u306 u307 u308 u309 u310 u311 u312 u313 u314 u315 u316 u317 u318 u319 u320 u321 u322 u323 u324 u325 u326 u327 u328 u329 u330 u331 u332 u333 u334 u335 u336 u337 u338 u339 u340 u341 u342 u343 u344 u345 u346 u347 u348 u349 u350 u351 u352 u353 u354 u355 u356 u357 u358 u359 u360 u361 u362 u363 u364 u365 u366 u367 u368 u369 u370 u371 u372 u373 u374 u375 u376 u377 u378 u379 u380 u381 u382 u383 u384 u385 u386 u387 u388 u389 u390 u391 u392 u393 u394 u395 u396 u397 u398 u399 u400 u401 u402 u403 u404 u405 u406 u407 u408 u409 u410 u411 u412 u413 u414 u415 u416 u417 u418 u419 u420 u421 u422 u423 u424 u425 u426 u427 u428 u429 u430 u431 u432 u433 u434 u435 u436 u437 u438 u439 u440 u441 u442 u443 u444 u445 u446 u447 u448 u449 u450 u451 u452 u453 u454 u455 u456 u457 u458 u459 u460 u461 u462 u463 u464 u465 u466 u467 u468 u469 u470 u471 u472 u473 u474 u475 u476 u477 u478 u479 u480 u481 u482 u483 u484 u485 u486 u487 u488 u489 u490 u491 u492 u493 u494 u495 u496 u497 u498 u499 u500 u501 u502 u503 u504 u505 u506 u507 u508 u509 u510 u511 u512 u513 u514 u515 u516 u517 u518 u519 u520 u521 u522 u523 u524 u525 u526 u527 u528 u529 u530 u531 u532 u533 u534 u535 u536 u537 u538 u539 u540 u541 u542 u543 u544 u545 u546 u547 u548 u549 u550 u551 u552 u553 u554 u555 u556 u557 u558 u559 u560 u561 u562 u563 u564 u565 u566 u567 u568 u569 u570 u571 u572 u573 u574 u575 u576 u577 u578 u579 u580 u581 u582 u583 u584 u585 u586 u587 u588 u589 u590 u591 u592 u593 u594 u595 u596 u597 u598 u599 u600 u601 u602 u603 u604 u605 u606 u607 u608 u609 u610 u611 u612 u613 u614 u615 u616 u617 u618 u619 u620 u621 u622 u623 u624 u625 u626 u627 u628 u629 u630 u631 u632 u633 u634 u635 u636 u637 u638 u639 u640 u641 u642 u643 u644 u645 u646 u647 u648 u649 u650 u651 u652 u653 u654 u655 u656 u657 : Value)
    (h : Env w0 B w p) (hd : ∀ j, j < p.S.length → w.cell? ⟨gd, j, none⟩ = some (.bool (p.dr j))) (hL : p.b0 = false → L = p.z ++ p.D p.S.length) (hLl : L.length ≤ 5000000) (hsl : Sl w o (ints L)) (hzl : p.z.length ≤ 1048576) :
    Code.wp Try.prog (tl Try.f3 43) (QT Try.f3 B w0) ⟨#[u0, .slice p.sa p.S.length p.sc, .int .i32 p.probe, .pointer (some ⟨p.bst, 0, none⟩), u4, u5, u6, .int .i64 p.S.length, .pointer (some ⟨p.cb, 0, none⟩), u9, u10, u11, u12, u13, .slice (some ⟨gd, 0, none⟩) p.S.length p.S.length, u15, u16, u17, u18, u19, u20, u21, u22, u23, u24, u25, u26, u27, u28, u29, u30, u31, u32, u33, u34, u35, u36, u37, u38, u39, u40, u41, u42, u43, u44, u45, u46, u47, u48, u49, u50, .slice ia p.z.length ic, u52, u53, u54, u55, .slice o L.length cp, u57, u58, u59, u60, u61, u62, u63, u64, u65, u66, u67, u68, u69, u70, u71, u72, u73, u74, u75, u76, u77, u78, u79, u80, u81, u82, u83, u84, u85, u86, u87, u88, u89, u90, u91, u92, u93, u94, u95, u96, u97, u98, u99, u100, u101, u102, u103, u104, u105, u106, u107, u108, u109, u110, u111, u112, u113, u114, u115, u116, u117, u118, u119, u120, u121, u122, u123, u124, u125, u126, u127, u128, u129, u130, u131, u132, u133, u134, u135, u136, u137, u138, u139, u140, u141, u142, u143, u144, u145, u146, u147, u148, u149, u150, u151, u152, u153, u154, u155, u156, u157, u158, u159, u160, u161, u162, u163, u164, u165, u166, u167, u168, u169, u170, u171, u172, u173, u174, u175, u176, u177, u178, u179, u180, u181, u182, u183, u184, u185, u186, u187, u188, u189, u190, u191, u192, u193, u194, u195, u196, u197, u198, u199, u200, u201, u202, u203, u204, u205, u206, u207, u208, u209, u210, u211, u212, u213, u214, u215, u216, u217, u218, u219, u220, u221, u222, u223, u224, u225, u226, u227, u228, u229, u230, u231, u232, u233, u234, u235, u236, u237, u238, u239, u240, u241, u242, u243, u244, u245, u246, u247, u248, u249, u250, u251, u252, u253, u254, u255, u256, u257, u258, u259, u260, u261, u262, u263, u264, u265, u266, u267, u268, u269, u270, u271, u272, u273, u274, u275, u276, u277, u278, u279, u280, u281, u282, u283, u284, u285, u286, u287, u288, u289, u290, u291, u292, u293, u294, u295, u296, u297, u298, u299, u300, u301, u302, u303, u304, u305, u306, u307, u308, u309, u310, u311, u312, u313, u314, u315, u316, u317, u318, u319, u320, u321, u322, u323, u324, u325, u326, u327, u328, u329, u330, u331, u332, u333, u334, u335, u336, u337, u338, u339, u340, u341, u342, u343, u344, u345, u346, u347, u348, u349, u350, u351, u352, u353, u354, u355, u356, u357, u358, u359, u360, u361, u362, u363, u364, u365, u366, u367, u368, u369, u370, u371, u372, u373, u374, u375, u376, u377, u378, u379, u380, u381, u382, u383, u384, u385, u386, u387, u388, u389, u390, u391, u392, u393, u394, u395, u396, u397, u398, u399, u400, u401, u402, u403, u404, u405, u406, u407, u408, u409, u410, u411, u412, u413, u414, u415, u416, u417, u418, u419, u420, u421, u422, u423, u424, u425, u426, u427, u428, u429, u430, u431, u432, u433, u434, u435, u436, u437, u438, u439, u440, u441, u442, u443, u444, u445, u446, u447, u448, u449, u450, u451, u452, u453, u454, u455, u456, u457, u458, u459, u460, u461, u462, u463, u464, u465, u466, u467, u468, u469, u470, u471, u472, u473, u474, u475, u476, u477, u478, u479, u480, u481, u482, u483, u484, u485, u486, u487, u488, u489, u490, u491, u492, u493, u494, u495, u496, u497, u498, u499, u500, u501, u502, u503, u504, u505, u506, u507, u508, u509, u510, u511, u512, u513, u514, u515, u516, u517, u518, u519, u520, u521, u522, u523, u524, u525, u526, u527, u528, u529, u530, u531, u532, u533, u534, u535, u536, u537, u538, u539, u540, u541, u542, u543, u544, u545, u546, u547, u548, u549, u550, u551, u552, u553, u554, u555, u556, u557, u558, u559, u560, u561, u562, u563, u564, u565, u566, u567, u568, u569, u570, u571, u572, u573, u574, u575, u576, u577, u578, u579, u580, u581, u582, u583, u584, u585, u586, u587, u588, u589, u590, u591, u592, u593, u594, u595, u596, u597, u598, u599, u600, u601, u602, u603, u604, u605, u606, u607, u608, u609, u610, u611, u612, u613, u614, u615, u616, u617, u618, u619, u620, u621, u622, u623, u624, u625, u626, u627, u628, u629, u630, u631, u632, u633, u634, u635, u636, u637, u638, u639, u640, u641, u642, u643, u644, u645, u646, u647, u648, u649, u650, u651, u652, u653, u654, u655, u656, u657], []⟩ w := by
  have hn := h.pl.dom.n
  have q0 : w.cell? ⟨p.bst, 3 + 0, none⟩ = some (.bool p.b0) := h.base.kb 0 (by omega)
  have HE : Hid _ := h
  have HD : Hid _ := hd
  have HL : Hid _ := hL
  have HSL : Hid _ := hsl
  clear h hd hL hsl
  rw [tl3_43]
  refine wp_seq_k (fun K hK => ?_)
  conv => arg 2; whnf
  go_wp2_with fail
  rw [tl3_44]
  refine wp_seq_k (fun K hK => ?_)
  conv => arg 2; whnf
  cases hb : p.b0 with
  | true =>
    rw [hb] at q0
    go_wp2_with fail
    conv => arg 2; whnf
    unfold QT
    go_wp2_with fail
    go_ret
    exact ⟨rfl, HE.out.bel⟩
  | false =>
    rw [hb] at q0
    have hL := HL.out hb
    have HLL : Hid _ := hL
    clear hL HL
    go_wp2_with fail
    go_loopw [59, 60] (fun pos i wr => ∃ k : Nat, k ≤ p.S.length ∧ i = .int .i64 k ∧ pos = .int .i64 ((p.z.length + (p.D k).length : Nat) : Int) ∧ Below w.heap.size w wr) (fun _ i _ => p.S.length - (intOf i).toNat)
    case atStart => exact ⟨0, by omega, rfl, rfl, Below.refl _ _⟩
    case round =>
      obtain ⟨k, hk, rfl, rfl, hbr⟩ := hrel
      have HBR : Hid _ := hbr
      have hDk := SP.D_len (p := p) k
      by_cases hlt : k < p.S.length
      · have hlt' : (k : Int) < (p.S.length : Int) := by omega
        have hlt0 : (0 : Int) ≤ (k : Int) := by omega
        obtain ⟨sb, so, es, _, _, _, _, _, a5, _, a7⟩ := step_cell (Sl.below HE.out.base.ss hbr) hlt
        rw [es]
        have d1 := cell_later hbr (HD.out k hlt)
        have hDs := SP.D_succ (p := p) k
        by_cases ht : (p.S.getD k e0).t = p.probe
        · by_cases hdr : p.dr k = true
          · obtain ⟨x1, x2⟩ := SP.D_at (p := p) hlt ⟨ht, hdr⟩
            obtain ⟨g1, g2⟩ := got_at HLL.out x1
            obtain ⟨gb, go, eg, cg⟩ := int_cell (Sl.below HSL.out hbr) g1
            rw [if_pos ⟨ht, hdr⟩] at hDs
            have hsuc : p.z.length + (p.D (k + 1)).length = p.z.length + (p.D k).length + 1 := by rw [hDs]; simp; omega
            have HSUC : Hid _ := hsuc
            rw [g2, x2] at cg
            rw [hdr] at d1
            rw [ht] at a5
            subst eg
            clear hDs hsuc x1 x2 g2 HE HD HSL HLL hbr hdr ht
            generalize p.S.getD k e0 = gs at *
            generalize hix : p.z.length + (p.D k).length = ix at *
            have hix' : (ix : Int) < (L.length : Int) := by omega
            have hix0 : (0 : Int) ≤ (ix : Int) := by omega
            go_wp2_with fail
            go_quiet (fail)
            go_wp2_with fail
            go_roundw
            case rel => exact ⟨k + 1, by omega, by go_num, by rw [HSUC.out]; go_num, below_drewN HBR.out _⟩
            case measure => simp [intOf]; omega
          · have hdf : p.dr k = false := by simpa using hdr
            rw [if_neg (fun hh => hdr hh.2)] at hDs
            rw [hdf] at d1
            rw [ht] at a5
            have HDS : Hid _ := hDs
            clear hDs HE HD HSL HLL hbr hdr ht hdf
            generalize p.S.getD k e0 = gs at *
            generalize hix : p.z.length + (p.D k).length = ix at *
            go_wp2_with fail
            go_roundw
            case rel => exact ⟨k + 1, by omega, by go_num, by rw [HDS.out, hix], HBR.out⟩
            case measure => simp [intOf]; omega
        · have htf : ((p.S.getD k e0).t == p.probe) = false := by simpa using ht
          rw [if_neg (fun hh => ht hh.1)] at hDs
          have HDS : Hid _ := hDs
          clear hDs HE HD HSL HLL hbr ht
          generalize p.S.getD k e0 = gs at *
          generalize hix : p.z.length + (p.D k).length = ix at *
          go_wp2_with fail
          go_roundw
          case rel => exact ⟨k + 1, by omega, by go_num, by rw [HDS.out, hix], HBR.out⟩
          case measure => simp [intOf]; omega
      · obtain rfl : k = p.S.length := by omega
        clear hbr
        go_wp2_with fail
        conv => arg 2; whnf
        unfold QT
        go_wp2_with fail
        go_ret
        exact ⟨rfl, HE.out.bel.trans (HBR.out.mono HE.out.Bw)⟩

end Go.Proofs.Qxb6625890a
