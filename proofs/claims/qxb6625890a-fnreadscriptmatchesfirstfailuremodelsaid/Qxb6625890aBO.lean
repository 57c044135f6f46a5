/-
  Seat b6625890a: the law FnReadScriptMatchesFirstFailureModel, its beginning and the whole. Frames written by program.
-/
import Derived.Test.Qxb6625890aBN
namespace Go.Proofs.Qxb6625890a
open Go.RowKit Go.Maps
set_option linter.unusedVariables false

set_option maxRecDepth 100000 in
set_option maxHeartbeats 2000000 in
theorem sx3 {w w0 : World} {B : Nat} (ae : Option Addr) (ce : Nat) (ai : Option Addr) (ci : Nat) (ar : Option Addr) (cr : Nat) (b0 b1 b2 b3 : Bool) (ad : Option Addr) (cd : Nat) (ends : List Int) (items reads : List (Int × Int)) (des : List DEnt) (sa : Option Addr) (sc : Nat) (S : List Step) (probe : Int) (bst : Nat) (u0 u4 u5 u6 u7 u8 u9 u10 u11 u12 u13 u14 u15 u16 u17 u18 u19 u20 u21 u22 u23 u24 u25 u26 u27 u28 u29 u30 u31 u32 u33 u34 u35 u36 u37 u38 u39 u40 u41 u42 u43 u44 u45 u46 u47 u48 u49 u50 u51 u52 u53 u54 u55 u56 u57 u58 u59 u60 u61 u62 u63 u64 u65 u66 u67 u68 u69 u70 u71 u72 u73 u74 u75 u76 u77 u78 u79 u80 u81 u82 u83 u84 u85 u86 u87 u88 u89 u90 u91 u92 u93 u94 u95 u96 u97 u98 u99 u100 u101 u102 u103 u104 u105 u106 u107 u108 u109 u110 u111 u112 u113 u114 u115 u116 u117 u118 u119 u120 u121 u122 u123 u124 u125 u126 u127 u128 u129 u130 u131 u132 u133 u134 u135 u136 u137 u138 u139 u140 u141 u142 u143 u144 u145 u146 u147 u148 u149 u150 u151 u152 u153 u154 u155 u156 u157 u158 u159 u160 u161 u162 u163 u164 u165 u166 u167 u168 u169 u170 u171 u172 u173 u174 u175 u176 u177 u178 u179 u180 u181 u182 u183 u184 u185 u186 u187 u188 u189 u190 u191 u192 u193 u194 u195 u196 u197 u198 u199 u200 u201 u202 u203 u204 u205 u206 u207 u208 u209 u210 u211 u212 u213 u214 u215 u216 u217 u218 u219 u220 u221 u222 u223 u224 u225 u226 u227 u228 u229 u230 u231 u232 u233 u234 u235 u236 u237 u238 u239 u240 u241 u242 u243 u244 u245 u246 u247 u248 u249 u250 u251 u252 u253 u254 u255 u256 u257 u258 u259 u260 u261 u262 u263 u264 u265 u266 u267 u268 u269 u270 u271 u272 u273 u274 u275 u276 u277 u278 u279 u280 u281 u282 u283 u284 u285 u286 u287 u288 u289 u290 u291 u292 u293 u294 u295 u296 u297 u298 u299 u300 u301 u302 u303 u304 u305 u306 u307 u308 u309 u310 u311 u312 u313 u314 u315 u316 u317 u318 u319 u320 u321 u322 u323 u324 u325 u326 u327 u328 u329 u330 u331 u332 u333 u334 u335 u336 u337 u338 u339 u340 u341 u342 u343 u344 u345 u346 u347 u348 u349 u350 u351 u352 u353 u354 u355 u356 u357 u358 u359 u360 u361 u362 u363 u364 u365 u366 u367 u368 u369 u370 u371 u372 u373 u374 u375 u376 u377 u378 u379 u380 u381 u382 u383 u384 u385 u386 u387 u388 u389 u390 u391 u392 u393 u394 u395 u396 u397 u398 u399 u400 u401 u402 u403 u404 u405 u406 u407 u408 u409 u410 u411 u412 u413 u414 u415 u416 u417 u418 u419 u420 u421 u422 u423 u424 u425 u426 u427 u428 u429 u430 u431 u432 u433 u434 u435 u436 u437 u438 u439 u440 u441 u442 u443 u444 u445 u446 u447 u448 u449 u450 u451 u452 u453 u454 u455 u456 u457 u458 u459 u460 u461 u462 u463 u464 u465 u466 u467 u468 u469 u470 u471 u472 u473 u474 u475 u476 u477 u478 u479 u480 u481 u482 u483 u484 u485 u486 u487 u488 u489 u490 u491 u492 u493 u494 u495 u496 u497 u498 u499 u500 u501 u502 u503 u504 u505 u506 u507 u508 u509 u510 u511 u512 u513 u514 u515 u516 u517 u518 u519 u520 u521 u522 u523 u524 u525 u526 u527 u528 u529 u530 u531 u532 u533 u534 u535 u536 u537 u538 u539 u540 u541 u542 u543 u544 u545 u546 u547 u548 u549 u550 u551 u552 u553 u554 u555 u556 u557 u558 u559 u560 u561 u562 u563 u564 u565 u566 u567 u568 u569 u570 u571 u572 u573 u574 u575 u576 u577 u578 u579 u580 u581 u582 u583 u584 u585 u586 u587 u588 u589 u590 u591 u592 u593 u594 u595 u596 u597 u598 u599 u600 u601 u602 u603 u604 u605 u606 u607 u608 u609 u610 u611 u612 u613 u614 u615 u616 u617 u618 u619 u620 u621 u622 u623 u624 u625 u626 u627 u628 u629 u630 u631 u632 u633 u634 u635 u636 u637 u638 u639 u640 u641 u642 u643 u644 u645 u646 u647 u648 u649 u650 u651 u652 u653 u654 u655 u656 u657 : Value)
    (hst : w.heap[bst]? = some (.cells #[.slice ae ends.length ce, .slice ai items.length ci, .slice ar reads.length cr, .bool b0, .bool b1, .bool b2, .bool b3, .slice ad des.length cd] 28 (0, 0))) (hZ : ZV w ae ai ar ad ends items reads des) (hS : Sl w sa (flatS S)) (hsl : flatS S ≠ [] → ∀ x, sa = some x → x.block < B) (dom : SDom b0 b1 b2 b3 ends items reads des S) (wk : ∀ x ∈ des, (Lit.int .i32 x.key).wf = true) (pw : (Lit.int .i32 probe).wf = true) (tw : ∀ i, i < S.length → (Lit.int .i32 (S.getD i e0).t).wf = true) (rg : ∀ i, i < S.length → I32 (S.getD i e0).item ∧ I32 (S.getD i e0).src) (hb : Below B w0 w) (hBw : B ≤ w.heap.size) (hBs : B ≤ bst) :
    Code.wp Try.prog (tl Try.f3 3) (QT Try.f3 B w0) ⟨#[u0, .slice sa S.length sc, .int .i32 probe, .pointer (some ⟨bst, 0, none⟩), u4, u5, u6, u7, u8, u9, u10, u11, u12, u13, u14, u15, u16, u17, u18, u19, u20, u21, u22, u23, u24, u25, u26, u27, u28, u29, u30, u31, u32, u33, u34, u35, u36, u37, u38, u39, u40, u41, u42, u43, u44, u45, u46, u47, u48, u49, u50, u51, u52, u53, u54, u55, u56, u57, u58, u59, u60, u61, u62, u63, u64, u65, u66, u67, u68, u69, u70, u71, u72, u73, u74, u75, u76, u77, u78, u79, u80, u81, u82, u83, u84, u85, u86, u87, u88, u89, u90, u91, u92, u93, u94, u95, u96, u97, u98, u99, u100, u101, u102, u103, u104, u105, u106, u107, u108, u109, u110, u111, u112, u113, u114, u115, u116, u117, u118, u119, u120, u121, u122, u123, u124, u125, u126, u127, u128, u129, u130, u131, u132, u133, u134, u135, u136, u137, u138, u139, u140, u141, u142, u143, u144, u145, u146, u147, u148, u149, u150, u151, u152, u153, u154, u155, u156, u157, u158, u159, u160, u161, u162, u163, u164, u165, u166, u167, u168, u169, u170, u171, u172, u173, u174, u175, u176, u177, u178, u179, u180, u181, u182, u183, u184, u185, u186, u187, u188, u189, u190, u191, u192, u193, u194, u195, u196, u197, u198, u199, u200, u201, u202, u203, u204, u205, u206, u207, u208, u209, u210, u211, u212, u213, u214, u215, u216, u217, u218, u219, u220, u221, u222, u223, u224, u225, u226, u227, u228, u229, u230, u231, u232, u233, u234, u235, u236, u237, u238, u239, u240, u241, u242, u243, u244, u245, u246, u247, u248, u249, u250, u251, u252, u253, u254, u255, u256, u257, u258, u259, u260, u261, u262, u263, u264, u265, u266, u267, u268, u269, u270, u271, u272, u273, u274, u275, u276, u277, u278, u279, u280, u281, u282, u283, u284, u285, u286, u287, u288, u289, u290, u291, u292, u293, u294, u295, u296, u297, u298, u299, u300, u301, u302, u303, u304, u305, u306, u307, u308, u309, u310, u311, u312, u313, u314, u315, u316, u317, u318, u319, u320, u321, u322, u323, u324, u325, u326, u327, u328, u329, u330, u331, u332, u333, u334, u335, u336, u337, u338, u339, u340, u341, u342, u343, u344, u345, u346, u347, u348, u349, u350, u351, u352, u353, u354, u355, u356, u357, u358, u359, u360, u361, u362, u363, u364, u365, u366, u367, u368, u369, u370, u371, u372, u373, u374, u375, u376, u377, u378, u379, u380, u381, u382, u383, u384, u385, u386, u387, u388, u389, u390, u391, u392, u393, u394, u395, u396, u397, u398, u399, u400, u401, u402, u403, u404, u405, u406, u407, u408, u409, u410, u411, u412, u413, u414, u415, u416, u417, u418, u419, u420, u421, u422, u423, u424, u425, u426, u427, u428, u429, u430, u431, u432, u433, u434, u435, u436, u437, u438, u439, u440, u441, u442, u443, u444, u445, u446, u447, u448, u449, u450, u451, u452, u453, u454, u455, u456, u457, u458, u459, u460, u461, u462, u463, u464, u465, u466, u467, u468, u469, u470, u471, u472, u473, u474, u475, u476, u477, u478, u479, u480, u481, u482, u483, u484, u485, u486, u487, u488, u489, u490, u491, u492, u493, u494, u495, u496, u497, u498, u499, u500, u501, u502, u503, u504, u505, u506, u507, u508, u509, u510, u511, u512, u513, u514, u515, u516, u517, u518, u519, u520, u521, u522, u523, u524, u525, u526, u527, u528, u529, u530, u531, u532, u533, u534, u535, u536, u537, u538, u539, u540, u541, u542, u543, u544, u545, u546, u547, u548, u549, u550, u551, u552, u553, u554, u555, u556, u557, u558, u559, u560, u561, u562, u563, u564, u565, u566, u567, u568, u569, u570, u571, u572, u573, u574, u575, u576, u577, u578, u579, u580, u581, u582, u583, u584, u585, u586, u587, u588, u589, u590, u591, u592, u593, u594, u595, u596, u597, u598, u599, u600, u601, u602, u603, u604, u605, u606, u607, u608, u609, u610, u611, u612, u613, u614, u615, u616, u617, u618, u619, u620, u621, u622, u623, u624, u625, u626, u627, u628, u629, u630, u631, u632, u633, u634, u635, u636, u637, u638, u639, u640, u641, u642, u643, u644, u645, u646, u647, u648, u649, u650, u651, u652, u653, u654, u655, u656, u657], []⟩ w := by
  have k0 : w.cell? ⟨bst, 0, none⟩ = some (.slice ae ends.length ce) := cell_blk hst rfl
  have k1 : w.cell? ⟨bst, 1, none⟩ = some (.slice ai items.length ci) := cell_blk hst rfl
  have k2 : w.cell? ⟨bst, 2, none⟩ = some (.slice ar reads.length cr) := cell_blk hst rfl
  have k3 : w.cell? ⟨bst, 3, none⟩ = some (.bool b0) := cell_blk hst rfl
  have k4 : w.cell? ⟨bst, 4, none⟩ = some (.bool b1) := cell_blk hst rfl
  have k5 : w.cell? ⟨bst, 5, none⟩ = some (.bool b2) := cell_blk hst rfl
  have k6 : w.cell? ⟨bst, 6, none⟩ = some (.bool b3) := cell_blk hst rfl
  have k7 : w.cell? ⟨bst, 7, none⟩ = some (.slice ad des.length cd) := cell_blk hst rfl
  have hmem0 : ∀ x ∈ des, x.zs.length ≤ 1048576 := by
    intro x hx
    obtain ⟨i, hi, e⟩ := List.getElem_of_mem hx
    have := dom.len.z i hi
    rw [List.getD_eq_getElem?_getD, List.getElem?_eq_getElem hi] at this
    rw [← e]; exact this
  have hcl := clone_any ae ce ai ci ar cr b0 b1 b2 b3 ad cd ends items reads des w hZ dom.len.e dom.len.i dom.len.r dom.len.d hmem0
  have HCL : Hid _ := hcl
  have HS : Hid _ := And.intro hS hsl
  have HDOM : Hid _ := dom
  have HB : Hid _ := hb
  have HST : Hid _ := hst
  have HWK : Hid _ := And.intro wk (And.intro tw rg)
  have hn := dom.n
  clear hcl hZ dom hb hst wk tw rg hS hsl hmem0
  rw [tl3_3]
  refine wp_seq_k (fun K hK => ?_)
  conv => arg 2; whnf
  go_wp2_with fail
  refine Calls.mono HCL.out ?_
  rintro e w2 ⟨v, rfl, y0, y1, y2, y4, des2, rfl, hC2, hb2⟩
  obtain ⟨a0, q0, rfl⟩ := row_shape hC2.e
  obtain ⟨a1, q1, rfl⟩ := row_shape hC2.i
  obtain ⟨a2, q2, rfl⟩ := row_shape hC2.r
  have hd2 := hC2.d
  have hl2 := hC2.len
  rw [← hl2] at hd2
  obtain ⟨a4, q4, rfl⟩ := row_shape hd2
  have HC2 : Hid _ := hC2
  have HB2 : Hid _ := hb2
  have hst2 := blk_kept (grown_of_below hb2) HST.out (by simp)
  clear hC2 HCL hd2
  have k0 := cell_later hb2 k0
  have k1 := cell_later hb2 k1
  have k2 := cell_later hb2 k2
  have k3 := cell_later hb2 k3
  have k4 := cell_later hb2 k4
  have k5 := cell_later hb2 k5
  have k6 := cell_later hb2 k6
  have k7 := cell_later hb2 k7
  have z0 := frozen_of_row w2 bst 0 _ _ hst2
  have z1 := frozen_of_row w2 bst 1 _ _ hst2
  have z2 := frozen_of_row w2 bst 2 _ _ hst2
  have z3 := frozen_of_row w2 bst 3 _ _ hst2
  have z4 := frozen_of_row w2 bst 4 _ _ hst2
  have z5 := frozen_of_row w2 bst 5 _ _ hst2
  have z6 := frozen_of_row w2 bst 6 _ _ hst2
  have z7 := frozen_of_row w2 bst 7 _ _ hst2
  have HST2 : Hid _ := hst2
  have HL2 : Hid _ := hl2
  clear hst2 hb2 hl2
  go_wp2_with fail
  obtain ⟨w9, hw9, g8, o8, e8⟩ := store8 HST2.out (.slice a0 ends.length q0) (.slice a1 items.length q1) (.slice a2 reads.length q2) (.bool b0) (.bool b1) (.bool b2) (.bool b3) (.slice a4 des2.length q4) (HB.out.trans (HB2.out.mono hBw)) hBs
  obtain ⟨w9', hw9', _, _, e9⟩ := store8 HST2.out (.slice a0 ends.length q0) (.slice a1 items.length q1) (.slice a2 reads.length q2) (.bool b0) (.bool b1) (.bool b2) (.bool b3) (.slice a4 des2.length q4) (Below.refl B w2) hBs
  rw [← hw9]
  have hww : w9' = w9 := hw9'.trans hw9.symm
  subst hww
  clear hw9 hw9'
  have hC9 := Copied.only HC2.out o8
  have hS9 : Sl w9' sa (flatS S) := Sl.low (HS.out.1.below HB2.out) HS.out.2 e9
  have hB9 : B ≤ w9'.heap.size := Nat.le_trans (Nat.le_trans hBw HB2.out.size) o8.size
  have hC := HC2.out
  have hl2 := HL2.out
  have hmem : ∀ x ∈ des2, ∃ y ∈ des, x.key = y.key ∧ x.zs = y.zs := by
    intro x hx
    obtain ⟨i, hi, e⟩ := List.getElem_of_mem hx
    have hi2 : i < des.length := by rw [← hC.len]; exact hi
    obtain ⟨q1, q2⟩ := hC.co.key i hi
    rw [List.getD_eq_getElem?_getD, List.getElem?_eq_getElem hi, List.getD_eq_getElem?_getD, List.getElem?_eq_getElem hi2] at q1 q2
    refine ⟨des[i], List.getElem_mem hi2, ?_, ?_⟩
    · rw [← e]; exact q1
    · rw [← e]; exact q2
  have wk' : ∀ x ∈ des2, (Lit.int .i32 x.key).wf = true := fun x hx => by
    obtain ⟨y, hy, e, _⟩ := hmem x hx
    rw [e]; exact HWK.out.1 y hy
  have dom := HDOM.out
  have dom' : SDom b0 b1 b2 b3 ends items reads des2 S := ⟨dom.n, ⟨dom.len.e, dom.len.i, dom.len.r, by rw [hl2]; exact dom.len.d, fun i hi => by
    rw [(hC.co.key i hi).2]; exact dom.len.z i (by rw [← hl2]; exact hi)⟩, dom.st, dom.ok, dom.s⟩
  rw [tl3_4]
  refine wp_seq_k (fun K hK => ?_)
  conv => arg 2; whnf
  go_wp2_with fail
  exact sx5 { bst := bst, bf := 0, cb := 0, sa := sa, sc := sc, S := S, probe := probe, ends := ends, I0 := items, R0 := reads, des := des2, a0 := a0, a1 := a1, a2 := a2, a4 := a4, q0 := q0, q1 := q1, q2 := q2, q4 := q4, b0 := b0, b1 := b1, b2 := b2, b3 := b3, o0 := fun _ => none, out := fun _ => none, dm := fun _ => none } _ des _ _ _ _ _ _ _ _ _ _ _ _ _ _ _ _ _ _ _ _ _ _ _ _ _ _ _ _ _ _ _ _ _ _ _ _ _ _ _ _ _ _ _ _ _ _ _ _ _ _ _ _ _ _ _ _ _ _ _ _ _ _ _ _ _ _ _ _ _ _ _ _ _ _ _ _ _ _ _ _ _ _ _ _ _ _ _ _ _ _ _ _ _ _ _ _ _ _ _ _ _ _ _ _ _ _ _ _ _ _ _ _ _ _ _ _ _ _ _ _ _ _ _ _ _ _ _ _ _ _ _ _ _ _ _ _ _ _ _ _ _ _ _ _ _ _ _ _ _ _ _ _ _ _ _ _ _ _ _ _ _ _ _ _ _ _ _ _ _ _ _ _ _ _ _ _ _ _ _ _ _ _ _ _ _ _ _ _ _ _ _ _ _ _ _ _ _ _ _ _ _ _ _ _ _ _ _ _ _ _ _ _ _ _ _ _ _ _ _ _ _ _ _ _ _ _ _ _ _ _ _ _ _ _ _ _ _ _ _ _ _ _ _ _ _ _ _ _ _ _ _ _ _ _ _ _ _ _ _ _ _ _ _ _ _ _ _ _ _ _ _ _ _ _ _ _ _ _ _ _ _ _ _ _ _ _ _ _ _ _ _ _ _ _ _ _ _ _ _ _ _ _ _ _ _ _ _ _ _ _ _ _ _ _ _ _ _ _ _ _ _ _ _ _ _ _ _ _ _ _ _ _ _ _ _ _ _ _ _ _ _ _ _ _ _ _ _ _ _ _ _ _ _ _ _ _ _ _ _ _ _ _ _ _ _ _ _ _ _ _ _ _ _ _ _ _ _ _ _ _ _ _ _ _ _ _ _ _ _ _ _ _ _ _ _ _ _ _ _ _ _ _ _ _ _ _ _ _ _ _ _ _ _ _ _ _ _ _ _ _ _ _ _ _ _ _ _ _ _ _ _ _ _ _ _ _ _ _ _ _ _ _ _ _ _ _ _ _ _ _ _ _ _ _ _ _ _ _ _ _ _ _ _ _ _ _ _ _ _ _ _ _ _ _ _ _ _ _ _ _ _ _ _ _ _ _ _ _ _ _ _ _ _ _ _ _ _ _ _ _ _ _ _ _ _ _ _ _ _ _ _ _ _ _ _ _ _ _ _ _ _ _ _ _ _ _ _ _ _ _ _ _ _ _ _ _ _ _ _ _ _ _ _ _ _ _ _ _ _ _ _ _ _ _ _ _ _ _ _ _ _ _ _ _ _ _ _ _ _ _ _ _ _ _ _ _ _ _ _ _ _ _ _ _ _ _ _ _ _ _ _ _ _ _ _ _ _ _ _ _ _ _ _ _ _ _ _ _ _ _ _ _ _ _ _ _ _ _ _ _ _ _ _ _ _ _ _ _ _ _ _ _ _ _ _ _ _ _ _ _ _ _ _ _ _ _ _ _ _ _ _ _ _ _ g8 hC9 ⟨dom', pw, HWK.out.2.1, HWK.out.2.2⟩ wk' hS9 (fun hne x hx => Nat.lt_of_lt_of_le (HS.out.2 hne x hx) hB9) e8 hB9

set_option maxRecDepth 100000 in
set_option maxHeartbeats 2000000 in
theorem sx0 {w : World} (ae : Option Addr) (ce : Nat) (ai : Option Addr) (ci : Nat) (ar : Option Addr) (cr : Nat) (b0 b1 b2 b3 : Bool) (ad : Option Addr) (cd : Nat) (ends : List Int) (items reads : List (Int × Int)) (des : List DEnt) (sa : Option Addr) (sc : Nat) (S : List Step) (probe : Int) (u3 u4 u5 u6 u7 u8 u9 u10 u11 u12 u13 u14 u15 u16 u17 u18 u19 u20 u21 u22 u23 u24 u25 u26 u27 u28 u29 u30 u31 u32 u33 u34 u35 u36 u37 u38 u39 u40 u41 u42 u43 u44 u45 u46 u47 u48 u49 u50 u51 u52 u53 u54 u55 u56 u57 u58 u59 u60 u61 u62 u63 u64 u65 u66 u67 u68 u69 u70 u71 u72 u73 u74 u75 u76 u77 u78 u79 u80 u81 u82 u83 u84 u85 u86 u87 u88 u89 u90 u91 u92 u93 u94 u95 u96 u97 u98 u99 u100 u101 u102 u103 u104 u105 u106 u107 u108 u109 u110 u111 u112 u113 u114 u115 u116 u117 u118 u119 u120 u121 u122 u123 u124 u125 u126 u127 u128 u129 u130 u131 u132 u133 u134 u135 u136 u137 u138 u139 u140 u141 u142 u143 u144 u145 u146 u147 u148 u149 u150 u151 u152 u153 u154 u155 u156 u157 u158 u159 u160 u161 u162 u163 u164 u165 u166 u167 u168 u169 u170 u171 u172 u173 u174 u175 u176 u177 u178 u179 u180 u181 u182 u183 u184 u185 u186 u187 u188 u189 u190 u191 u192 u193 u194 u195 u196 u197 u198 u199 u200 u201 u202 u203 u204 u205 u206 u207 u208 u209 u210 u211 u212 u213 u214 u215 u216 u217 u218 u219 u220 u221 u222 u223 u224 u225 u226 u227 u228 u229 u230 u231 u232 u233 u234 u235 u236 u237 u238 u239 u240 u241 u242 u243 u244 u245 u246 u247 u248 u249 u250 u251 u252 u253 u254 u255 u256 u257 u258 u259 u260 u261 u262 u263 u264 u265 u266 u267 u268 u269 u270 u271 u272 u273 u274 u275 u276 u277 u278 u279 u280 u281 u282 u283 u284 u285 u286 u287 u288 u289 u290 u291 u292 u293 u294 u295 u296 u297 u298 u299 u300 u301 u302 u303 u304 u305 u306 u307 u308 u309 u310 u311 u312 u313 u314 u315 u316 u317 u318 u319 u320 u321 u322 u323 u324 u325 u326 u327 u328 u329 u330 u331 u332 u333 u334 u335 u336 u337 u338 u339 u340 u341 u342 u343 u344 u345 u346 u347 u348 u349 u350 u351 u352 u353 u354 u355 u356 u357 u358 u359 u360 u361 u362 u363 u364 u365 u366 u367 u368 u369 u370 u371 u372 u373 u374 u375 u376 u377 u378 u379 u380 u381 u382 u383 u384 u385 u386 u387 u388 u389 u390 u391 u392 u393 u394 u395 u396 u397 u398 u399 u400 u401 u402 u403 u404 u405 u406 u407 u408 u409 u410 u411 u412 u413 u414 u415 u416 u417 u418 u419 u420 u421 u422 u423 u424 u425 u426 u427 u428 u429 u430 u431 u432 u433 u434 u435 u436 u437 u438 u439 u440 u441 u442 u443 u444 u445 u446 u447 u448 u449 u450 u451 u452 u453 u454 u455 u456 u457 u458 u459 u460 u461 u462 u463 u464 u465 u466 u467 u468 u469 u470 u471 u472 u473 u474 u475 u476 u477 u478 u479 u480 u481 u482 u483 u484 u485 u486 u487 u488 u489 u490 u491 u492 u493 u494 u495 u496 u497 u498 u499 u500 u501 u502 u503 u504 u505 u506 u507 u508 u509 u510 u511 u512 u513 u514 u515 u516 u517 u518 u519 u520 u521 u522 u523 u524 u525 u526 u527 u528 u529 u530 u531 u532 u533 u534 u535 u536 u537 u538 u539 u540 u541 u542 u543 u544 u545 u546 u547 u548 u549 u550 u551 u552 u553 u554 u555 u556 u557 u558 u559 u560 u561 u562 u563 u564 u565 u566 u567 u568 u569 u570 u571 u572 u573 u574 u575 u576 u577 u578 u579 u580 u581 u582 u583 u584 u585 u586 u587 u588 u589 u590 u591 u592 u593 u594 u595 u596 u597 u598 u599 u600 u601 u602 u603 u604 u605 u606 u607 u608 u609 u610 u611 u612 u613 u614 u615 u616 u617 u618 u619 u620 u621 u622 u623 u624 u625 u626 u627 u628 u629 u630 u631 u632 u633 u634 u635 u636 u637 u638 u639 u640 u641 u642 u643 u644 u645 u646 u647 u648 u649 u650 u651 u652 u653 u654 u655 u656 u657 : Value)
    (hZ : ZV w ae ai ar ad ends items reads des) (hS : Sl w sa (flatS S)) (hr : ∀ i, i < items.length → I32 (items.getD i (0, 0)).1 ∧ I32 (items.getD i (0, 0)).2) (wk : ∀ x ∈ des, (Lit.int .i32 x.key).wf = true) (pw : (Lit.int .i32 probe).wf = true) (tw : ∀ i, i < S.length → (Lit.int .i32 (S.getD i e0).t).wf = true) (rg : ∀ i, i < S.length → I32 (S.getD i e0).item ∧ I32 (S.getD i e0).src) :
    Code.wp Try.prog (tl Try.f3 0) (QT Try.f3 w.heap.size w) ⟨#[zst ae ends.length ce ai items.length ci ar reads.length cr b0 b1 b2 b3 ad des.length cd, .slice sa S.length sc, .int .i32 probe, u3, u4, u5, u6, u7, u8, u9, u10, u11, u12, u13, u14, u15, u16, u17, u18, u19, u20, u21, u22, u23, u24, u25, u26, u27, u28, u29, u30, u31, u32, u33, u34, u35, u36, u37, u38, u39, u40, u41, u42, u43, u44, u45, u46, u47, u48, u49, u50, u51, u52, u53, u54, u55, u56, u57, u58, u59, u60, u61, u62, u63, u64, u65, u66, u67, u68, u69, u70, u71, u72, u73, u74, u75, u76, u77, u78, u79, u80, u81, u82, u83, u84, u85, u86, u87, u88, u89, u90, u91, u92, u93, u94, u95, u96, u97, u98, u99, u100, u101, u102, u103, u104, u105, u106, u107, u108, u109, u110, u111, u112, u113, u114, u115, u116, u117, u118, u119, u120, u121, u122, u123, u124, u125, u126, u127, u128, u129, u130, u131, u132, u133, u134, u135, u136, u137, u138, u139, u140, u141, u142, u143, u144, u145, u146, u147, u148, u149, u150, u151, u152, u153, u154, u155, u156, u157, u158, u159, u160, u161, u162, u163, u164, u165, u166, u167, u168, u169, u170, u171, u172, u173, u174, u175, u176, u177, u178, u179, u180, u181, u182, u183, u184, u185, u186, u187, u188, u189, u190, u191, u192, u193, u194, u195, u196, u197, u198, u199, u200, u201, u202, u203, u204, u205, u206, u207, u208, u209, u210, u211, u212, u213, u214, u215, u216, u217, u218, u219, u220, u221, u222, u223, u224, u225, u226, u227, u228, u229, u230, u231, u232, u233, u234, u235, u236, u237, u238, u239, u240, u241, u242, u243, u244, u245, u246, u247, u248, u249, u250, u251, u252, u253, u254, u255, u256, u257, u258, u259, u260, u261, u262, u263, u264, u265, u266, u267, u268, u269, u270, u271, u272, u273, u274, u275, u276, u277, u278, u279, u280, u281, u282, u283, u284, u285, u286, u287, u288, u289, u290, u291, u292, u293, u294, u295, u296, u297, u298, u299, u300, u301, u302, u303, u304, u305, u306, u307, u308, u309, u310, u311, u312, u313, u314, u315, u316, u317, u318, u319, u320, u321, u322, u323, u324, u325, u326, u327, u328, u329, u330, u331, u332, u333, u334, u335, u336, u337, u338, u339, u340, u341, u342, u343, u344, u345, u346, u347, u348, u349, u350, u351, u352, u353, u354, u355, u356, u357, u358, u359, u360, u361, u362, u363, u364, u365, u366, u367, u368, u369, u370, u371, u372, u373, u374, u375, u376, u377, u378, u379, u380, u381, u382, u383, u384, u385, u386, u387, u388, u389, u390, u391, u392, u393, u394, u395, u396, u397, u398, u399, u400, u401, u402, u403, u404, u405, u406, u407, u408, u409, u410, u411, u412, u413, u414, u415, u416, u417, u418, u419, u420, u421, u422, u423, u424, u425, u426, u427, u428, u429, u430, u431, u432, u433, u434, u435, u436, u437, u438, u439, u440, u441, u442, u443, u444, u445, u446, u447, u448, u449, u450, u451, u452, u453, u454, u455, u456, u457, u458, u459, u460, u461, u462, u463, u464, u465, u466, u467, u468, u469, u470, u471, u472, u473, u474, u475, u476, u477, u478, u479, u480, u481, u482, u483, u484, u485, u486, u487, u488, u489, u490, u491, u492, u493, u494, u495, u496, u497, u498, u499, u500, u501, u502, u503, u504, u505, u506, u507, u508, u509, u510, u511, u512, u513, u514, u515, u516, u517, u518, u519, u520, u521, u522, u523, u524, u525, u526, u527, u528, u529, u530, u531, u532, u533, u534, u535, u536, u537, u538, u539, u540, u541, u542, u543, u544, u545, u546, u547, u548, u549, u550, u551, u552, u553, u554, u555, u556, u557, u558, u559, u560, u561, u562, u563, u564, u565, u566, u567, u568, u569, u570, u571, u572, u573, u574, u575, u576, u577, u578, u579, u580, u581, u582, u583, u584, u585, u586, u587, u588, u589, u590, u591, u592, u593, u594, u595, u596, u597, u598, u599, u600, u601, u602, u603, u604, u605, u606, u607, u608, u609, u610, u611, u612, u613, u614, u615, u616, u617, u618, u619, u620, u621, u622, u623, u624, u625, u626, u627, u628, u629, u630, u631, u632, u633, u634, u635, u636, u637, u638, u639, u640, u641, u642, u643, u644, u645, u646, u647, u648, u649, u650, u651, u652, u653, u654, u655, u656, u657], []⟩ w := by
  obtain ⟨w2, hw2⟩ : ∃ w2, w2 = w.alloc (.cells #[.slice ae ends.length ce, .slice ai items.length ci, .slice ar reads.length cr, .bool b0, .bool b1, .bool b2, .bool b3, .slice ad des.length cd] 28) := ⟨_, rfl⟩
  have h1 : w2.heap[w.heap.size]? = some (.cells #[.slice ae ends.length ce, .slice ai items.length ci, .slice ar reads.length cr, .bool b0, .bool b1, .bool b2, .bool b3, .slice ad des.length cd] 28 (0, 0)) := by rw [hw2]; exact heap_alloc_new w _
  have b12 : Below w.heap.size w w2 := by rw [hw2]; exact (Below.refl _ _).alloc (Nat.le_refl _) _
  have hZ2 := hZ.below b12
  have hS2 := hS.below b12
  have HZ : Hid _ := hZ2
  have HS : Hid _ := hS2
  have HW : Hid _ := h1
  have HB : Hid _ := b12
  have HR : Hid _ := hr
  have HWK : Hid _ := And.intro wk (And.intro tw rg)
  have HSL : Hid (flatS S ≠ [] → ∀ x, sa = some x → x.block < w.heap.size) := fun hne => Sl.block hS hne
  have HEQ : Hid _ := hw2
  clear hw2 h1 b12 hZ2 hZ hr wk tw rg hS hS2
  rw [tl3_0]
  refine wp_seq_k (fun K hK => ?_)
  conv => arg 2; whnf
  go_wp2_with fail
  rw [← HEQ.out]
  clear HEQ
  have k0 : w2.cell? ⟨w.heap.size, 0, none⟩ = some (.slice ae ends.length ce) := cell_blk HW.out rfl
  have k1 : w2.cell? ⟨w.heap.size, 1, none⟩ = some (.slice ai items.length ci) := cell_blk HW.out rfl
  have k2 : w2.cell? ⟨w.heap.size, 2, none⟩ = some (.slice ar reads.length cr) := cell_blk HW.out rfl
  have k3 : w2.cell? ⟨w.heap.size, 3, none⟩ = some (.bool b0) := cell_blk HW.out rfl
  have k4 : w2.cell? ⟨w.heap.size, 4, none⟩ = some (.bool b1) := cell_blk HW.out rfl
  have k5 : w2.cell? ⟨w.heap.size, 5, none⟩ = some (.bool b2) := cell_blk HW.out rfl
  have k6 : w2.cell? ⟨w.heap.size, 6, none⟩ = some (.bool b3) := cell_blk HW.out rfl
  have k7 : w2.cell? ⟨w.heap.size, 7, none⟩ = some (.slice ad des.length cd) := cell_blk HW.out rfl
  rw [tl3_1]
  refine wp_seq_k (fun K hK => ?_)
  conv => arg 2; whnf
  go_wp2_with fail
  refine Calls.mono (bytes5 ae ce ai ci ar cr b0 b1 b2 b3 ad cd ends items reads des sa sc S probe w2 (ZV.d HZ.out) HS.out) ?_
  rintro e w3 ⟨b, rfl, hb3⟩
  have HB3 : Hid _ := hb3
  have k0 := cell_later hb3 k0
  have k1 := cell_later hb3 k1
  have k2 := cell_later hb3 k2
  have k3 := cell_later hb3 k3
  have k4 := cell_later hb3 k4
  have k5 := cell_later hb3 k5
  have k6 := cell_later hb3 k6
  have k7 := cell_later hb3 k7
  clear hb3
  cases b with
  | false =>
    go_wp2_with fail
    unfold QT
    go_ret
    exact ⟨rfl, HB.out.trans (HB3.out.mono HB.out.size)⟩
  | true =>
    go_wp2_with fail
    rw [tl3_2]
    refine wp_seq_k (fun K hK => ?_)
    conv => arg 2; whnf
    go_wp2_with fail
    refine Calls.mono (scriptDomain_any ae ce ai ci ar cr b0 b1 b2 b3 ad cd ends items reads des sa sc S w3 (ZV.below HZ.out HB3.out) (Sl.below HS.out HB3.out) HR.out HWK.out.2.2) ?_
    rintro e w4 ⟨b, rfl, hb4, hdom⟩
    have HB4 : Hid _ := HB3.out.trans (hb4.mono HB3.out.size)
    have HDOM : Hid _ := hdom
    clear hdom hb4 k0 k1 k2 k3 k4 k5 k6 k7
    cases b with
    | false =>
      go_wp2_with fail
      unfold QT
      go_ret
      exact ⟨rfl, HB.out.trans (HB4.out.mono HB.out.size)⟩
    | true =>
      go_wp2_with fail
      have hd := HDOM.out (by trivial)
      have b4 := HB4.out
      have g := grown_of_below b4
      exact sx3 _ _ _ _ _ _ _ _ _ _ _ _ _ _ _ _ _ _ _ _ _ _ _ _ _ _ _ _ _ _ _ _ _ _ _ _ _ _ _ _ _ _ _ _ _ _ _ _ _ _ _ _ _ _ _ _ _ _ _ _ _ _ _ _ _ _ _ _ _ _ _ _ _ _ _ _ _ _ _ _ _ _ _ _ _ _ _ _ _ _ _ _ _ _ _ _ _ _ _ _ _ _ _ _ _ _ _ _ _ _ _ _ _ _ _ _ _ _ _ _ _ _ _ _ _ _ _ _ _ _ _ _ _ _ _ _ _ _ _ _ _ _ _ _ _ _ _ _ _ _ _ _ _ _ _ _ _ _ _ _ _ _ _ _ _ _ _ _ _ _ _ _ _ _ _ _ _ _ _ _ _ _ _ _ _ _ _ _ _ _ _ _ _ _ _ _ _ _ _ _ _ _ _ _ _ _ _ _ _ _ _ _ _ _ _ _ _ _ _ _ _ _ _ _ _ _ _ _ _ _ _ _ _ _ _ _ _ _ _ _ _ _ _ _ _ _ _ _ _ _ _ _ _ _ _ _ _ _ _ _ _ _ _ _ _ _ _ _ _ _ _ _ _ _ _ _ _ _ _ _ _ _ _ _ _ _ _ _ _ _ _ _ _ _ _ _ _ _ _ _ _ _ _ _ _ _ _ _ _ _ _ _ _ _ _ _ _ _ _ _ _ _ _ _ _ _ _ _ _ _ _ _ _ _ _ _ _ _ _ _ _ _ _ _ _ _ _ _ _ _ _ _ _ _ _ _ _ _ _ _ _ _ _ _ _ _ _ _ _ _ _ _ _ _ _ _ _ _ _ _ _ _ _ _ _ _ _ _ _ _ _ _ _ _ _ _ _ _ _ _ _ _ _ _ _ _ _ _ _ _ _ _ _ _ _ _ _ _ _ _ _ _ _ _ _ _ _ _ _ _ _ _ _ _ _ _ _ _ _ _ _ _ _ _ _ _ _ _ _ _ _ _ _ _ _ _ _ _ _ _ _ _ _ _ _ _ _ _ _ _ _ _ _ _ _ _ _ _ _ _ _ _ _ _ _ _ _ _ _ _ _ _ _ _ _ _ _ _ _ _ _ _ _ _ _ _ _ _ _ _ _ _ _ _ _ _ _ _ _ _ _ _ _ _ _ _ _ _ _ _ _ _ _ _ _ _ _ _ _ _ _ _ _ _ _ _ _ _ _ _ _ _ _ _ _ _ _ _ _ _ _ _ _ _ _ _ _ _ _ _ _ _ _ _ _ _ _ _ _ _ _ _ _ _ _ _ _ _ _ _ _ _ _ _ _ _ _ _ _ _ _ _ _ _ _ _ _ _ _ _ _ _ _ _ _ _ _ _ _ _ _ _ _ _ _ _ _ _ _ _ _ _ _ _ _ _ _ _ _ _ _ _ _ _ _ _ _ _ _ _ _ _ _ _ _ _ _ _ _ _ _ _ _ _ _ _ _ _ _ _ _ _ _ _ _ _ (blk_kept g HW.out (by simp)) (ZV.below HZ.out b4) (Sl.below HS.out b4) HSL.out hd HWK.out.1 pw HWK.out.2.1 HWK.out.2.2 (HB.out.trans (b4.mono HB.out.size)) (Nat.le_trans HB.out.size b4.size) (Nat.le_refl _)

set_option maxRecDepth 100000 in
set_option maxHeartbeats 2000000 in
theorem script_any (ae : Option Addr) (ce : Nat) (ai : Option Addr) (ci : Nat) (ar : Option Addr) (cr : Nat) (b0 b1 b2 b3 : Bool) (ad : Option Addr) (cd : Nat) (ends : List Int) (items reads : List (Int × Int)) (des : List DEnt) (sa : Option Addr) (sc : Nat) (S : List Step) (probe : Int) (w : World)
    (hZ : ZV w ae ai ar ad ends items reads des) (hS : Sl w sa (flatS S)) (hr : ∀ i, i < items.length → I32 (items.getD i (0, 0)).1 ∧ I32 (items.getD i (0, 0)).2) (wk : ∀ x ∈ des, (Lit.int .i32 x.key).wf = true) (pw : (Lit.int .i32 probe).wf = true) (tw : ∀ i, i < S.length → (Lit.int .i32 (S.getD i e0).t).wf = true) (rg : ∀ i, i < S.length → I32 (S.getD i e0).item ∧ I32 (S.getD i e0).src) :
    Calls Try.prog 3 #[zst ae ends.length ce ai items.length ci ar reads.length cr b0 b1 b2 b3 ad des.length cd, .slice sa S.length sc, .int .i32 probe] w fun e w' => e = .returned (.bool true) ∧ Below w.heap.size w w' := by
  go_enter Try.func3, Try.ntmps3
  exact sx0 _ _ _ _ _ _ _ _ _ _ _ _ _ _ _ _ _ _ _ _ _ _ _ _ _ _ _ _ _ _ _ _ _ _ _ _ _ _ _ _ _ _ _ _ _ _ _ _ _ _ _ _ _ _ _ _ _ _ _ _ _ _ _ _ _ _ _ _ _ _ _ _ _ _ _ _ _ _ _ _ _ _ _ _ _ _ _ _ _ _ _ _ _ _ _ _ _ _ _ _ _ _ _ _ _ _ _ _ _ _ _ _ _ _ _ _ _ _ _ _ _ _ _ _ _ _ _ _ _ _ _ _ _ _ _ _ _ _ _ _ _ _ _ _ _ _ _ _ _ _ _ _ _ _ _ _ _ _ _ _ _ _ _ _ _ _ _ _ _ _ _ _ _ _ _ _ _ _ _ _ _ _ _ _ _ _ _ _ _ _ _ _ _ _ _ _ _ _ _ _ _ _ _ _ _ _ _ _ _ _ _ _ _ _ _ _ _ _ _ _ _ _ _ _ _ _ _ _ _ _ _ _ _ _ _ _ _ _ _ _ _ _ _ _ _ _ _ _ _ _ _ _ _ _ _ _ _ _ _ _ _ _ _ _ _ _ _ _ _ _ _ _ _ _ _ _ _ _ _ _ _ _ _ _ _ _ _ _ _ _ _ _ _ _ _ _ _ _ _ _ _ _ _ _ _ _ _ _ _ _ _ _ _ _ _ _ _ _ _ _ _ _ _ _ _ _ _ _ _ _ _ _ _ _ _ _ _ _ _ _ _ _ _ _ _ _ _ _ _ _ _ _ _ _ _ _ _ _ _ _ _ _ _ _ _ _ _ _ _ _ _ _ _ _ _ _ _ _ _ _ _ _ _ _ _ _ _ _ _ _ _ _ _ _ _ _ _ _ _ _ _ _ _ _ _ _ _ _ _ _ _ _ _ _ _ _ _ _ _ _ _ _ _ _ _ _ _ _ _ _ _ _ _ _ _ _ _ _ _ _ _ _ _ _ _ _ _ _ _ _ _ _ _ _ _ _ _ _ _ _ _ _ _ _ _ _ _ _ _ _ _ _ _ _ _ _ _ _ _ _ _ _ _ _ _ _ _ _ _ _ _ _ _ _ _ _ _ _ _ _ _ _ _ _ _ _ _ _ _ _ _ _ _ _ _ _ _ _ _ _ _ _ _ _ _ _ _ _ _ _ _ _ _ _ _ _ _ _ _ _ _ _ _ _ _ _ _ _ _ _ _ _ _ _ _ _ _ _ _ _ _ _ _ _ _ _ _ _ _ _ _ _ _ _ _ _ _ _ _ _ _ _ _ _ _ _ _ _ _ _ _ _ _ _ _ _ _ _ _ _ _ _ _ _ _ _ _ _ _ _ _ _ _ _ _ _ _ _ _ _ _ _ _ _ _ _ _ _ _ _ _ _ _ _ _ _ _ _ _ _ _ _ _ _ _ _ _ _ _ _ _ _ _ _ _ _ _ _ _ _ _ _ _ _ _ _ _ _ _ _ _ _ _ _ _ hZ hS hr wk pw tw rg

end Go.Proofs.Qxb6625890a
