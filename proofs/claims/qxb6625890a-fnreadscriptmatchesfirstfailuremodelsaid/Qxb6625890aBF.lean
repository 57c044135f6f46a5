/-
  Seat b6625890a: the law FnReadScriptMatchesFirstFailureModel, the items. Frames written by program.
-/
import Derived.Test.Qxb6625890aBE
namespace Go.Proofs.Qxb6625890a
open Go.RowKit Go.Maps
set_option linter.unusedVariables false

theorem Env.item {w0 w : World} {B : Nat} {p : SP} (h : Env w0 B w p) (k : Nat) (hk : k < (p.I p.S.length).length) : Calls Try.prog 16 #[.pointer (some ⟨p.cb, 0, none⟩), .int .i64 k] w fun e w' => e = .returned (.tuple #[.int .i32 ((p.I p.S.length).getD k (0, 0)).1, .int .i32 ((p.I p.S.length).getD k (0, 0)).2]) ∧ Below w.heap.size w w' := by
  obtain ⟨F, tb, db, mi, N, vi, vr, vt, f, hV⟩ := h.cls
  exact item_any hV k hk (by have := hV.li; omega)
theorem Env.itemsLen {w0 w : World} {B : Nat} {p : SP} (h : Env w0 B w p) : Calls Try.prog 15 #[.pointer (some ⟨p.cb, 0, none⟩)] w fun e w' => e = .returned (.int .i64 (p.I p.S.length).length) ∧ w' = w := by
  obtain ⟨F, tb, db, mi, N, vi, vr, vt, f, hV⟩ := h.cls
  exact itemsLen_any hV
theorem Env.readAt {w0 w : World} {B : Nat} {p : SP} (h : Env w0 B w p) (k : Nat) (hk : k < (p.R p.S.length).length) : Calls Try.prog 14 #[.pointer (some ⟨p.cb, 0, none⟩), .int .i64 k] w fun e w' => e = .returned (.tuple #[.int .i32 ((p.R p.S.length).getD k (0, 0)).1, .int .i32 ((p.R p.S.length).getD k (0, 0)).2]) ∧ Below w.heap.size w w' := by
  obtain ⟨F, tb, db, mi, N, vi, vr, vt, f, hV⟩ := h.cls
  exact readAt_any hV k hk (by have := hV.lr; omega)
theorem Env.readsLen {w0 w : World} {B : Nat} {p : SP} (h : Env w0 B w p) : Calls Try.prog 13 #[.pointer (some ⟨p.cb, 0, none⟩)] w fun e w' => e = .returned (.int .i64 (p.R p.S.length).length) ∧ w' = w := by
  obtain ⟨F, tb, db, mi, N, vi, vr, vt, f, hV⟩ := h.cls
  exact readsLen_any hV
theorem SP.G_end {p : SP} (h : Plain p) {j : Nat} (hj : j < (p.I p.S.length).length) : (p.I p.S.length).getD j (0, 0) = p.G p.lim j := by
  have := (stab (lim := p.lim) (R0 := p.R0) h.dom.ok p.S.length SP.lim_le (Nat.le_refl _)).2 j
  rw [getD_any hj (0, 0) (-1, -1)]
  exact this
theorem SP.G_one {p : SP} (h : Plain p) {j : Nat} (hj : j < (p.I p.S.length).length) : ((p.I p.S.length).getD j (0, 0)).1 = (p.I0.getD j (-1, -1)).1 := by
  rw [getD_any hj (0, 0) (-1, -1)]
  exact G_fst (lim := p.lim) (R0 := p.R0) h.dom.ok p.S.length (Nat.le_refl _) j
theorem SP.G_succ {p : SP} (h : Plain p) {i : Nat} (hi : i < p.S.length) (k : Nat) : p.G (i + 1) k = if i < p.lim ∧ p.fr i = true ∧ k = (p.S.getD i e0).item.toNat then ((p.G i k).1, ((p.R i).length : Int)) else p.G i k := Qxb6625890a.G_succ h.dom.ok hi k
theorem row_val {w : World} {base : Nat} {e : TypeId} {g m cp k : Nat} {xs : List Value} {v : Value} (h : w.ownsRow base e 1 (.slice (some ⟨g, 0, none⟩) m cp) m xs) (hv : xs[k]? = some v) (hk : k < m) : w.cell? ⟨g, k, none⟩ = some v := by
  rw [h.cellAt k (by omega)]; exact hv
theorem set_all {xs : List Value} {k C : Nat} {v : Value} {g g' : Nat → Value} (hk : k < xs.length) (h : ∀ j, j < C → xs[j]? = some (g j)) (hv : v = g' k) (ho : ∀ j, j ≠ k → g' j = g j) : ∀ j, j < C → (xs.set k v)[j]? = some (g' j) := by
  intro j hj
  rw [List.getElem?_set]
  by_cases e : k = j
  · subst e; rw [if_pos rfl, if_pos hk, hv]
  · rw [if_neg e, ho j (Ne.symm e)]; exact h j hj
theorem tl3_25 : tl Try.f3 25 = Code.seq (st Try.f3 25) (tl Try.f3 26) := by kernel_rfl
theorem tl3_26 : tl Try.f3 26 = Code.seq (st Try.f3 26) (tl Try.f3 27) := by kernel_rfl
theorem tl3_27 : tl Try.f3 27 = Code.seq (st Try.f3 27) (tl Try.f3 28) := by kernel_rfl
theorem tl3_28 : tl Try.f3 28 = Code.seq (st Try.f3 28) (tl Try.f3 29) := by kernel_rfl
theorem tl3_29 : tl Try.f3 29 = Code.seq (st Try.f3 29) (tl Try.f3 30) := by kernel_rfl
theorem tl3_30 : tl Try.f3 30 = Code.seq (st Try.f3 30) (tl Try.f3 31) := by kernel_rfl
theorem tl3_31 : tl Try.f3 31 = Code.seq (st Try.f3 31) (tl Try.f3 32) := by kernel_rfl
theorem tl3_32 : tl Try.f3 32 = Code.seq (st Try.f3 32) (tl Try.f3 33) := by kernel_rfl
theorem tl3_33 : tl Try.f3 33 = Code.seq (st Try.f3 33) (tl Try.f3 34) := by kernel_rfl

set_option maxRecDepth 100000 in
set_option maxHeartbeats 2000000 in
theorem sx33 {w w0 : World} {B : Nat} (p : SP) (gd gw gl C : Nat) (u0 u4 u5 u6 u9 u10 u11 u12 u13 u15 u16 u17 u18 u19 u20 u21 u22 u23 u24 u25 u26 u27 u28 u29 u30 u31 u32 u33 u34 u35 u36 u37 u38 u39 u40 u42 u45 u46 u47 u48 u49 u50 u51 u52 u53 u54 u55 u56 u57 u58 u59 u60 u61 u62 u63 u64 u65 u66 u67 u68 u69 u70 u71 u72 u73 u74 u75 u76 u77 u78 u79 u80 u81 u82 u83 u84 u85 u86 u87 u88 u89 u90 u91 u92 u93 u94 u95 u96 u97 u98 u99 u100 u101 u102 u103 u104 u105 u106 u107 u108 u109 u110 u111 u112 u113 u114 u115 u116 u117 u118 u119 u120 u121 u122 u123 u124 u125 u126 u127 u128 u129 u130 u131 u132 u133 u134 u135 u136 u137 u138 u139 u140 u141 u142 u143 u144 u145 u146 u147 u148 u149 u150 u151 u152 u153 u154 u155 u156 u157 u158 u159 u160 u161 u162 u163 u164 u165 u166 u167 u168 u169 u170 u171 u172 u173 u174 u175 u176 u177 u178 u179 u180 u181 u182 u183 u184 u185 u186 u187 u188 u189 u190 u191 u192 u193 u194 u195 u196 u197 u198 u199 u200 u201 u202 u203 u204 u205 u206 u207 u208 u209 u210 u211 u212 u213 u214 u215 u216 u217 u218 u219 u220 u221 u222 u223 u224 u225 u226 u227 u228 u229 u230 u231 u232 u233 u234 u235 u236 u237 u238 u239 u240 u241 u242 u243 u244 u245 u246 u247 u248 u249 u250 u251 u252 u253 u254 u255 u256 u257 u258 u259 u260 u261 u262 u263 u264 u265 u266 u267 u268 u269 u270 u271 u272 u273 u274 u275 u276 u277 u278 u279 u280 u281 u282 u283 u284 u285 u286 u287 u288 u289 u290 u291 u292 u293 u294 u295 u296 u297 u298 u299 u300 u301 u302 u303 u304 u305 u306 u307 u308 u309 u310 u311 u312 u313 u314 u315 u316 u317 u318 u319 u320 u321 u322 u323 u324 u325 u326 u327 u328 u329 u330 u331 u332 u333 u334 u335 u336 u337 u338 u339 u340 u341 u342 u343 u344 u345 u346 u347 u348 u349 u350 u351 u352 u353 u354 u355 u356 u357 u358 u359 u360 u361 u362 u363 u364 u365 u366 u367 u368 u369 u370 u371 u372 u373 u374 u375 u376 u377 u378 u379 u380 u381 u382 u383 u384 u385 u386 u387 u388 u389 u390 u391 u392 u393 u394 u395 u396 u397 u398 u399 u400 u401 u402 u403 u404 u405 u406 u407 u408 u409 u410 u411 u412 u413 u414 u415 u416 u417 u418 u419 u420 u421 u422 u423 u424 u425 u426 u427 u428 u429 u430 u431 u432 u433 u434 u435 u436 u437 u438 u439 u440 u441 u442 u443 u444 u445 u446 u447 u448 u449 u450 u451 u452 u453 u454 u455 u456 u457 u458 u459 u460 u461 u462 u463 u464 u465 u466 u467 u468 u469 u470 u471 u472 u473 u474 u475 u476 u477 u478 u479 u480 u481 u482 u483 u484 u485 u486 u487 u488 u489 u490 u491 u492 u493 u494 u495 u496 u497 u498 u499 u500 u501 u502 u503 u504 u505 u506 u507 u508 u509 u510 u511 u512 u513 u514 u515 u516 u517 u518 u519 u520 u521 u522 u523 u524 u525 u526 u527 u528 u529 u530 u531 u532 u533 u534 u535 u536 u537 u538 u539 u540 u541 u542 u543 u544 u545 u546 u547 u548 u549 u550 u551 u552 u553 u554 u555 u556 u557 u558 u559 u560 u561 u562 u563 u564 u565 u566 u567 u568 u569 u570 u571 u572 u573 u574 u575 u576 u577 u578 u579 u580 u581 u582 u583 u584 u585 u586 u587 u588 u589 u590 u591 u592 u593 u594 u595 u596 u597 u598 u599 u600 u601 u602 u603 u604 u605 u606 u607 u608 u609 u610 u611 u612 u613 u614 u615 u616 u617 u618 u619 u620 u621 u622 u623 u624 u625 u626 u627 u628 u629 u630 u631 u632 u633 u634 u635 u636 u637 u638 u639 u640 u641 u642 u643 u644 u645 u646 u647 u648 u649 u650 u651 u652 u653 u654 u655 u656 u657 : Value)
    (h : Env w0 B w p) (hd : ∀ j, j < p.S.length → w.cell? ⟨gd, j, none⟩ = some (.bool (p.dr j))) (hC : C = (p.I p.S.length).length) (hw : ∀ k, k < C → w.cell? ⟨gw, k, none⟩ = some (.int .i32 ((p.I p.S.length).getD k (0, 0)).1)) (hl : ∀ k, k < C → w.cell? ⟨gl, k, none⟩ = some (.int .i32 ((p.I p.S.length).getD k (0, 0)).2)) (hCl : C ≤ 1049088) :
    Code.wp Try.prog (tl Try.f3 33) (QT Try.f3 B w0) ⟨#[u0, .slice p.sa p.S.length p.sc, .int .i32 p.probe, .pointer (some ⟨p.bst, 0, none⟩), u4, u5, u6, .int .i64 p.S.length, .pointer (some ⟨p.cb, 0, none⟩), u9, u10, u11, u12, u13, .slice (some ⟨gd, 0, none⟩) p.S.length p.S.length, u15, u16, u17, u18, u19, u20, u21, u22, u23, u24, u25, u26, u27, u28, u29, u30, u31, u32, u33, u34, u35, u36, u37, u38, u39, u40, .int .i64 C, u42, .slice (some ⟨gw, 0, none⟩) C C, .slice (some ⟨gl, 0, none⟩) C C, u45, u46, u47, u48, u49, u50, u51, u52, u53, u54, u55, u56, u57, u58, u59, u60, u61, u62, u63, u64, u65, u66, u67, u68, u69, u70, u71, u72, u73, u74, u75, u76, u77, u78, u79, u80, u81, u82, u83, u84, u85, u86, u87, u88, u89, u90, u91, u92, u93, u94, u95, u96, u97, u98, u99, u100, u101, u102, u103, u104, u105, u106, u107, u108, u109, u110, u111, u112, u113, u114, u115, u116, u117, u118, u119, u120, u121, u122, u123, u124, u125, u126, u127, u128, u129, u130, u131, u132, u133, u134, u135, u136, u137, u138, u139, u140, u141, u142, u143, u144, u145, u146, u147, u148, u149, u150, u151, u152, u153, u154, u155, u156, u157, u158, u159, u160, u161, u162, u163, u164, u165, u166, u167, u168, u169, u170, u171, u172, u173, u174, u175, u176, u177, u178, u179, u180, u181, u182, u183, u184, u185, u186, u187, u188, u189, u190, u191, u192, u193, u194, u195, u196, u197, u198, u199, u200, u201, u202, u203, u204, u205, u206, u207, u208, u209, u210, u211, u212, u213, u214, u215, u216, u217, u218, u219, u220, u221, u222, u223, u224, u225, u226, u227, u228, u229, u230, u231, u232, u233, u234, u235, u236, u237, u238, u239, u240, u241, u242, u243, u244, u245, u246, u247, u248, u249, u250, u251, u252, u253, u254, u255, u256, u257, u258, u259, u260, u261, u262, u263, u264, u265, u266, u267, u268, u269, u270, u271, u272, u273, u274, u275, u276, u277, u278, u279, u280, u281, u282, u283, u284, u285, u286, u287, u288, u289, u290, u291, u292, u293, u294, u295, u296, u297, u298, u299, u300, u301, u302, u303, u304, u305, u306, u307, u308, u309, u310, u311, u312, u313, u314, u315, u316, u317, u318, u319, u320, u321, u322, u323, u324, u325, u326, u327, u328, u329, u330, u331, u332, u333, u334, u335, u336, u337, u338, u339, u340, u341, u342, u343, u344, u345, u346, u347, u348, u349, u350, u351, u352, u353, u354, u355, u356, u357, u358, u359, u360, u361, u362, u363, u364, u365, u366, u367, u368, u369, u370, u371, u372, u373, u374, u375, u376, u377, u378, u379, u380, u381, u382, u383, u384, u385, u386, u387, u388, u389, u390, u391, u392, u393, u394, u395, u396, u397, u398, u399, u400, u401, u402, u403, u404, u405, u406, u407, u408, u409, u410, u411, u412, u413, u414, u415, u416, u417, u418, u419, u420, u421, u422, u423, u424, u425, u426, u427, u428, u429, u430, u431, u432, u433, u434, u435, u436, u437, u438, u439, u440, u441, u442, u443, u444, u445, u446, u447, u448, u449, u450, u451, u452, u453, u454, u455, u456, u457, u458, u459, u460, u461, u462, u463, u464, u465, u466, u467, u468, u469, u470, u471, u472, u473, u474, u475, u476, u477, u478, u479, u480, u481, u482, u483, u484, u485, u486, u487, u488, u489, u490, u491, u492, u493, u494, u495, u496, u497, u498, u499, u500, u501, u502, u503, u504, u505, u506, u507, u508, u509, u510, u511, u512, u513, u514, u515, u516, u517, u518, u519, u520, u521, u522, u523, u524, u525, u526, u527, u528, u529, u530, u531, u532, u533, u534, u535, u536, u537, u538, u539, u540, u541, u542, u543, u544, u545, u546, u547, u548, u549, u550, u551, u552, u553, u554, u555, u556, u557, u558, u559, u560, u561, u562, u563, u564, u565, u566, u567, u568, u569, u570, u571, u572, u573, u574, u575, u576, u577, u578, u579, u580, u581, u582, u583, u584, u585, u586, u587, u588, u589, u590, u591, u592, u593, u594, u595, u596, u597, u598, u599, u600, u601, u602, u603, u604, u605, u606, u607, u608, u609, u610, u611, u612, u613, u614, u615, u616, u617, u618, u619, u620, u621, u622, u623, u624, u625, u626, u627, u628, u629, u630, u631, u632, u633, u634, u635, u636, u637, u638, u639, u640, u641, u642, u643, u644, u645, u646, u647, u648, u649, u650, u651, u652, u653, u654, u655, u656, u657], []⟩ w := by
  have HE : Hid _ := h
  have HD : Hid _ := hd
  have HW : Hid _ := And.intro hw hl
  have HC0 : Hid _ := hC
  clear h hd hw hl hC
  rw [tl3_33]
  refine wp_seq_k (fun K hK => ?_)
  conv => arg 2; whnf
  go_wp2_with fail
  go_loopw [48] (fun i wr => ∃ k : Nat, k ≤ C ∧ i = .int .i64 k ∧ Below w.heap.size w wr) (fun i _ => C - (intOf i).toNat)
  case atStart => exact ⟨0, by omega, rfl, Below.refl _ _⟩
  case round =>
    obtain ⟨k, hk, rfl, hbr⟩ := hrel
    have HBR : Hid _ := hbr
    by_cases hlt : k < C
    · have hlt' : (k : Int) < (C : Int) := by omega
      have hlt0 : (0 : Int) ≤ (k : Int) := by omega
      have hc := (HE.out.grown hbr).item k (by rw [← HC0.out]; exact hlt)
      have c1 := cell_later hbr (HW.out.1 k hlt)
      have c2 := cell_later hbr (HW.out.2 k hlt)
      have HC : Hid _ := hc
      clear HE HD HW HC0 hc hbr
      generalize (p.I p.S.length).getD k (0, 0) = q at *
      obtain ⟨q1, q2⟩ := q
      go_wp2_with fail
      refine Calls.mono HC.out ?_
      rintro e w2 ⟨rfl, hb2⟩
      have c1 := cell_later hb2 c1
      have c2 := cell_later hb2 c2
      have HB2 : Hid _ := HBR.out.trans (hb2.mono HBR.out.size)
      clear HC hb2
      go_wp2_with fail
      go_roundw
      case rel => exact ⟨k + 1, by omega, by go_num, HB2.out⟩
      case measure => simp [intOf]; omega
    · obtain rfl : k = C := by omega
      clear hbr
      go_wp2_with fail
      exact sx34 p _ _ _ _ _ _ _ _ _ _ _ _ _ _ _ _ _ _ _ _ _ _ _ _ _ _ _ _ _ _ _ _ _ _ _ _ _ _ _ _ _ _ _ _ _ _ _ _ _ _ _ _ _ _ _ _ _ _ _ _ _ _ _ _ _ _ _ _ _ _ _ _ _ _ _ _ _ _ _ _ _ _ _ _ _ _ _ _ _ _ _ _ _ _ _ _ _ _ _ _ _ _ _ _ _ _ _ _ _ _ _ _ _ _ _ _ _ _ _ _ _ _ _ _ _ _ _ _ _ _ _ _ _ _ _ _ _ _ _ _ _ _ _ _ _ _ _ _ _ _ _ _ _ _ _ _ _ _ _ _ _ _ _ _ _ _ _ _ _ _ _ _ _ _ _ _ _ _ _ _ _ _ _ _ _ _ _ _ _ _ _ _ _ _ _ _ _ _ _ _ _ _ _ _ _ _ _ _ _ _ _ _ _ _ _ _ _ _ _ _ _ _ _ _ _ _ _ _ _ _ _ _ _ _ _ _ _ _ _ _ _ _ _ _ _ _ _ _ _ _ _ _ _ _ _ _ _ _ _ _ _ _ _ _ _ _ _ _ _ _ _ _ _ _ _ _ _ _ _ _ _ _ _ _ _ _ _ _ _ _ _ _ _ _ _ _ _ _ _ _ _ _ _ _ _ _ _ _ _ _ _ _ _ _ _ _ _ _ _ _ _ _ _ _ _ _ _ _ _ _ _ _ _ _ _ _ _ _ _ _ _ _ _ _ _ _ _ _ _ _ _ _ _ _ _ _ _ _ _ _ _ _ _ _ _ _ _ _ _ _ _ _ _ _ _ _ _ _ _ _ _ _ _ _ _ _ _ _ _ _ _ _ _ _ _ _ _ _ _ _ _ _ _ _ _ _ _ _ _ _ _ _ _ _ _ _ _ _ _ _ _ _ _ _ _ _ _ _ _ _ _ _ _ _ _ _ _ _ _ _ _ _ _ _ _ _ _ _ _ _ _ _ _ _ _ _ _ _ _ _ _ _ _ _ _ _ _ _ _ _ _ _ _ _ _ _ _ _ _ _ _ _ _ _ _ _ _ _ _ _ _ _ _ _ _ _ _ _ _ _ _ _ _ _ _ _ _ _ _ _ _ _ _ _ _ _ _ _ _ _ _ _ _ _ _ _ _ _ _ _ _ _ _ _ _ _ _ _ _ _ _ _ _ _ _ _ _ _ _ _ _ _ _ _ _ _ _ _ _ _ _ _ _ _ _ _ _ _ _ _ _ _ _ _ _ _ _ _ _ _ _ _ _ _ _ _ _ _ _ _ _ _ _ _ _ _ _ _ _ _ _ _ _ _ _ _ _ _ _ _ _ _ _ _ _ _ _ _ _ _ _ _ _ _ _ _ _ _ _ _ _ _ _ _ _ _ _ _ _ _ _ _ _ _ _ _ _ _ _ _ _ _ _ (HE.out.grown HBR.out) (fun j hj => cell_later HBR.out (HD.out j hj))

set_option maxRecDepth 100000 in
set_option maxHeartbeats 2000000 in
theorem sx32 {w w0 : World} {B : Nat} (p : SP) (wE : World) (gd gw gl C gk ge : Nat) (xs ys : List Value) (u0 u4 u5 u6 u9 u10 u11 u12 u13 u15 u16 u17 u18 u19 u20 u21 u22 u26 u27 u28 u29 u30 u31 u32 u33 u34 u35 u36 u37 u38 u39 u40 u42 u45 u46 u47 u48 u49 u50 u51 u52 u53 u54 u55 u56 u57 u58 u59 u60 u61 u62 u63 u64 u65 u66 u67 u68 u69 u70 u71 u72 u73 u74 u75 u76 u77 u78 u79 u80 u81 u82 u83 u84 u85 u86 u87 u88 u89 u90 u91 u92 u93 u94 u95 u96 u97 u98 u99 u100 u101 u102 u103 u104 u105 u106 u107 u108 u109 u110 u111 u112 u113 u114 u115 u116 u117 u118 u119 u120 u121 u122 u123 u124 u125 u126 u127 u128 u129 u130 u131 u132 u133 u134 u135 u136 u137 u138 u139 u140 u141 u142 u143 u144 u145 u146 u147 u148 u149 u150 u151 u152 u153 u154 u155 u156 u157 u158 u159 u160 u161 u162 u163 u164 u165 u166 u167 u168 u169 u170 u171 u172 u173 u174 u175 u176 u177 u178 u179 u180 u181 u182 u183 u184 u185 u186 u187 u188 u189 u190 u191 u192 u193 u194 u195 u196 u197 u198 u199 u200 u201 u202 u203 u204 u205 u206 u207 u208 u209 u210 u211 u212 u213 u214 u215 u216 u217 u218 u219 u220 u221 u222 u223 u224 u225 u226 u227 u228 u229 u230 u231 u232 u233 u234 u235 u236 u237 u238 u239 u240 u241 u242 u243 u244 u245 u246 u247 u248 u249 u250 u251 u252 u253 u254 u255 u256 u257 u258 u259 u260 u261 u262 u263 u264 u265 u266 u267 u268 u269 u270 u271 u272 u273 u274 u275 u276 u277 u278 u279 u280 u281 u282 u283 u284 u285 u286 u287 u288 u289 u290 u291 u292 u293 u294 u295 u296 u297 u298 u299 u300 u301 u302 u303 u304 u305 u306 u307 u308 u309 u310 u311 u312 u313 u314 u315 u316 u317 u318 u319 u320 u321 u322 u323 u324 u325 u326 u327 u328 u329 u330 u331 u332 u333 u334 u335 u336 u337 u338 u339 u340 u341 u342 u343 u344 u345 u346 u347 u348 u349 u350 u351 u352 u353 u354 u355 u356 u357 u358 u359 u360 u361 u362 u363 u364 u365 u366 u367 u368 u369 u370 u371 u372 u373 u374 u375 u376 u377 u378 u379 u380 u381 u382 u383 u384 u385 u386 u387 u388 u389 u390 u391 u392 u393 u394 u395 u396 u397 u398 u399 u400 u401 u402 u403 u404 u405 u406 u407 u408 u409 u410 u411 u412 u413 u414 u415 u416 u417 u418 u419 u420 u421 u422 u423 u424 u425 u426 u427 u428 u429 u430 u431 u432 u433 u434 u435 u436 u437 u438 u439 u440 u441 u442 u443 u444 u445 u446 u447 u448 u449 u450 u451 u452 u453 u454 u455 u456 u457 u458 u459 u460 u461 u462 u463 u464 u465 u466 u467 u468 u469 u470 u471 u472 u473 u474 u475 u476 u477 u478 u479 u480 u481 u482 u483 u484 u485 u486 u487 u488 u489 u490 u491 u492 u493 u494 u495 u496 u497 u498 u499 u500 u501 u502 u503 u504 u505 u506 u507 u508 u509 u510 u511 u512 u513 u514 u515 u516 u517 u518 u519 u520 u521 u522 u523 u524 u525 u526 u527 u528 u529 u530 u531 u532 u533 u534 u535 u536 u537 u538 u539 u540 u541 u542 u543 u544 u545 u546 u547 u548 u549 u550 u551 u552 u553 u554 u555 u556 u557 u558 u559 u560 u561 u562 u563 u564 u565 u566 u567 u568 u569 u570 u571 u572 u573 u574 u575 u576 u577 u578 u579 u580 u581 u582 u583 u584 u585 u586 u587 u588 u589 u590 u591 u592 u593 u594 u595 u596 u597 u598 u599 u600 u601 u602 u603 u604 u605 u606 u607 u608 u609 u610 u611 u612 u613 u614 u615 u616 u617 u618 u619 u620 u621 u622 u623 u624 u625 u626 u627 u628 u629 u630 u631 u632 u633 u634 u635 u636 u637 u638 u639 u640 u641 u642 u643 u644 u645 u646 u647 u648 u649 u650 u651 u652 u653 u654 u655 u656 u657 : Value)
    (h : Env w0 B wE p) (hd : ∀ j, j < p.S.length → wE.cell? ⟨gd, j, none⟩ = some (.bool (p.dr j))) (hkp : ∀ j, j < p.lim → wE.cell? ⟨gk, j, none⟩ = some (.bool (p.fr j))) (hen : ∀ j, j < p.lim → p.fr j = true → wE.cell? ⟨ge, j, none⟩ = some (.int .i32 ((p.R j).length : Nat))) (hC : C = (p.I p.S.length).length) (hCl : C ≤ 1049088) (hbE : Below wE.heap.size wE w) (r1 : w.ownsRow wE.heap.size 21 1 (.slice (some ⟨gw, 0, none⟩) C C) C xs) (r2 : w.ownsRow wE.heap.size 21 1 (.slice (some ⟨gl, 0, none⟩) C C) C ys) (hgg : gw ≠ gl) (hx : ∀ j, j < C → xs[j]? = some (.int .i32 (p.I0.getD j (-1, -1)).1)) (hy : ∀ j, j < C → ys[j]? = some (.int .i32 (p.G 0 j).2)) :
    Code.wp Try.prog (tl Try.f3 32) (QT Try.f3 B w0) ⟨#[u0, .slice p.sa p.S.length p.sc, .int .i32 p.probe, .pointer (some ⟨p.bst, 0, none⟩), u4, u5, u6, .int .i64 p.S.length, .pointer (some ⟨p.cb, 0, none⟩), u9, u10, u11, u12, u13, .slice (some ⟨gd, 0, none⟩) p.S.length p.S.length, u15, u16, u17, u18, u19, u20, u21, u22, .int .i64 p.lim, .slice (some ⟨gk, 0, none⟩) p.S.length p.S.length, .slice (some ⟨ge, 0, none⟩) p.S.length p.S.length, u26, u27, u28, u29, u30, u31, u32, u33, u34, u35, u36, u37, u38, u39, u40, .int .i64 C, u42, .slice (some ⟨gw, 0, none⟩) C C, .slice (some ⟨gl, 0, none⟩) C C, u45, u46, u47, u48, u49, u50, u51, u52, u53, u54, u55, u56, u57, u58, u59, u60, u61, u62, u63, u64, u65, u66, u67, u68, u69, u70, u71, u72, u73, u74, u75, u76, u77, u78, u79, u80, u81, u82, u83, u84, u85, u86, u87, u88, u89, u90, u91, u92, u93, u94, u95, u96, u97, u98, u99, u100, u101, u102, u103, u104, u105, u106, u107, u108, u109, u110, u111, u112, u113, u114, u115, u116, u117, u118, u119, u120, u121, u122, u123, u124, u125, u126, u127, u128, u129, u130, u131, u132, u133, u134, u135, u136, u137, u138, u139, u140, u141, u142, u143, u144, u145, u146, u147, u148, u149, u150, u151, u152, u153, u154, u155, u156, u157, u158, u159, u160, u161, u162, u163, u164, u165, u166, u167, u168, u169, u170, u171, u172, u173, u174, u175, u176, u177, u178, u179, u180, u181, u182, u183, u184, u185, u186, u187, u188, u189, u190, u191, u192, u193, u194, u195, u196, u197, u198, u199, u200, u201, u202, u203, u204, u205, u206, u207, u208, u209, u210, u211, u212, u213, u214, u215, u216, u217, u218, u219, u220, u221, u222, u223, u224, u225, u226, u227, u228, u229, u230, u231, u232, u233, u234, u235, u236, u237, u238, u239, u240, u241, u242, u243, u244, u245, u246, u247, u248, u249, u250, u251, u252, u253, u254, u255, u256, u257, u258, u259, u260, u261, u262, u263, u264, u265, u266, u267, u268, u269, u270, u271, u272, u273, u274, u275, u276, u277, u278, u279, u280, u281, u282, u283, u284, u285, u286, u287, u288, u289, u290, u291, u292, u293, u294, u295, u296, u297, u298, u299, u300, u301, u302, u303, u304, u305, u306, u307, u308, u309, u310, u311, u312, u313, u314, u315, u316, u317, u318, u319, u320, u321, u322, u323, u324, u325, u326, u327, u328, u329, u330, u331, u332, u333, u334, u335, u336, u337, u338, u339, u340, u341, u342, u343, u344, u345, u346, u347, u348, u349, u350, u351, u352, u353, u354, u355, u356, u357, u358, u359, u360, u361, u362, u363, u364, u365, u366, u367, u368, u369, u370, u371, u372, u373, u374, u375, u376, u377, u378, u379, u380, u381, u382, u383, u384, u385, u386, u387, u388, u389, u390, u391, u392, u393, u394, u395, u396, u397, u398, u399, u400, u401, u402, u403, u404, u405, u406, u407, u408, u409, u410, u411, u412, u413, u414, u415, u416, u417, u418, u419, u420, u421, u422, u423, u424, u425, u426, u427, u428, u429, u430, u431, u432, u433, u434, u435, u436, u437, u438, u439, u440, u441, u442, u443, u444, u445, u446, u447, u448, u449, u450, u451, u452, u453, u454, u455, u456, u457, u458, u459, u460, u461, u462, u463, u464, u465, u466, u467, u468, u469, u470, u471, u472, u473, u474, u475, u476, u477, u478, u479, u480, u481, u482, u483, u484, u485, u486, u487, u488, u489, u490, u491, u492, u493, u494, u495, u496, u497, u498, u499, u500, u501, u502, u503, u504, u505, u506, u507, u508, u509, u510, u511, u512, u513, u514, u515, u516, u517, u518, u519, u520, u521, u522, u523, u524, u525, u526, u527, u528, u529, u530, u531, u532, u533, u534, u535, u536, u537, u538, u539, u540, u541, u542, u543, u544, u545, u546, u547, u548, u549, u550, u551, u552, u553, u554, u555, u556, u557, u558, u559, u560, u561, u562, u563, u564, u565, u566, u567, u568, u569, u570, u571, u572, u573, u574, u575, u576, u577, u578, u579, u580, u581, u582, u583, u584, u585, u586, u587, u588, u589, u590, u591, u592, u593, u594, u595, u596, u597, u598, u599, u600, u601, u602, u603, u604, u605, u606, u607, u608, u609, u610, u611, u612, u613, u614, u615, u616, u617, u618, u619, u620, u621, u622, u623, u624, u625, u626, u627, u628, u629, u630, u631, u632, u633, u634, u635, u636, u637, u638, u639, u640, u641, u642, u643, u644, u645, u646, u647, u648, u649, u650, u651, u652, u653, u654, u655, u656, u657], []⟩ w := by
  have HE : Hid _ := h
  have HD : Hid _ := hd
  have HKE : Hid _ := And.intro hkp hen
  have HC0 : Hid _ := hC
  have HBE : Hid _ := hbE
  have HXY : Hid _ := And.intro hx hy
  have HR12 : Hid _ := And.intro r1 r2
  have hlim := SP.lim_le (p := p)
  have hn := h.pl.dom.n
  have gwge := (row_ge r1).1
  have glge := (row_ge r2).1
  clear h hd hkp hen hC hbE hx hy r1 r2
  rw [tl3_32]
  refine wp_seq_k (fun K hK => ?_)
  conv => arg 2; whnf
  go_wp2_with fail
  go_loopw [47] (fun i wr => ∃ (k : Nat) (ys : List Value), k ≤ p.lim ∧ i = .int .i64 k ∧ wr.ownsRow wE.heap.size 21 1 (.slice (some ⟨gw, 0, none⟩) C C) C xs ∧ wr.ownsRow wE.heap.size 21 1 (.slice (some ⟨gl, 0, none⟩) C C) C ys ∧ (∀ j, j < C → ys[j]? = some (.int .i32 (p.G k j).2)) ∧ Below wE.heap.size wE wr) (fun i _ => p.lim - (intOf i).toNat)
  case atStart => exact ⟨0, ys, by omega, rfl, HR12.out.1, HR12.out.2, HXY.out.2, HBE.out⟩
  case round =>
    obtain ⟨k, ys, hk, rfl, r1, r2, hy, hbr⟩ := hrel
    have HBR : Hid _ := hbr
    by_cases hlt : k < p.lim
    · have hlt' : (k : Int) < (p.lim : Int) := by omega
      have hlt0 : (0 : Int) ≤ (k : Int) := by omega
      have hltn : (k : Int) < (p.S.length : Int) := by omega
      have hltn' : k < p.S.length := by omega
      have d1 := cell_later hbr (HKE.out.1 k hlt)
      have hGs := SP.G_succ HE.out.pl (show k < p.S.length by omega)
      cases hfr : p.fr k with
      | false =>
        rw [hfr] at d1
        have hy2 : ∀ j, j < C → ys[j]? = some (.int .i32 (p.G (k + 1) j).2) := fun j hj => by
          rw [hGs j, if_neg (fun hh => by rw [hfr] at hh; cases hh.2.1)]; exact hy j hj
        have HY2 : Hid _ := hy2
        have HRR : Hid _ := And.intro r1 r2
        clear hy2 hGs hy r1 r2 hbr HE HD HKE HC0 HXY HR12 HBE hfr
        go_wp2_with fail
        go_roundw
        case rel => exact ⟨k + 1, ys, by omega, by go_num, HRR.out.1, HRR.out.2, HY2.out, HBR.out⟩
        case measure => simp [intOf]; omega
      | true =>
        rw [hfr] at d1
        have e1 := cell_later hbr (HKE.out.2 k hlt hfr)
        obtain ⟨sb, so, es, _, _, _, _, _, _, a6, _⟩ := step_cell (Sl.below HE.out.base.ss hbr) hltn'
        rw [es]
        have hitl : (p.S.getD k e0).item.toNat < C := by rw [HC0.out, SP.Ilen HE.out.pl]; exact item_lt HE.out.pl.dom.ok hltn'
        obtain ⟨im, him⟩ := toNat_of (HE.out.pl.dom.ok k hltn').1
        have him2 : im = (p.S.getD k e0).item.toNat := by omega
        have hRl := SP.Rlen HE.out.pl k (by omega)
        have hyl := r2.1
        have hy2 : ∀ j, j < C → (ys.set im (.int .i32 ((p.R k).length : Nat)))[j]? = some (.int .i32 (p.G (k + 1) j).2) := by
          refine set_all (g := fun j => .int .i32 (p.G k j).2) (g' := fun j => .int .i32 (p.G (k + 1) j).2) (by omega) hy ?_ ?_
          · show _ = Value.int .i32 (p.G (k + 1) im).2
            rw [hGs im, if_pos ⟨hlt, hfr, him2⟩]
          · intro j hj
            show Value.int .i32 (p.G (k + 1) j).2 = Value.int .i32 (p.G k j).2
            rw [hGs j, if_neg (fun hh => hj (by omega))]
        rw [him] at a6
        have himC : im < C := by omega
        have himC' : (im : Int) < (C : Int) := by omega
        have him0 : (0 : Int) ≤ (im : Int) := by omega
        obtain ⟨y2, c2⟩ := row_one r2 himC
        have z2 := r2.frozenAt im
        have ltk := World.block_lt_of_cell? wE _ (HKE.out.2 k hlt hfr)
        have lts : sb < wE.heap.size := by
          obtain ⟨sb', so', es', _, _, _, _, _, _, a6', _⟩ := step_cell HE.out.base.ss hltn'
          have := World.block_lt_of_cell? wE _ a6'
          rw [es] at es'
          cases es'
          exact this
        have n1 : ge ≠ gl := by have : ge < wE.heap.size := ltk; omega
        have n2 : sb ≠ gl := by omega
        have hs := grown_setCell' (w := wr) gl im (.int .i32 ((p.R k).length : Nat))
        have s1 := World.ownsRow.drew (row_kept r1 hs (fun g hg => by cases hg; simpa using hgg))
        have s2 := World.ownsRow.drew (r2.stored im (.int .i32 ((p.R k).length : Nat))).1
        have hbb : Below wE.heap.size wE (wr.setCell ⟨gl, im, none⟩ (.int .i32 ((p.R k).length : Nat))).drew := Below.drew (hbr.setCell (by show wE.heap.size ≤ gl; omega) _)
        have x1 : (wr.setCell ⟨gl, im, none⟩ (.int .i32 ((p.R k).length : Nat))).drew.cell? ⟨sb, so + k * 8 + 6, none⟩ = some (.int .i32 (im : Int)) := cell_setCell_other (a := ⟨gl, im, none⟩) a6 n2
        have x2 : (wr.setCell ⟨gl, im, none⟩ (.int .i32 ((p.R k).length : Nat))).drew.cell? ⟨ge, k, none⟩ = some (.int .i32 ((p.R k).length : Nat)) := cell_setCell_other (a := ⟨gl, im, none⟩) e1 n1
        have HY2 : Hid _ := hy2
        have HRR : Hid _ := And.intro s1 s2
        have HBB : Hid _ := hbb
        clear hy2 hGs hy r1 r2 hbr HE HD HKE HC0 HXY HR12 HBE hfr hs s1 s2 hbb hitl him him2 hyl
        generalize p.S.getD k e0 = gs at *
        generalize (p.R k).length = rl at *
        go_wp2_with fail
        refine wp_shade2 (fun KK hKK => ?_)
        have HKK : Hid _ := hKK
        clear hKK
        go_region_held3 (fun w' => w'.cell? ⟨sb, so + k * 8 + 6, none⟩ = some (.int .i32 (im : Int)) ∧ w'.cell? ⟨ge, k, none⟩ = some (.int .i32 (rl : Int)))
          (first | go_keep | (exact ⟨x1, x2⟩))
          (fail)
        refine HKK.out _ _ ?_
        clear HKK KK
        go_wp2_with fail
        go_roundw
        case rel => exact ⟨k + 1, _, by omega, by go_num, HRR.out.1, HRR.out.2, HY2.out, HBB.out⟩
        case measure => simp [intOf]; omega
    · obtain rfl : k = p.lim := by omega
      have HEN : Hid _ := HE.out.grown hbr
      have hCC := HC0.out
      have HWF : Hid (∀ j, j < C → wr.cell? ⟨gw, j, none⟩ = some (.int .i32 ((p.I p.S.length).getD j (0, 0)).1)) := fun j hj => row_val r1 (by rw [HXY.out.1 j hj, SP.G_one HE.out.pl (by omega)]) hj
      have HLF : Hid (∀ j, j < C → wr.cell? ⟨gl, j, none⟩ = some (.int .i32 ((p.I p.S.length).getD j (0, 0)).2)) := fun j hj => row_val r2 (by rw [hy j hj, SP.G_end HE.out.pl (by omega)]) hj
      clear r1 r2 hy hbr hCC
      go_wp2_with fail
      exact sx33 p _ _ _ _ _ _ _ _ _ _ _ _ _ _ _ _ _ _ _ _ _ _ _ _ _ _ _ _ _ _ _ _ _ _ _ _ _ _ _ _ _ _ _ _ _ _ _ _ _ _ _ _ _ _ _ _ _ _ _ _ _ _ _ _ _ _ _ _ _ _ _ _ _ _ _ _ _ _ _ _ _ _ _ _ _ _ _ _ _ _ _ _ _ _ _ _ _ _ _ _ _ _ _ _ _ _ _ _ _ _ _ _ _ _ _ _ _ _ _ _ _ _ _ _ _ _ _ _ _ _ _ _ _ _ _ _ _ _ _ _ _ _ _ _ _ _ _ _ _ _ _ _ _ _ _ _ _ _ _ _ _ _ _ _ _ _ _ _ _ _ _ _ _ _ _ _ _ _ _ _ _ _ _ _ _ _ _ _ _ _ _ _ _ _ _ _ _ _ _ _ _ _ _ _ _ _ _ _ _ _ _ _ _ _ _ _ _ _ _ _ _ _ _ _ _ _ _ _ _ _ _ _ _ _ _ _ _ _ _ _ _ _ _ _ _ _ _ _ _ _ _ _ _ _ _ _ _ _ _ _ _ _ _ _ _ _ _ _ _ _ _ _ _ _ _ _ _ _ _ _ _ _ _ _ _ _ _ _ _ _ _ _ _ _ _ _ _ _ _ _ _ _ _ _ _ _ _ _ _ _ _ _ _ _ _ _ _ _ _ _ _ _ _ _ _ _ _ _ _ _ _ _ _ _ _ _ _ _ _ _ _ _ _ _ _ _ _ _ _ _ _ _ _ _ _ _ _ _ _ _ _ _ _ _ _ _ _ _ _ _ _ _ _ _ _ _ _ _ _ _ _ _ _ _ _ _ _ _ _ _ _ _ _ _ _ _ _ _ _ _ _ _ _ _ _ _ _ _ _ _ _ _ _ _ _ _ _ _ _ _ _ _ _ _ _ _ _ _ _ _ _ _ _ _ _ _ _ _ _ _ _ _ _ _ _ _ _ _ _ _ _ _ _ _ _ _ _ _ _ _ _ _ _ _ _ _ _ _ _ _ _ _ _ _ _ _ _ _ _ _ _ _ _ _ _ _ _ _ _ _ _ _ _ _ _ _ _ _ _ _ _ _ _ _ _ _ _ _ _ _ _ _ _ _ _ _ _ _ _ _ _ _ _ _ _ _ _ _ _ _ _ _ _ _ _ _ _ _ _ _ _ _ _ _ _ _ _ _ _ _ _ _ _ _ _ _ _ _ _ _ _ _ _ _ _ _ _ _ _ _ _ _ _ _ _ _ _ _ _ _ _ _ _ _ _ _ _ _ _ _ _ _ _ _ _ _ _ _ _ _ _ _ _ _ _ _ _ _ _ _ _ _ _ _ _ _ _ _ _ _ _ _ _ _ _ _ _ _ _ _ _ _ _ _ _ _ _ _ _ _ _ _ _ _ _ _ _ _ _ _ _ _ _ HEN.out (fun j hj => cell_later HBR.out (HD.out j hj)) HC0.out HWF.out HLF.out hCl

end Go.Proofs.Qxb6625890a
