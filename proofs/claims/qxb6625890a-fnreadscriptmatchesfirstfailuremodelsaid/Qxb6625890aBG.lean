/-
  Seat b6625890a: the law FnReadScriptMatchesFirstFailureModel, the items that are looked for. Frames written by program.
-/
import Derived.Test.Qxb6625890aBF
namespace Go.Proofs.Qxb6625890a
open Go.RowKit Go.Maps
set_option linter.unusedVariables false

theorem pair_set {w : World} {M gw gl C k : Nat} {xs ys : List Value} {v1 v2 : Value} {wE : World} (r1 : w.ownsRow M 21 1 (.slice (some ⟨gw, 0, none⟩) C C) C xs) (r2 : w.ownsRow M 21 1 (.slice (some ⟨gl, 0, none⟩) C C) C ys) (hgg : gw ≠ gl) (hb : Below M wE w) :
    ((w.setCell ⟨gw, k, none⟩ v1).setCell ⟨gl, k, none⟩ v2).ownsRow M 21 1 (.slice (some ⟨gw, 0, none⟩) C C) C (xs.set k v1) ∧ ((w.setCell ⟨gw, k, none⟩ v1).setCell ⟨gl, k, none⟩ v2).ownsRow M 21 1 (.slice (some ⟨gl, 0, none⟩) C C) C (ys.set k v2) ∧ Below M wE ((w.setCell ⟨gw, k, none⟩ v1).setCell ⟨gl, k, none⟩ v2) := by
  have g1 := (row_ge r1).1
  have g2 := (row_ge r2).1
  have hs := grown_setCell' (w := w) gw k v1
  have s1 := (r1.stored k v1).1
  have s2 := row_kept r2 hs (fun g hg => by cases hg; simpa using hgg.symm)
  have hs' := grown_setCell' (w := w.setCell ⟨gw, k, none⟩ v1) gl k v2
  have s3 := row_kept s1 hs' (fun g hg => by cases hg; simpa using hgg)
  have s4 := (s2.stored k v2).1
  exact ⟨s3, s4, (hb.setCell (p := ⟨gw, k, none⟩) g1 _).setCell (p := ⟨gl, k, none⟩) g2 _⟩

set_option maxRecDepth 100000 in
set_option maxHeartbeats 2000000 in
theorem sx31 {w w0 : World} {B : Nat} (p : SP) (wE : World) (gd gw gl C gk ge : Nat) (xs ys : List Value) (u0 u4 u5 u6 u9 u10 u11 u12 u13 u15 u16 u17 u18 u19 u20 u21 u22 u26 u27 u28 u29 u30 u31 u32 u33 u34 u35 u36 u37 u38 u39 u40 u42 u45 u46 u47 u48 u49 u50 u51 u52 u53 u54 u55 u56 u57 u58 u59 u60 u61 u62 u63 u64 u65 u66 u67 u68 u69 u70 u71 u72 u73 u74 u75 u76 u77 u78 u79 u80 u81 u82 u83 u84 u85 u86 u87 u88 u89 u90 u91 u92 u93 u94 u95 u96 u97 u98 u99 u100 u101 u102 u103 u104 u105 u106 u107 u108 u109 u110 u111 u112 u113 u114 u115 u116 u117 u118 u119 u120 u121 u122 u123 u124 u125 u126 u127 u128 u129 u130 u131 u132 u133 u134 u135 u136 u137 u138 u139 u140 u141 u142 u143 u144 u145 u146 u147 u148 u149 u150 u151 u152 u153 u154 u155 u156 u157 u158 u159 u160 u161 u162 u163 u164 u165 u166 u167 u168 u169 u170 u171 u172 u173 u174 u175 u176 u177 u178 u179 u180 u181 u182 u183 u184 u185 u186 u187 u188 u189 u190 u191 u192 u193 u194 u195 u196 u197 u198 u199 u200 u201 u202 u203 u204 u205 u206 u207 u208 u209 u210 u211 u212 u213 u214 u215 u216 u217 u218 u219 u220 u221 u222 u223 u224 u225 u226 u227 u228 u229 u230 u231 u232 u233 u234 u235 u236 u237 u238 u239 u240 u241 u242 u243 u244 u245 u246 u247 u248 u249 u250 u251 u252 u253 u254 u255 u256 u257 u258 u259 u260 u261 u262 u263 u264 u265 u266 u267 u268 u269 u270 u271 u272 u273 u274 u275 u276 u277 u278 u279 u280 u281 u282 u283 u284 u285 u286 u287 u288 u289 u290 u291 u292 u293 u294 u295 u296 u297 u298 u299 u300 u301 u302 u303 u304 u305 u306 u307 u308 u309 u310 u311 u312 u313 u314 u315 u316 u317 u318 u319 u320 u321 u322 u323 u324 u325 u326 u327 u328 u329 u330 u331 u332 u333 u334 u335 u336 u337 u338 u339 u340 u341 u342 u343 u344 u345 u346 u347 u348 u349 u350 u351 u352 u353 u354 u355 u356 u357 u358 u359 u360 u361 u362 u363 u364 u365 u366 u367 u368 u369 u370 u371 u372 u373 u374 u375 u376 u377 u378 u379 u380 u381 u382 u383 u384 u385 u386 u387 u388 u389 u390 u391 u392 u393 u394 u395 u396 u397 u398 u399 u400 u401 u402 u403 u404 u405 u406 u407 u408 u409 u410 u411 u412 u413 u414 u415 u416 u417 u418 u419 u420 u421 u422 u423 u424 u425 u426 u427 u428 u429 u430 u431 u432 u433 u434 u435 u436 u437 u438 u439 u440 u441 u442 u443 u444 u445 u446 u447 u448 u449 u450 u451 u452 u453 u454 u455 u456 u457 u458 u459 u460 u461 u462 u463 u464 u465 u466 u467 u468 u469 u470 u471 u472 u473 u474 u475 u476 u477 u478 u479 u480 u481 u482 u483 u484 u485 u486 u487 u488 u489 u490 u491 u492 u493 u494 u495 u496 u497 u498 u499 u500 u501 u502 u503 u504 u505 u506 u507 u508 u509 u510 u511 u512 u513 u514 u515 u516 u517 u518 u519 u520 u521 u522 u523 u524 u525 u526 u527 u528 u529 u530 u531 u532 u533 u534 u535 u536 u537 u538 u539 u540 u541 u542 u543 u544 u545 u546 u547 u548 u549 u550 u551 u552 u553 u554 u555 u556 u557 u558 u559 u560 u561 u562 u563 u564 u565 u566 u567 u568 u569 u570 u571 u572 u573 u574 u575 u576 u577 u578 u579 u580 u581 u582 u583 u584 u585 u586 u587 u588 u589 u590 u591 u592 u593 u594 u595 u596 u597 u598 u599 u600 u601 u602 u603 u604 u605 u606 u607 u608 u609 u610 u611 u612 u613 u614 u615 u616 u617 u618 u619 u620 u621 u622 u623 u624 u625 u626 u627 u628 u629 u630 u631 u632 u633 u634 u635 u636 u637 u638 u639 u640 u641 u642 u643 u644 u645 u646 u647 u648 u649 u650 u651 u652 u653 u654 u655 u656 u657 : Value)
    (h : Env w0 B wE p) (hd : ∀ j, j < p.S.length → wE.cell? ⟨gd, j, none⟩ = some (.bool (p.dr j))) (hkp : ∀ j, j < p.lim → wE.cell? ⟨gk, j, none⟩ = some (.bool (p.fr j))) (hen : ∀ j, j < p.lim → p.fr j = true → wE.cell? ⟨ge, j, none⟩ = some (.int .i32 ((p.R j).length : Nat))) (hC : C = (p.I p.S.length).length) (hCl : C ≤ 1049088) (hbE : Below wE.heap.size wE w) (r1 : w.ownsRow wE.heap.size 21 1 (.slice (some ⟨gw, 0, none⟩) C C) C xs) (r2 : w.ownsRow wE.heap.size 21 1 (.slice (some ⟨gl, 0, none⟩) C C) C ys) (hgg : gw ≠ gl) (hx : ∀ j, j < C → xs[j]? = some (.int .i32 (-1))) (hy : ∀ j, j < C → ys[j]? = some (.int .i32 (-1))) :
    Code.wp Try.prog (tl Try.f3 31) (QT Try.f3 B w0) ⟨#[u0, .slice p.sa p.S.length p.sc, .int .i32 p.probe, .pointer (some ⟨p.bst, 0, none⟩), u4, u5, u6, .int .i64 p.S.length, .pointer (some ⟨p.cb, 0, none⟩), u9, u10, u11, u12, u13, .slice (some ⟨gd, 0, none⟩) p.S.length p.S.length, u15, u16, u17, u18, u19, u20, u21, u22, .int .i64 p.lim, .slice (some ⟨gk, 0, none⟩) p.S.length p.S.length, .slice (some ⟨ge, 0, none⟩) p.S.length p.S.length, u26, u27, u28, u29, u30, u31, u32, u33, u34, u35, u36, u37, u38, u39, u40, .int .i64 C, u42, .slice (some ⟨gw, 0, none⟩) C C, .slice (some ⟨gl, 0, none⟩) C C, u45, u46, u47, u48, u49, u50, u51, u52, u53, u54, u55, u56, u57, u58, u59, u60, u61, u62, u63, u64, u65, u66, u67, u68, u69, u70, u71, u72, u73, u74, u75, u76, u77, u78, u79, u80, u81, u82, u83, u84, u85, u86, u87, u88, u89, u90, u91, u92, u93, u94, u95, u96, u97, u98, u99, u100, u101, u102, u103, u104, u105, u106, u107, u108, u109, u110, u111, u112, u113, u114, u115, u116, u117, u118, u119, u120, u121, u122, u123, u124, u125, u126, u127, u128, u129, u130, u131, u132, u133, u134, u135, u136, u137, u138, u139, u140, u141, u142, u143, u144, u145, u146, u147, u148, u149, u150, u151, u152, u153, u154, u155, u156, u157, u158, u159, u160, u161, u162, u163, u164, u165, u166, u167, u168, u169, u170, u171, u172, u173, u174, u175, u176, u177, u178, u179, u180, u181, u182, u183, u184, u185, u186, u187, u188, u189, u190, u191, u192, u193, u194, u195, u196, u197, u198, u199, u200, u201, u202, u203, u204, u205, u206, u207, u208, u209, u210, u211, u212, u213, u214, u215, u216, u217, u218, u219, u220, u221, u222, u223, u224, u225, u226, u227, u228, u229, u230, u231, u232, u233, u234, u235, u236, u237, u238, u239, u240, u241, u242, u243, u244, u245, u246, u247, u248, u249, u250, u251, u252, u253, u254, u255, u256, u257, u258, u259, u260, u261, u262, u263, u264, u265, u266, u267, u268, u269, u270, u271, u272, u273, u274, u275, u276, u277, u278, u279, u280, u281, u282, u283, u284, u285, u286, u287, u288, u289, u290, u291, u292, u293, u294, u295, u296, u297, u298, u299, u300, u301, u302, u303, u304, u305, u306, u307, u308, u309, u310, u311, u312, u313, u314, u315, u316, u317, u318, u319, u320, u321, u322, u323, u324, u325, u326, u327, u328, u329, u330, u331, u332, u333, u334, u335, u336, u337, u338, u339, u340, u341, u342, u343, u344, u345, u346, u347, u348, u349, u350, u351, u352, u353, u354, u355, u356, u357, u358, u359, u360, u361, u362, u363, u364, u365, u366, u367, u368, u369, u370, u371, u372, u373, u374, u375, u376, u377, u378, u379, u380, u381, u382, u383, u384, u385, u386, u387, u388, u389, u390, u391, u392, u393, u394, u395, u396, u397, u398, u399, u400, u401, u402, u403, u404, u405, u406, u407, u408, u409, u410, u411, u412, u413, u414, u415, u416, u417, u418, u419, u420, u421, u422, u423, u424, u425, u426, u427, u428, u429, u430, u431, u432, u433, u434, u435, u436, u437, u438, u439, u440, u441, u442, u443, u444, u445, u446, u447, u448, u449, u450, u451, u452, u453, u454, u455, u456, u457, u458, u459, u460, u461, u462, u463, u464, u465, u466, u467, u468, u469, u470, u471, u472, u473, u474, u475, u476, u477, u478, u479, u480, u481, u482, u483, u484, u485, u486, u487, u488, u489, u490, u491, u492, u493, u494, u495, u496, u497, u498, u499, u500, u501, u502, u503, u504, u505, u506, u507, u508, u509, u510, u511, u512, u513, u514, u515, u516, u517, u518, u519, u520, u521, u522, u523, u524, u525, u526, u527, u528, u529, u530, u531, u532, u533, u534, u535, u536, u537, u538, u539, u540, u541, u542, u543, u544, u545, u546, u547, u548, u549, u550, u551, u552, u553, u554, u555, u556, u557, u558, u559, u560, u561, u562, u563, u564, u565, u566, u567, u568, u569, u570, u571, u572, u573, u574, u575, u576, u577, u578, u579, u580, u581, u582, u583, u584, u585, u586, u587, u588, u589, u590, u591, u592, u593, u594, u595, u596, u597, u598, u599, u600, u601, u602, u603, u604, u605, u606, u607, u608, u609, u610, u611, u612, u613, u614, u615, u616, u617, u618, u619, u620, u621, u622, u623, u624, u625, u626, u627, u628, u629, u630, u631, u632, u633, u634, u635, u636, u637, u638, u639, u640, u641, u642, u643, u644, u645, u646, u647, u648, u649, u650, u651, u652, u653, u654, u655, u656, u657], []⟩ w := by
  have HE : Hid _ := h
  have HD : Hid _ := hd
  have HKE : Hid _ := And.intro hkp hen
  have HC0 : Hid _ := hC
  have HBE : Hid _ := hbE
  have HXY : Hid _ := And.intro hx hy
  have HR12 : Hid _ := And.intro r1 r2
  have hlim := SP.lim_le (p := p)
  have hn := h.pl.dom.n
  have gwge := (row_ge r1).1
  have glge := (row_ge r2).1
  clear h hd hkp hen hC hbE hx hy r1 r2
  have hIC : p.I0.length ≤ C := by rw [HC0.out, SP.Ilen HE.out.pl]; exact (Qxb6625890a.clen_le _ _ _).1
  rw [tl3_31]
  refine wp_seq_k (fun K hK => ?_)
  conv => arg 2; whnf
  have k1w := cell_later HBE.out HE.out.base.k1
  go_wp2_with fail
  go_loopw [46] (fun i wr => ∃ (k : Nat) (xs ys : List Value), k ≤ p.I0.length ∧ i = .int .i64 k ∧ wr.ownsRow wE.heap.size 21 1 (.slice (some ⟨gw, 0, none⟩) C C) C xs ∧ wr.ownsRow wE.heap.size 21 1 (.slice (some ⟨gl, 0, none⟩) C C) C ys ∧ (∀ j, j < C → xs[j]? = some (.int .i32 (if j < k then (p.I0.getD j (-1, -1)).1 else -1))) ∧ (∀ j, j < C → ys[j]? = some (.int .i32 (if j < k then (p.I0.getD j (-1, -1)).2 else -1))) ∧ Below wE.heap.size wE wr) (fun i _ => p.I0.length - (intOf i).toNat)
  case atStart => exact ⟨0, xs, ys, by omega, rfl, HR12.out.1, HR12.out.2, fun j hj => by rw [HXY.out.1 j hj, if_neg (by omega)], fun j hj => by rw [HXY.out.2 j hj, if_neg (by omega)], HBE.out⟩
  case round =>
    obtain ⟨k, xs, ys, hk, rfl, r1, r2, hx, hy, hbr⟩ := hrel
    have HBR : Hid _ := hbr
    have k1 := cell_later hbr HE.out.base.k1
    by_cases hlt : k < p.I0.length
    · have hlt' : (k : Int) < (p.I0.length : Int) := by omega
      have hlt0 : (0 : Int) ≤ (k : Int) := by omega
      have hltC' : (k : Int) < (C : Int) := by omega
      have hltC : k < C := by omega
      obtain ⟨ib, io, ei, i1, i2⟩ := item_cell (Sl.below HE.out.base.s1 hbr) hlt
      rw [ei] at k1
      have lti : ib < wE.heap.size := by
        obtain ⟨ib', io', ei', i1', _⟩ := item_cell HE.out.base.s1 hlt
        have := World.block_lt_of_cell? wE _ i1'
        rw [ei] at ei'
        cases ei'
        exact this
      have ltb : p.bst < wE.heap.size := World.block_lt_of_cell? wE _ HE.out.base.k1
      have n1 : ib ≠ gw := by omega
      have n2 : p.bst ≠ gw := by omega
      obtain ⟨y1, c1⟩ := row_one r1 hltC
      obtain ⟨y2, c2⟩ := row_one r2 hltC
      have z1 := r1.frozenAt k
      have z2 := r2.frozenAt k
      have hxl := r1.1
      have hyl := r2.1
      have hgd : p.I0.getD k (-1, -1) = p.I0.getD k (0, 0) := getD_any hlt _ _
      have hx2 : ∀ j, j < C → (xs.set k (.int .i32 (p.I0.getD k (0, 0)).1))[j]? = some (.int .i32 (if j < k + 1 then (p.I0.getD j (-1, -1)).1 else -1)) :=
        set_all (g := fun j => .int .i32 (if j < k then (p.I0.getD j (-1, -1)).1 else -1)) (g' := fun j => .int .i32 (if j < k + 1 then (p.I0.getD j (-1, -1)).1 else -1)) (by omega) hx (by show _ = Value.int .i32 (if k < k + 1 then _ else _); rw [if_pos (by omega), hgd]) (fun j hj => by
          show Value.int .i32 (if j < k + 1 then _ else _) = Value.int .i32 (if j < k then _ else _)
          by_cases e : j < k
          · rw [if_pos e, if_pos (by omega)]
          · rw [if_neg e, if_neg (by omega)])
      have hy2 : ∀ j, j < C → (ys.set k (.int .i32 (p.I0.getD k (0, 0)).2))[j]? = some (.int .i32 (if j < k + 1 then (p.I0.getD j (-1, -1)).2 else -1)) :=
        set_all (g := fun j => .int .i32 (if j < k then (p.I0.getD j (-1, -1)).2 else -1)) (g' := fun j => .int .i32 (if j < k + 1 then (p.I0.getD j (-1, -1)).2 else -1)) (by omega) hy (by show _ = Value.int .i32 (if k < k + 1 then _ else _); rw [if_pos (by omega), hgd]) (fun j hj => by
          show Value.int .i32 (if j < k + 1 then _ else _) = Value.int .i32 (if j < k then _ else _)
          by_cases e : j < k
          · rw [if_pos e, if_pos (by omega)]
          · rw [if_neg e, if_neg (by omega)])
      have hps := pair_set (k := k) (v1 := .int .i32 (p.I0.getD k (0, 0)).1) (v2 := .int .i32 (p.I0.getD k (0, 0)).2) r1 r2 hgg hbr
      have HPS : Hid _ := hps
      have HX2 : Hid _ := And.intro hx2 hy2
      clear hps hx2 hy2 hx hy r1 r2 hbr HE HD HKE HC0 HXY HR12 HBE hxl hyl hgd k1w
      generalize p.I0.getD k (0, 0) = q at *
      obtain ⟨q1, q2⟩ := q
      have i2' : (wr.setCell ⟨gw, k, none⟩ (.int .i32 q1)).cell? ⟨ib, io + k * 2 + 1, none⟩ = some (.int .i32 q2) := cell_setCell_other (a := ⟨gw, k, none⟩) i2 n1
      have k1' : (wr.setCell ⟨gw, k, none⟩ (.int .i32 q1)).cell? ⟨p.bst, 1, none⟩ = some (.slice (some ⟨ib, io, none⟩) p.I0.length p.q1) := cell_setCell_other (a := ⟨gw, k, none⟩) k1 n2
      go_wp2_with fail
      go_roundw
      case rel => exact ⟨k + 1, _, _, by omega, by go_num, HPS.out.1, HPS.out.2.1, HX2.out.1, HX2.out.2, HPS.out.2.2⟩
      case measure => simp [intOf]; omega
    · obtain rfl : k = p.I0.length := by omega
      have hout : ∀ j, ¬ j < p.I0.length → p.I0.getD j (-1, -1) = (-1, -1) := fun j hj => by
        rw [List.getD_eq_getElem?_getD, List.getElem?_eq_none (by omega : p.I0.length ≤ j)]; rfl
      have HX2 : Hid (∀ j, j < C → xs[j]? = some (.int .i32 (p.I0.getD j (-1, -1)).1)) := fun j hj => by
        rw [hx j hj]
        by_cases e : j < p.I0.length
        · rw [if_pos e]
        · rw [if_neg e, hout j e]
      have HY2 : Hid (∀ j, j < C → ys[j]? = some (.int .i32 (p.G 0 j).2)) := fun j hj => by
        rw [hy j hj]
        show _ = some (Value.int .i32 (p.I0.getD j (-1, -1)).2)
        by_cases e : j < p.I0.length
        · rw [if_pos e]
        · rw [if_neg e, hout j e]
      have HRR : Hid _ := And.intro r1 r2
      clear hx hy r1 r2 hbr hout k1w
      go_wp2_with fail
      exact sx32 p _ _ _ _ _ _ _ _ _ _ _ _ _ _ _ _ _ _ _ _ _ _ _ _ _ _ _ _ _ _ _ _ _ _ _ _ _ _ _ _ _ _ _ _ _ _ _ _ _ _ _ _ _ _ _ _ _ _ _ _ _ _ _ _ _ _ _ _ _ _ _ _ _ _ _ _ _ _ _ _ _ _ _ _ _ _ _ _ _ _ _ _ _ _ _ _ _ _ _ _ _ _ _ _ _ _ _ _ _ _ _ _ _ _ _ _ _ _ _ _ _ _ _ _ _ _ _ _ _ _ _ _ _ _ _ _ _ _ _ _ _ _ _ _ _ _ _ _ _ _ _ _ _ _ _ _ _ _ _ _ _ _ _ _ _ _ _ _ _ _ _ _ _ _ _ _ _ _ _ _ _ _ _ _ _ _ _ _ _ _ _ _ _ _ _ _ _ _ _ _ _ _ _ _ _ _ _ _ _ _ _ _ _ _ _ _ _ _ _ _ _ _ _ _ _ _ _ _ _ _ _ _ _ _ _ _ _ _ _ _ _ _ _ _ _ _ _ _ _ _ _ _ _ _ _ _ _ _ _ _ _ _ _ _ _ _ _ _ _ _ _ _ _ _ _ _ _ _ _ _ _ _ _ _ _ _ _ _ _ _ _ _ _ _ _ _ _ _ _ _ _ _ _ _ _ _ _ _ _ _ _ _ _ _ _ _ _ _ _ _ _ _ _ _ _ _ _ _ _ _ _ _ _ _ _ _ _ _ _ _ _ _ _ _ _ _ _ _ _ _ _ _ _ _ _ _ _ _ _ _ _ _ _ _ _ _ _ _ _ _ _ _ _ _ _ _ _ _ _ _ _ _ _ _ _ _ _ _ _ _ _ _ _ _ _ _ _ _ _ _ _ _ _ _ _ _ _ _ _ _ _ _ _ _ _ _ _ _ _ _ _ _ _ _ _ _ _ _ _ _ _ _ _ _ _ _ _ _ _ _ _ _ _ _ _ _ _ _ _ _ _ _ _ _ _ _ _ _ _ _ _ _ _ _ _ _ _ _ _ _ _ _ _ _ _ _ _ _ _ _ _ _ _ _ _ _ _ _ _ _ _ _ _ _ _ _ _ _ _ _ _ _ _ _ _ _ _ _ _ _ _ _ _ _ _ _ _ _ _ _ _ _ _ _ _ _ _ _ _ _ _ _ _ _ _ _ _ _ _ _ _ _ _ _ _ _ _ _ _ _ _ _ _ _ _ _ _ _ _ _ _ _ _ _ _ _ _ _ _ _ _ _ _ _ _ _ _ _ _ _ _ _ _ _ _ _ _ _ _ _ _ _ _ _ _ _ _ _ _ _ _ _ _ _ _ _ _ _ _ _ _ _ _ _ _ _ _ _ _ _ _ _ _ _ _ _ _ _ _ _ _ _ _ _ _ _ _ _ _ _ _ _ _ _ _ _ _ _ _ _ _ _ _ _ _ HE.out HD.out HKE.out.1 HKE.out.2 HC0.out hCl HBR.out HRR.out.1 HRR.out.2 hgg HX2.out HY2.out

set_option maxRecDepth 100000 in
set_option maxHeartbeats 2000000 in
theorem sx30 {w w0 : World} {B : Nat} (p : SP) (wE : World) (gd gw gl C gk ge : Nat) (xs ys : List Value) (u0 u4 u5 u6 u9 u10 u11 u12 u13 u15 u16 u17 u18 u19 u20 u21 u22 u26 u27 u28 u29 u30 u31 u32 u33 u34 u35 u36 u37 u38 u39 u40 u42 u45 u46 u47 u48 u49 u50 u51 u52 u53 u54 u55 u56 u57 u58 u59 u60 u61 u62 u63 u64 u65 u66 u67 u68 u69 u70 u71 u72 u73 u74 u75 u76 u77 u78 u79 u80 u81 u82 u83 u84 u85 u86 u87 u88 u89 u90 u91 u92 u93 u94 u95 u96 u97 u98 u99 u100 u101 u102 u103 u104 u105 u106 u107 u108 u109 u110 u111 u112 u113 u114 u115 u116 u117 u118 u119 u120 u121 u122 u123 u124 u125 u126 u127 u128 u129 u130 u131 u132 u133 u134 u135 u136 u137 u138 u139 u140 u141 u142 u143 u144 u145 u146 u147 u148 u149 u150 u151 u152 u153 u154 u155 u156 u157 u158 u159 u160 u161 u162 u163 u164 u165 u166 u167 u168 u169 u170 u171 u172 u173 u174 u175 u176 u177 u178 u179 u180 u181 u182 u183 u184 u185 u186 u187 u188 u189 u190 u191 u192 u193 u194 u195 u196 u197 u198 u199 u200 u201 u202 u203 u204 u205 u206 u207 u208 u209 u210 u211 u212 u213 u214 u215 u216 u217 u218 u219 u220 u221 u222 u223 u224 u225 u226 u227 u228 u229 u230 u231 u232 u233 u234 u235 u236 u237 u238 u239 u240 u241 u242 u243 u244 u245 u246 u247 u248 u249 u250 u251 u252 u253 u254 u255 u256 u257 u258 u259 u260 u261 u262 u263 u264 u265 u266 u267 u268 u269 u270 u271 u272 u273 u274 u275 u276 u277 u278 u279 u280 u281 u282 u283 u284 u285 u286 u287 u288 u289 u290 u291 u292 u293 u294 u295 u296 u297 u298 u299 u300 u301 u302 u303 u304 u305 u306 u307 u308 u309 u310 u311 u312 u313 u314 u315 u316 u317 u318 u319 u320 u321 u322 u323 u324 u325 u326 u327 u328 u329 u330 u331 u332 u333 u334 u335 u336 u337 u338 u339 u340 u341 u342 u343 u344 u345 u346 u347 u348 u349 u350 u351 u352 u353 u354 u355 u356 u357 u358 u359 u360 u361 u362 u363 u364 u365 u366 u367 u368 u369 u370 u371 u372 u373 u374 u375 u376 u377 u378 u379 u380 u381 u382 u383 u384 u385 u386 u387 u388 u389 u390 u391 u392 u393 u394 u395 u396 u397 u398 u399 u400 u401 u402 u403 u404 u405 u406 u407 u408 u409 u410 u411 u412 u413 u414 u415 u416 u417 u418 u419 u420 u421 u422 u423 u424 u425 u426 u427 u428 u429 u430 u431 u432 u433 u434 u435 u436 u437 u438 u439 u440 u441 u442 u443 u444 u445 u446 u447 u448 u449 u450 u451 u452 u453 u454 u455 u456 u457 u458 u459 u460 u461 u462 u463 u464 u465 u466 u467 u468 u469 u470 u471 u472 u473 u474 u475 u476 u477 u478 u479 u480 u481 u482 u483 u484 u485 u486 u487 u488 u489 u490 u491 u492 u493 u494 u495 u496 u497 u498 u499 u500 u501 u502 u503 u504 u505 u506 u507 u508 u509 u510 u511 u512 u513 u514 u515 u516 u517 u518 u519 u520 u521 u522 u523 u524 u525 u526 u527 u528 u529 u530 u531 u532 u533 u534 u535 u536 u537 u538 u539 u540 u541 u542 u543 u544 u545 u546 u547 u548 u549 u550 u551 u552 u553 u554 u555 u556 u557 u558 u559 u560 u561 u562 u563 u564 u565 u566 u567 u568 u569 u570 u571 u572 u573 u574 u575 u576 u577 u578 u579 u580 u581 u582 u583 u584 u585 u586 u587 u588 u589 u590 u591 u592 u593 u594 u595 u596 u597 u598 u599 u600 u601 u602 u603 u604 u605 u606 u607 u608 u609 u610 u611 u612 u613 u614 u615 u616 u617 u618 u619 u620 u621 u622 u623 u624 u625 u626 u627 u628 u629 u630 u631 u632 u633 u634 u635 u636 u637 u638 u639 u640 u641 u642 u643 u644 u645 u646 u647 u648 u649 u650 u651 u652 u653 u654 u655 u656 u657 : Value)
    (h : Env w0 B wE p) (hd : ∀ j, j < p.S.length → wE.cell? ⟨gd, j, none⟩ = some (.bool (p.dr j))) (hkp : ∀ j, j < p.lim → wE.cell? ⟨gk, j, none⟩ = some (.bool (p.fr j))) (hen : ∀ j, j < p.lim → p.fr j = true → wE.cell? ⟨ge, j, none⟩ = some (.int .i32 ((p.R j).length : Nat))) (hC : C = (p.I p.S.length).length) (hCl : C ≤ 1049088) (hbE : Below wE.heap.size wE w) (r1 : w.ownsRow wE.heap.size 21 1 (.slice (some ⟨gw, 0, none⟩) C C) C xs) (r2 : w.ownsRow wE.heap.size 21 1 (.slice (some ⟨gl, 0, none⟩) C C) C ys) (hgg : gw ≠ gl) :
    Code.wp Try.prog (tl Try.f3 30) (QT Try.f3 B w0) ⟨#[u0, .slice p.sa p.S.length p.sc, .int .i32 p.probe, .pointer (some ⟨p.bst, 0, none⟩), u4, u5, u6, .int .i64 p.S.length, .pointer (some ⟨p.cb, 0, none⟩), u9, u10, u11, u12, u13, .slice (some ⟨gd, 0, none⟩) p.S.length p.S.length, u15, u16, u17, u18, u19, u20, u21, u22, .int .i64 p.lim, .slice (some ⟨gk, 0, none⟩) p.S.length p.S.length, .slice (some ⟨ge, 0, none⟩) p.S.length p.S.length, u26, u27, u28, u29, u30, u31, u32, u33, u34, u35, u36, u37, u38, u39, u40, .int .i64 C, u42, .slice (some ⟨gw, 0, none⟩) C C, .slice (some ⟨gl, 0, none⟩) C C, u45, u46, u47, u48, u49, u50, u51, u52, u53, u54, u55, u56, u57, u58, u59, u60, u61, u62, u63, u64, u65, u66, u67, u68, u69, u70, u71, u72, u73, u74, u75, u76, u77, u78, u79, u80, u81, u82, u83, u84, u85, u86, u87, u88, u89, u90, u91, u92, u93, u94, u95, u96, u97, u98, u99, u100, u101, u102, u103, u104, u105, u106, u107, u108, u109, u110, u111, u112, u113, u114, u115, u116, u117, u118, u119, u120, u121, u122, u123, u124, u125, u126, u127, u128, u129, u130, u131, u132, u133, u134, u135, u136, u137, u138, u139, u140, u141, u142, u143, u144, u145, u146, u147, u148, u149, u150, u151, u152, u153, u154, u155, u156, u157, u158, u159, u160, u161, u162, u163, u164, u165, u166, u167, u168, u169, u170, u171, u172, u173, u174, u175, u176, u177, u178, u179, u180, u181, u182, u183, u184, u185, u186, u187, u188, u189, u190, u191, u192, u193, u194, u195, u196, u197, u198, u199, u200, u201, u202, u203, u204, u205, u206, u207, u208, u209, u210, u211, u212, u213, u214, u215, u216, u217, u218, u219, u220, u221, u222, u223, u224, u225, u226, u227, u228, u229, u230, u231, u232, u233, u234, u235, u236, u237, u238, u239, u240, u241, u242, u243, u244, u245, u246, u247, u248, u249, u250, u251, u252, u253, u254, u255, u256, u257, u258, u259, u260, u261, u262, u263, u264, u265, u266, u267, u268, u269, u270, u271, u272, u273, u274, u275, u276, u277, u278, u279, u280, u281, u282, u283, u284, u285, u286, u287, u288, u289, u290, u291, u292, u293, u294, u295, u296, u297, u298, u299, u300, u301, u302, u303, u304, u305, u306, u307, u308, u309, u310, u311, u312, u313, u314, u315, u316, u317, u318, u319, u320, u321, u322, u323, u324, u325, u326, u327, u328, u329, u330, u331, u332, u333, u334, u335, u336, u337, u338, u339, u340, u341, u342, u343, u344, u345, u346, u347, u348, u349, u350, u351, u352, u353, u354, u355, u356, u357, u358, u359, u360, u361, u362, u363, u364, u365, u366, u367, u368, u369, u370, u371, u372, u373, u374, u375, u376, u377, u378, u379, u380, u381, u382, u383, u384, u385, u386, u387, u388, u389, u390, u391, u392, u393, u394, u395, u396, u397, u398, u399, u400, u401, u402, u403, u404, u405, u406, u407, u408, u409, u410, u411, u412, u413, u414, u415, u416, u417, u418, u419, u420, u421, u422, u423, u424, u425, u426, u427, u428, u429, u430, u431, u432, u433, u434, u435, u436, u437, u438, u439, u440, u441, u442, u443, u444, u445, u446, u447, u448, u449, u450, u451, u452, u453, u454, u455, u456, u457, u458, u459, u460, u461, u462, u463, u464, u465, u466, u467, u468, u469, u470, u471, u472, u473, u474, u475, u476, u477, u478, u479, u480, u481, u482, u483, u484, u485, u486, u487, u488, u489, u490, u491, u492, u493, u494, u495, u496, u497, u498, u499, u500, u501, u502, u503, u504, u505, u506, u507, u508, u509, u510, u511, u512, u513, u514, u515, u516, u517, u518, u519, u520, u521, u522, u523, u524, u525, u526, u527, u528, u529, u530, u531, u532, u533, u534, u535, u536, u537, u538, u539, u540, u541, u542, u543, u544, u545, u546, u547, u548, u549, u550, u551, u552, u553, u554, u555, u556, u557, u558, u559, u560, u561, u562, u563, u564, u565, u566, u567, u568, u569, u570, u571, u572, u573, u574, u575, u576, u577, u578, u579, u580, u581, u582, u583, u584, u585, u586, u587, u588, u589, u590, u591, u592, u593, u594, u595, u596, u597, u598, u599, u600, u601, u602, u603, u604, u605, u606, u607, u608, u609, u610, u611, u612, u613, u614, u615, u616, u617, u618, u619, u620, u621, u622, u623, u624, u625, u626, u627, u628, u629, u630, u631, u632, u633, u634, u635, u636, u637, u638, u639, u640, u641, u642, u643, u644, u645, u646, u647, u648, u649, u650, u651, u652, u653, u654, u655, u656, u657], []⟩ w := by
  have HE : Hid _ := h
  have HD : Hid _ := hd
  have HKE : Hid _ := And.intro hkp hen
  have HC0 : Hid _ := hC
  have HBE : Hid _ := hbE
  have HR12 : Hid _ := And.intro r1 r2
  have hlim := SP.lim_le (p := p)
  have hn := h.pl.dom.n
  have gwge := (row_ge r1).1
  have glge := (row_ge r2).1
  clear h hd hkp hen hC hbE r1 r2
  rw [tl3_30]
  refine wp_seq_k (fun K hK => ?_)
  conv => arg 2; whnf
  go_wp2_with fail
  go_loopw [45] (fun i wr => ∃ (k : Nat) (xs ys : List Value), k ≤ C ∧ i = .int .i64 k ∧ wr.ownsRow wE.heap.size 21 1 (.slice (some ⟨gw, 0, none⟩) C C) C xs ∧ wr.ownsRow wE.heap.size 21 1 (.slice (some ⟨gl, 0, none⟩) C C) C ys ∧ (∀ j, j < k → xs[j]? = some (.int .i32 (-1))) ∧ (∀ j, j < k → ys[j]? = some (.int .i32 (-1))) ∧ Below wE.heap.size wE wr) (fun i _ => C - (intOf i).toNat)
  case atStart => exact ⟨0, xs, ys, by omega, rfl, HR12.out.1, HR12.out.2, fun j hj => (by omega), fun j hj => (by omega), HBE.out⟩
  case round =>
    obtain ⟨k, xs, ys, hk, rfl, r1, r2, hx, hy, hbr⟩ := hrel
    have HBR : Hid _ := hbr
    by_cases hlt : k < C
    · have hlt' : (k : Int) < (C : Int) := by omega
      have hlt0 : (0 : Int) ≤ (k : Int) := by omega
      obtain ⟨y1, c1⟩ := row_one r1 hlt
      obtain ⟨y2, c2⟩ := row_one r2 hlt
      have z1 := r1.frozenAt k
      have z2 := r2.frozenAt k
      have hxl := r1.1
      have hyl := r2.1
      have st : ∀ {l : List Value}, l.length = C → (∀ j, j < k → l[j]? = some (.int .i32 (-1))) → ∀ j, j < k + 1 → (l.set k (.int .i32 (-1)))[j]? = some (.int .i32 (-1)) := fun {l} hl h j hj => by
        rw [List.getElem?_set]
        by_cases e : k = j
        · subst e; rw [if_pos rfl, if_pos (by omega)]
        · rw [if_neg e]; exact h j (by omega)
      have hps := pair_set (k := k) (v1 := .int .i32 (-1)) (v2 := .int .i32 (-1)) r1 r2 hgg hbr
      have HPS : Hid _ := hps
      have HX2 : Hid _ := And.intro (st (by omega) hx) (st (by omega) hy)
      clear st hps hx hy r1 r2 hbr HE HD HKE HC0 HR12 HBE hxl hyl
      go_wp2_with fail
      go_roundw
      case rel => exact ⟨k + 1, _, _, by omega, by go_num, HPS.out.1, HPS.out.2.1, HX2.out.1, HX2.out.2, HPS.out.2.2⟩
      case measure => simp [intOf]; omega
    · obtain rfl : k = C := by omega
      have HRR : Hid _ := And.intro r1 r2
      have HX2 : Hid _ := And.intro hx hy
      clear hx hy r1 r2 hbr
      go_wp2_with fail
      exact sx31 p _ _ _ _ _ _ _ _ _ _ _ _ _ _ _ _ _ _ _ _ _ _ _ _ _ _ _ _ _ _ _ _ _ _ _ _ _ _ _ _ _ _ _ _ _ _ _ _ _ _ _ _ _ _ _ _ _ _ _ _ _ _ _ _ _ _ _ _ _ _ _ _ _ _ _ _ _ _ _ _ _ _ _ _ _ _ _ _ _ _ _ _ _ _ _ _ _ _ _ _ _ _ _ _ _ _ _ _ _ _ _ _ _ _ _ _ _ _ _ _ _ _ _ _ _ _ _ _ _ _ _ _ _ _ _ _ _ _ _ _ _ _ _ _ _ _ _ _ _ _ _ _ _ _ _ _ _ _ _ _ _ _ _ _ _ _ _ _ _ _ _ _ _ _ _ _ _ _ _ _ _ _ _ _ _ _ _ _ _ _ _ _ _ _ _ _ _ _ _ _ _ _ _ _ _ _ _ _ _ _ _ _ _ _ _ _ _ _ _ _ _ _ _ _ _ _ _ _ _ _ _ _ _ _ _ _ _ _ _ _ _ _ _ _ _ _ _ _ _ _ _ _ _ _ _ _ _ _ _ _ _ _ _ _ _ _ _ _ _ _ _ _ _ _ _ _ _ _ _ _ _ _ _ _ _ _ _ _ _ _ _ _ _ _ _ _ _ _ _ _ _ _ _ _ _ _ _ _ _ _ _ _ _ _ _ _ _ _ _ _ _ _ _ _ _ _ _ _ _ _ _ _ _ _ _ _ _ _ _ _ _ _ _ _ _ _ _ _ _ _ _ _ _ _ _ _ _ _ _ _ _ _ _ _ _ _ _ _ _ _ _ _ _ _ _ _ _ _ _ _ _ _ _ _ _ _ _ _ _ _ _ _ _ _ _ _ _ _ _ _ _ _ _ _ _ _ _ _ _ _ _ _ _ _ _ _ _ _ _ _ _ _ _ _ _ _ _ _ _ _ _ _ _ _ _ _ _ _ _ _ _ _ _ _ _ _ _ _ _ _ _ _ _ _ _ _ _ _ _ _ _ _ _ _ _ _ _ _ _ _ _ _ _ _ _ _ _ _ _ _ _ _ _ _ _ _ _ _ _ _ _ _ _ _ _ _ _ _ _ _ _ _ _ _ _ _ _ _ _ _ _ _ _ _ _ _ _ _ _ _ _ _ _ _ _ _ _ _ _ _ _ _ _ _ _ _ _ _ _ _ _ _ _ _ _ _ _ _ _ _ _ _ _ _ _ _ _ _ _ _ _ _ _ _ _ _ _ _ _ _ _ _ _ _ _ _ _ _ _ _ _ _ _ _ _ _ _ _ _ _ _ _ _ _ _ _ _ _ _ _ _ _ _ _ _ _ _ _ _ _ _ _ _ _ _ _ _ _ _ _ _ _ _ _ _ _ _ _ _ _ _ _ _ _ _ _ _ _ _ _ _ _ _ _ _ _ _ _ _ _ _ _ _ _ _ HE.out HD.out HKE.out.1 HKE.out.2 HC0.out hCl HBR.out HRR.out.1 HRR.out.2 hgg HX2.out.1 HX2.out.2

set_option maxRecDepth 100000 in
set_option maxHeartbeats 2000000 in
theorem sx28 {w w0 : World} {B : Nat} (p : SP) (gd C gk ge : Nat) (u0 u4 u5 u6 u9 u10 u11 u12 u13 u15 u16 u17 u18 u19 u20 u21 u22 u26 u27 u28 u29 u30 u31 u32 u33 u34 u35 u36 u37 u38 u39 u40 u42 u43 u44 u45 u46 u47 u48 u49 u50 u51 u52 u53 u54 u55 u56 u57 u58 u59 u60 u61 u62 u63 u64 u65 u66 u67 u68 u69 u70 u71 u72 u73 u74 u75 u76 u77 u78 u79 u80 u81 u82 u83 u84 u85 u86 u87 u88 u89 u90 u91 u92 u93 u94 u95 u96 u97 u98 u99 u100 u101 u102 u103 u104 u105 u106 u107 u108 u109 u110 u111 u112 u113 u114 u115 u116 u117 u118 u119 u120 u121 u122 u123 u124 u125 u126 u127 u128 u129 u130 u131 u132 u133 u134 u135 u136 u137 u138 u139 u140 u141 u142 u143 u144 u145 u146 u147 u148 u149 u150 u151 u152 u153 u154 u155 u156 u157 u158 u159 u160 u161 u162 u163 u164 u165 u166 u167 u168 u169 u170 u171 u172 u173 u174 u175 u176 u177 u178 u179 u180 u181 u182 u183 u184 u185 u186 u187 u188 u189 u190 u191 u192 u193 u194 u195 u196 u197 u198 u199 u200 u201 u202 u203 u204 u205 u206 u207 u208 u209 u210 u211 u212 u213 u214 u215 u216 u217 u218 u219 u220 u221 u222 u223 u224 u225 u226 u227 u228 u229 u230 u231 u232 u233 u234 u235 u236 u237 u238 u239 u240 u241 u242 u243 u244 u245 u246 u247 u248 u249 u250 u251 u252 u253 u254 u255 u256 u257 u258 u259 u260 u261 u262 u263 u264 u265 u266 u267 u268 u269 u270 u271 u272 u273 u274 u275 u276 u277 u278 u279 u280 u281 u282 u283 u284 u285 u286 u287 u288 u289 u290 u291 u292 u293 u294 u295 u296 u297 u298 u299 u300 u301 u302 u303 u304 u305 u306 u307 u308 u309 u310 u311 u312 u313 u314 u315 u316 u317 u318 u319 u320 u321 u322 u323 u324 u325 u326 u327 u328 u329 u330 u331 u332 u333 u334 u335 u336 u337 u338 u339 u340 u341 u342 u343 u344 u345 u346 u347 u348 u349 u350 u351 u352 u353 u354 u355 u356 u357 u358 u359 u360 u361 u362 u363 u364 u365 u366 u367 u368 u369 u370 u371 u372 u373 u374 u375 u376 u377 u378 u379 u380 u381 u382 u383 u384 u385 u386 u387 u388 u389 u390 u391 u392 u393 u394 u395 u396 u397 u398 u399 u400 u401 u402 u403 u404 u405 u406 u407 u408 u409 u410 u411 u412 u413 u414 u415 u416 u417 u418 u419 u420 u421 u422 u423 u424 u425 u426 u427 u428 u429 u430 u431 u432 u433 u434 u435 u436 u437 u438 u439 u440 u441 u442 u443 u444 u445 u446 u447 u448 u449 u450 u451 u452 u453 u454 u455 u456 u457 u458 u459 u460 u461 u462 u463 u464 u465 u466 u467 u468 u469 u470 u471 u472 u473 u474 u475 u476 u477 u478 u479 u480 u481 u482 u483 u484 u485 u486 u487 u488 u489 u490 u491 u492 u493 u494 u495 u496 u497 u498 u499 u500 u501 u502 u503 u504 u505 u506 u507 u508 u509 u510 u511 u512 u513 u514 u515 u516 u517 u518 u519 u520 u521 u522 u523 u524 u525 u526 u527 u528 u529 u530 u531 u532 u533 u534 u535 u536 u537 u538 u539 u540 u541 u542 u543 u544 u545 u546 u547 u548 u549 u550 u551 u552 u553 u554 u555 u556 u557 u558 u559 u560 u561 u562 u563 u564 u565 u566 u567 u568 u569 u570 u571 u572 u573 u574 u575 u576 u577 u578 u579 u580 u581 u582 u583 u584 u585 u586 u587 u588 u589 u590 u591 u592 u593 u594 u595 u596 u597 u598 u599 u600 u601 u602 u603 u604 u605 u606 u607 u608 u609 u610 u611 u612 u613 u614 u615 u616 u617 u618 u619 u620 u621 u622 u623 u624 u625 u626 u627 u628 u629 u630 u631 u632 u633 u634 u635 u636 u637 u638 u639 u640 u641 u642 u643 u644 u645 u646 u647 u648 u649 u650 u651 u652 u653 u654 u655 u656 u657 : Value)
    (h : Env w0 B w p) (hd : ∀ j, j < p.S.length → w.cell? ⟨gd, j, none⟩ = some (.bool (p.dr j))) (hkp : ∀ j, j < p.lim → w.cell? ⟨gk, j, none⟩ = some (.bool (p.fr j))) (hen : ∀ j, j < p.lim → p.fr j = true → w.cell? ⟨ge, j, none⟩ = some (.int .i32 ((p.R j).length : Nat))) (hC : C = (p.I p.S.length).length) (hCl : C ≤ 1049088) :
    Code.wp Try.prog (tl Try.f3 28) (QT Try.f3 B w0) ⟨#[u0, .slice p.sa p.S.length p.sc, .int .i32 p.probe, .pointer (some ⟨p.bst, 0, none⟩), u4, u5, u6, .int .i64 p.S.length, .pointer (some ⟨p.cb, 0, none⟩), u9, u10, u11, u12, u13, .slice (some ⟨gd, 0, none⟩) p.S.length p.S.length, u15, u16, u17, u18, u19, u20, u21, u22, .int .i64 p.lim, .slice (some ⟨gk, 0, none⟩) p.S.length p.S.length, .slice (some ⟨ge, 0, none⟩) p.S.length p.S.length, u26, u27, u28, u29, u30, u31, u32, u33, u34, u35, u36, u37, u38, u39, u40, .int .i64 C, u42, u43, u44, u45, u46, u47, u48, u49, u50, u51, u52, u53, u54, u55, u56, u57, u58, u59, u60, u61, u62, u63, u64, u65, u66, u67, u68, u69, u70, u71, u72, u73, u74, u75, u76, u77, u78, u79, u80, u81, u82, u83, u84, u85, u86, u87, u88, u89, u90, u91, u92, u93, u94, u95, u96, u97, u98, u99, u100, u101, u102, u103, u104, u105, u106, u107, u108, u109, u110, u111, u112, u113, u114, u115, u116, u117, u118, u119, u120, u121, u122, u123, u124, u125, u126, u127, u128, u129, u130, u131, u132, u133, u134, u135, u136, u137, u138, u139, u140, u141, u142, u143, u144, u145, u146, u147, u148, u149, u150, u151, u152, u153, u154, u155, u156, u157, u158, u159, u160, u161, u162, u163, u164, u165, u166, u167, u168, u169, u170, u171, u172, u173, u174, u175, u176, u177, u178, u179, u180, u181, u182, u183, u184, u185, u186, u187, u188, u189, u190, u191, u192, u193, u194, u195, u196, u197, u198, u199, u200, u201, u202, u203, u204, u205, u206, u207, u208, u209, u210, u211, u212, u213, u214, u215, u216, u217, u218, u219, u220, u221, u222, u223, u224, u225, u226, u227, u228, u229, u230, u231, u232, u233, u234, u235, u236, u237, u238, u239, u240, u241, u242, u243, u244, u245, u246, u247, u248, u249, u250, u251, u252, u253, u254, u255, u256, u257, u258, u259, u260, u261, u262, u263, u264, u265, u266, u267, u268, u269, u270, u271, u272, u273, u274, u275, u276, u277, u278, u279, u280, u281, u282, u283, u284, u285, u286, u287, u288, u289, u290, u291, u292, u293, u294, u295, u296, u297, u298, u299, u300, u301, u302, u303, u304, u305, u306, u307, u308, u309, u310, u311, u312, u313, u314, u315, u316, u317, u318, u319, u320, u321, u322, u323, u324, u325, u326, u327, u328, u329, u330, u331, u332, u333, u334, u335, u336, u337, u338, u339, u340, u341, u342, u343, u344, u345, u346, u347, u348, u349, u350, u351, u352, u353, u354, u355, u356, u357, u358, u359, u360, u361, u362, u363, u364, u365, u366, u367, u368, u369, u370, u371, u372, u373, u374, u375, u376, u377, u378, u379, u380, u381, u382, u383, u384, u385, u386, u387, u388, u389, u390, u391, u392, u393, u394, u395, u396, u397, u398, u399, u400, u401, u402, u403, u404, u405, u406, u407, u408, u409, u410, u411, u412, u413, u414, u415, u416, u417, u418, u419, u420, u421, u422, u423, u424, u425, u426, u427, u428, u429, u430, u431, u432, u433, u434, u435, u436, u437, u438, u439, u440, u441, u442, u443, u444, u445, u446, u447, u448, u449, u450, u451, u452, u453, u454, u455, u456, u457, u458, u459, u460, u461, u462, u463, u464, u465, u466, u467, u468, u469, u470, u471, u472, u473, u474, u475, u476, u477, u478, u479, u480, u481, u482, u483, u484, u485, u486, u487, u488, u489, u490, u491, u492, u493, u494, u495, u496, u497, u498, u499, u500, u501, u502, u503, u504, u505, u506, u507, u508, u509, u510, u511, u512, u513, u514, u515, u516, u517, u518, u519, u520, u521, u522, u523, u524, u525, u526, u527, u528, u529, u530, u531, u532, u533, u534, u535, u536, u537, u538, u539, u540, u541, u542, u543, u544, u545, u546, u547, u548, u549, u550, u551, u552, u553, u554, u555, u556, u557, u558, u559, u560, u561, u562, u563, u564, u565, u566, u567, u568, u569, u570, u571, u572, u573, u574, u575, u576, u577, u578, u579, u580, u581, u582, u583, u584, u585, u586, u587, u588, u589, u590, u591, u592, u593, u594, u595, u596, u597, u598, u599, u600, u601, u602, u603, u604, u605, u606, u607, u608, u609, u610, u611, u612, u613, u614, u615, u616, u617, u618, u619, u620, u621, u622, u623, u624, u625, u626, u627, u628, u629, u630, u631, u632, u633, u634, u635, u636, u637, u638, u639, u640, u641, u642, u643, u644, u645, u646, u647, u648, u649, u650, u651, u652, u653, u654, u655, u656, u657], []⟩ w := by
  obtain ⟨i021, hi21, hz21, hy21, hx21⟩ := info_parts Try.info21
  obtain ⟨W, hWW⟩ : ∃ W, W = w.heap.size := ⟨_, rfl⟩
  have HE : Hid _ := h
  have HD : Hid _ := hd
  have HKE : Hid _ := And.intro hkp hen
  have HC0 : Hid _ := hC
  clear h hd hkp hen hC
  rw [tl3_28]
  refine wp_seq_k (fun K hK => ?_)
  conv => arg 2; whnf
  go_wp2_with (at_make; go_must (refine wpList_make_full _ rfl _ _ 51 rfl W 21 i021 (.int .i32 0) 1 Try.underlying51 hi21 hz21 hy21 .i64 .i64 _ _ C rfl rfl rfl rfl (by rw [hx21]; omega) (by unfold maxLen; omega) (by omega) ?_; intro w1 hown1 hgrow1))
  have hb1 := below_of_grown hgrow1
  have hs1 := hb1.size
  have HO1 : Hid _ := hown1
  have HB1 : Hid _ := hb1
  clear hown1 hgrow1 hb1
  rw [tl3_29]
  refine wp_seq_k (fun K hK => ?_)
  conv => arg 2; whnf
  go_wp2_with (at_make; go_must (refine wpList_make_full _ rfl _ _ 51 rfl W 21 i021 (.int .i32 0) 1 Try.underlying51 hi21 hz21 hy21 .i64 .i64 _ _ C rfl rfl rfl rfl (by rw [hx21]; omega) (by unfold maxLen; omega) (by omega) ?_; intro w2 hown2 hgrow2))
  have hb2 := below_of_grown hgrow2
  have g12 : w.heap.size < w1.heap.size := (row_ge HO1.out).2
  have hownA := row_below HO1.out hb2
  have HO1' : Hid _ := hownA
  have HO2 : Hid _ := hown2
  have HB2 : Hid _ := HB1.out.trans (hb2.mono HB1.out.size)
  subst hWW
  clear hown2 hgrow2 hb2 hownA HO1 HB1 hi21 hz21 hy21 hx21
  go_wp2_with fail
  exact sx30 p w _ _ _ _ _ _ _ _ _ _ _ _ _ _ _ _ _ _ _ _ _ _ _ _ _ _ _ _ _ _ _ _ _ _ _ _ _ _ _ _ _ _ _ _ _ _ _ _ _ _ _ _ _ _ _ _ _ _ _ _ _ _ _ _ _ _ _ _ _ _ _ _ _ _ _ _ _ _ _ _ _ _ _ _ _ _ _ _ _ _ _ _ _ _ _ _ _ _ _ _ _ _ _ _ _ _ _ _ _ _ _ _ _ _ _ _ _ _ _ _ _ _ _ _ _ _ _ _ _ _ _ _ _ _ _ _ _ _ _ _ _ _ _ _ _ _ _ _ _ _ _ _ _ _ _ _ _ _ _ _ _ _ _ _ _ _ _ _ _ _ _ _ _ _ _ _ _ _ _ _ _ _ _ _ _ _ _ _ _ _ _ _ _ _ _ _ _ _ _ _ _ _ _ _ _ _ _ _ _ _ _ _ _ _ _ _ _ _ _ _ _ _ _ _ _ _ _ _ _ _ _ _ _ _ _ _ _ _ _ _ _ _ _ _ _ _ _ _ _ _ _ _ _ _ _ _ _ _ _ _ _ _ _ _ _ _ _ _ _ _ _ _ _ _ _ _ _ _ _ _ _ _ _ _ _ _ _ _ _ _ _ _ _ _ _ _ _ _ _ _ _ _ _ _ _ _ _ _ _ _ _ _ _ _ _ _ _ _ _ _ _ _ _ _ _ _ _ _ _ _ _ _ _ _ _ _ _ _ _ _ _ _ _ _ _ _ _ _ _ _ _ _ _ _ _ _ _ _ _ _ _ _ _ _ _ _ _ _ _ _ _ _ _ _ _ _ _ _ _ _ _ _ _ _ _ _ _ _ _ _ _ _ _ _ _ _ _ _ _ _ _ _ _ _ _ _ _ _ _ _ _ _ _ _ _ _ _ _ _ _ _ _ _ _ _ _ _ _ _ _ _ _ _ _ _ _ _ _ _ _ _ _ _ _ _ _ _ _ _ _ _ _ _ _ _ _ _ _ _ _ _ _ _ _ _ _ _ _ _ _ _ _ _ _ _ _ _ _ _ _ _ _ _ _ _ _ _ _ _ _ _ _ _ _ _ _ _ _ _ _ _ _ _ _ _ _ _ _ _ _ _ _ _ _ _ _ _ _ _ _ _ _ _ _ _ _ _ _ _ _ _ _ _ _ _ _ _ _ _ _ _ _ _ _ _ _ _ _ _ _ _ _ _ _ _ _ _ _ _ _ _ _ _ _ _ _ _ _ _ _ _ _ _ _ _ _ _ _ _ _ _ _ _ _ _ _ _ _ _ _ _ _ _ _ _ _ _ _ _ _ _ _ _ _ _ _ _ _ _ _ _ _ _ _ _ _ _ _ _ _ _ _ _ _ _ _ _ _ _ _ _ _ _ _ _ _ _ _ _ _ _ _ _ _ _ _ _ _ _ _ _ _ _ _ HE.out HD.out HKE.out.1 HKE.out.2 HC0.out hCl HB2.out HO1'.out HO2.out (by omega)

set_option maxRecDepth 100000 in
set_option maxHeartbeats 2000000 in
theorem sx25 {w w0 : World} {B : Nat} (p : SP) (gd gk ge : Nat) (u0 u4 u5 u6 u9 u10 u11 u12 u13 u15 u16 u17 u18 u19 u20 u21 u22 u26 u27 u28 u29 u30 u31 u32 u33 u34 u35 u36 u37 u38 u39 u40 u41 u42 u43 u44 u45 u46 u47 u48 u49 u50 u51 u52 u53 u54 u55 u56 u57 u58 u59 u60 u61 u62 u63 u64 u65 u66 u67 u68 u69 u70 u71 u72 u73 u74 u75 u76 u77 u78 u79 u80 u81 u82 u83 u84 u85 u86 u87 u88 u89 u90 u91 u92 u93 u94 u95 u96 u97 u98 u99 u100 u101 u102 u103 u104 u105 u106 u107 u108 u109 u110 u111 u112 u113 u114 u115 u116 u117 u118 u119 u120 u121 u122 u123 u124 u125 u126 u127 u128 u129 u130 u131 u132 u133 u134 u135 u136 u137 u138 u139 u140 u141 u142 u143 u144 u145 u146 u147 u148 u149 u150 u151 u152 u153 u154 u155 u156 u157 u158 u159 u160 u161 u162 u163 u164 u165 u166 u167 u168 u169 u170 u171 u172 u173 u174 u175 u176 u177 u178 u179 u180 u181 u182 u183 u184 u185 u186 u187 u188 u189 u190 u191 u192 u193 u194 u195 u196 u197 u198 u199 u200 u201 u202 u203 u204 u205 u206 u207 u208 u209 u210 u211 u212 u213 u214 u215 u216 u217 u218 u219 u220 u221 u222 u223 u224 u225 u226 u227 u228 u229 u230 u231 u232 u233 u234 u235 u236 u237 u238 u239 u240 u241 u242 u243 u244 u245 u246 u247 u248 u249 u250 u251 u252 u253 u254 u255 u256 u257 u258 u259 u260 u261 u262 u263 u264 u265 u266 u267 u268 u269 u270 u271 u272 u273 u274 u275 u276 u277 u278 u279 u280 u281 u282 u283 u284 u285 u286 u287 u288 u289 u290 u291 u292 u293 u294 u295 u296 u297 u298 u299 u300 u301 u302 u303 u304 u305 u306 u307 u308 u309 u310 u311 u312 u313 u314 u315 u316 u317 u318 u319 u320 u321 u322 u323 u324 u325 u326 u327 u328 u329 u330 u331 u332 u333 u334 u335 u336 u337 u338 u339 u340 u341 u342 u343 u344 u345 u346 u347 u348 u349 u350 u351 u352 u353 u354 u355 u356 u357 u358 u359 u360 u361 u362 u363 u364 u365 u366 u367 u368 u369 u370 u371 u372 u373 u374 u375 u376 u377 u378 u379 u380 u381 u382 u383 u384 u385 u386 u387 u388 u389 u390 u391 u392 u393 u394 u395 u396 u397 u398 u399 u400 u401 u402 u403 u404 u405 u406 u407 u408 u409 u410 u411 u412 u413 u414 u415 u416 u417 u418 u419 u420 u421 u422 u423 u424 u425 u426 u427 u428 u429 u430 u431 u432 u433 u434 u435 u436 u437 u438 u439 u440 u441 u442 u443 u444 u445 u446 u447 u448 u449 u450 u451 u452 u453 u454 u455 u456 u457 u458 u459 u460 u461 u462 u463 u464 u465 u466 u467 u468 u469 u470 u471 u472 u473 u474 u475 u476 u477 u478 u479 u480 u481 u482 u483 u484 u485 u486 u487 u488 u489 u490 u491 u492 u493 u494 u495 u496 u497 u498 u499 u500 u501 u502 u503 u504 u505 u506 u507 u508 u509 u510 u511 u512 u513 u514 u515 u516 u517 u518 u519 u520 u521 u522 u523 u524 u525 u526 u527 u528 u529 u530 u531 u532 u533 u534 u535 u536 u537 u538 u539 u540 u541 u542 u543 u544 u545 u546 u547 u548 u549 u550 u551 u552 u553 u554 u555 u556 u557 u558 u559 u560 u561 u562 u563 u564 u565 u566 u567 u568 u569 u570 u571 u572 u573 u574 u575 u576 u577 u578 u579 u580 u581 u582 u583 u584 u585 u586 u587 u588 u589 u590 u591 u592 u593 u594 u595 u596 u597 u598 u599 u600 u601 u602 u603 u604 u605 u606 u607 u608 u609 u610 u611 u612 u613 u614 u615 u616 u617 u618 u619 u620 u621 u622 u623 u624 u625 u626 u627 u628 u629 u630 u631 u632 u633 u634 u635 u636 u637 u638 u639 u640 u641 u642 u643 u644 u645 u646 u647 u648 u649 u650 u651 u652 u653 u654 u655 u656 u657 : Value)
    (h : Env w0 B w p) (hd : ∀ j, j < p.S.length → w.cell? ⟨gd, j, none⟩ = some (.bool (p.dr j))) (hkp : ∀ j, j < p.lim → w.cell? ⟨gk, j, none⟩ = some (.bool (p.fr j))) (hen : ∀ j, j < p.lim → p.fr j = true → w.cell? ⟨ge, j, none⟩ = some (.int .i32 ((p.R j).length : Nat))) :
    Code.wp Try.prog (tl Try.f3 25) (QT Try.f3 B w0) ⟨#[u0, .slice p.sa p.S.length p.sc, .int .i32 p.probe, .pointer (some ⟨p.bst, 0, none⟩), u4, u5, u6, .int .i64 p.S.length, .pointer (some ⟨p.cb, 0, none⟩), u9, u10, u11, u12, u13, .slice (some ⟨gd, 0, none⟩) p.S.length p.S.length, u15, u16, u17, u18, u19, u20, u21, u22, .int .i64 p.lim, .slice (some ⟨gk, 0, none⟩) p.S.length p.S.length, .slice (some ⟨ge, 0, none⟩) p.S.length p.S.length, u26, u27, u28, u29, u30, u31, u32, u33, u34, u35, u36, u37, u38, u39, u40, u41, u42, u43, u44, u45, u46, u47, u48, u49, u50, u51, u52, u53, u54, u55, u56, u57, u58, u59, u60, u61, u62, u63, u64, u65, u66, u67, u68, u69, u70, u71, u72, u73, u74, u75, u76, u77, u78, u79, u80, u81, u82, u83, u84, u85, u86, u87, u88, u89, u90, u91, u92, u93, u94, u95, u96, u97, u98, u99, u100, u101, u102, u103, u104, u105, u106, u107, u108, u109, u110, u111, u112, u113, u114, u115, u116, u117, u118, u119, u120, u121, u122, u123, u124, u125, u126, u127, u128, u129, u130, u131, u132, u133, u134, u135, u136, u137, u138, u139, u140, u141, u142, u143, u144, u145, u146, u147, u148, u149, u150, u151, u152, u153, u154, u155, u156, u157, u158, u159, u160, u161, u162, u163, u164, u165, u166, u167, u168, u169, u170, u171, u172, u173, u174, u175, u176, u177, u178, u179, u180, u181, u182, u183, u184, u185, u186, u187, u188, u189, u190, u191, u192, u193, u194, u195, u196, u197, u198, u199, u200, u201, u202, u203, u204, u205, u206, u207, u208, u209, u210, u211, u212, u213, u214, u215, u216, u217, u218, u219, u220, u221, u222, u223, u224, u225, u226, u227, u228, u229, u230, u231, u232, u233, u234, u235, u236, u237, u238, u239, u240, u241, u242, u243, u244, u245, u246, u247, u248, u249, u250, u251, u252, u253, u254, u255, u256, u257, u258, u259, u260, u261, u262, u263, u264, u265, u266, u267, u268, u269, u270, u271, u272, u273, u274, u275, u276, u277, u278, u279, u280, u281, u282, u283, u284, u285, u286, u287, u288, u289, u290, u291, u292, u293, u294, u295, u296, u297, u298, u299, u300, u301, u302, u303, u304, u305, u306, u307, u308, u309, u310, u311, u312, u313, u314, u315, u316, u317, u318, u319, u320, u321, u322, u323, u324, u325, u326, u327, u328, u329, u330, u331, u332, u333, u334, u335, u336, u337, u338, u339, u340, u341, u342, u343, u344, u345, u346, u347, u348, u349, u350, u351, u352, u353, u354, u355, u356, u357, u358, u359, u360, u361, u362, u363, u364, u365, u366, u367, u368, u369, u370, u371, u372, u373, u374, u375, u376, u377, u378, u379, u380, u381, u382, u383, u384, u385, u386, u387, u388, u389, u390, u391, u392, u393, u394, u395, u396, u397, u398, u399, u400, u401, u402, u403, u404, u405, u406, u407, u408, u409, u410, u411, u412, u413, u414, u415, u416, u417, u418, u419, u420, u421, u422, u423, u424, u425, u426, u427, u428, u429, u430, u431, u432, u433, u434, u435, u436, u437, u438, u439, u440, u441, u442, u443, u444, u445, u446, u447, u448, u449, u450, u451, u452, u453, u454, u455, u456, u457, u458, u459, u460, u461, u462, u463, u464, u465, u466, u467, u468, u469, u470, u471, u472, u473, u474, u475, u476, u477, u478, u479, u480, u481, u482, u483, u484, u485, u486, u487, u488, u489, u490, u491, u492, u493, u494, u495, u496, u497, u498, u499, u500, u501, u502, u503, u504, u505, u506, u507, u508, u509, u510, u511, u512, u513, u514, u515, u516, u517, u518, u519, u520, u521, u522, u523, u524, u525, u526, u527, u528, u529, u530, u531, u532, u533, u534, u535, u536, u537, u538, u539, u540, u541, u542, u543, u544, u545, u546, u547, u548, u549, u550, u551, u552, u553, u554, u555, u556, u557, u558, u559, u560, u561, u562, u563, u564, u565, u566, u567, u568, u569, u570, u571, u572, u573, u574, u575, u576, u577, u578, u579, u580, u581, u582, u583, u584, u585, u586, u587, u588, u589, u590, u591, u592, u593, u594, u595, u596, u597, u598, u599, u600, u601, u602, u603, u604, u605, u606, u607, u608, u609, u610, u611, u612, u613, u614, u615, u616, u617, u618, u619, u620, u621, u622, u623, u624, u625, u626, u627, u628, u629, u630, u631, u632, u633, u634, u635, u636, u637, u638, u639, u640, u641, u642, u643, u644, u645, u646, u647, u648, u649, u650, u651, u652, u653, u654, u655, u656, u657], []⟩ w := by
  have k1 := h.base.k1
  have hn := h.pl.dom.n
  have hcl := SP.clen_le h.pl
  have hIl := SP.Ilen h.pl
  have hc := h.itemsLen
  have HE : Hid _ := h
  have HD : Hid _ := hd
  have HKE : Hid _ := And.intro hkp hen
  have HCL : Hid _ := hcl
  have HIL : Hid _ := hIl
  have HC : Hid _ := hc
  clear h hd hkp hen hcl hIl hc
  rw [tl3_25]
  refine wp_seq_k (fun K hK => ?_)
  conv => arg 2; whnf
  go_wp2_with fail
  rw [tl3_26]
  refine wp_seq_k (fun K hK => ?_)
  conv => arg 2; whnf
  go_wp2_with fail
  go_loop [41, 42] (fun z i => ∃ k : Nat, k ≤ p.S.length ∧ i = .int .i64 k ∧ z = .int .i64 (clen p.I0.length p.S k)) (fun _ i => p.S.length - (intOf i).toNat)
  case atStart => exact ⟨0, by omega, rfl, rfl⟩
  case round =>
    obtain ⟨k, hk, rfl, rfl⟩ := hrel
    by_cases hlt : k < p.S.length
    · have hlt' : (k : Int) < (p.S.length : Int) := by omega
      have hlt0 : (0 : Int) ≤ (k : Int) := by omega
      obtain ⟨sb, so, es, _, _, _, _, _, _, a6, _⟩ := step_cell HE.out.base.ss hlt
      rw [es]
      obtain ⟨⟨i1, i2⟩, _⟩ := HE.out.pl.rg k hlt
      have hck := HCL.out k (by omega)
      have hcs : clen p.I0.length p.S (k + 1) = if (p.S.getD k e0).item = (clen p.I0.length p.S k : Int) then clen p.I0.length p.S k + 1 else clen p.I0.length p.S k := rfl
      by_cases hx : (p.S.getD k e0).item = (clen p.I0.length p.S k : Int)
      · rw [if_pos hx] at hcs
        have HCS : Hid _ := hcs
        have hx' : ((p.S.getD k e0).item == (clen p.I0.length p.S k : Int)) = true := by simpa using hx
        clear hcs hx HE HD HKE HCL HIL HC
        generalize p.S.getD k e0 = gs at *
        generalize clen p.I0.length p.S k = cl at *
        go_wp2_with fail
        go_round
        case rel => exact ⟨k + 1, by omega, by go_num, by rw [HCS.out]; go_num⟩
        case measure => simp [intOf]; omega
      · rw [if_neg hx] at hcs
        have HCS : Hid _ := hcs
        have hx' : ((p.S.getD k e0).item == (clen p.I0.length p.S k : Int)) = false := by simpa using hx
        clear hcs hx HE HD HKE HCL HIL HC
        generalize p.S.getD k e0 = gs at *
        generalize hcl : clen p.I0.length p.S k = cl at *
        go_wp2_with fail
        go_round
        case rel => exact ⟨k + 1, by omega, by go_num, by rw [HCS.out]⟩
        case measure => simp [intOf]; omega
    · obtain rfl : k = p.S.length := by omega
      have hcl := HCL.out p.S.length (Nat.le_refl _)
      rw [HIL.out] at HC
      have HIL2 : Hid _ := HIL.out.symm
      clear HIL HCL
      generalize clen p.I0.length p.S p.S.length = cl at *
      go_wp2_with fail
      rw [tl3_27]
      refine wp_seq_k (fun K hK => ?_)
      conv => arg 2; whnf
      go_wp2_with fail
      refine Calls.mono HC.out ?_
      rintro e w2 ⟨rfl, hw2⟩
      have hw2 := hw2.symm
      subst hw2
      clear HC
      go_wp2_with fail
      exact sx28 p _ _ _ _ _ _ _ _ _ _ _ _ _ _ _ _ _ _ _ _ _ _ _ _ _ _ _ _ _ _ _ _ _ _ _ _ _ _ _ _ _ _ _ _ _ _ _ _ _ _ _ _ _ _ _ _ _ _ _ _ _ _ _ _ _ _ _ _ _ _ _ _ _ _ _ _ _ _ _ _ _ _ _ _ _ _ _ _ _ _ _ _ _ _ _ _ _ _ _ _ _ _ _ _ _ _ _ _ _ _ _ _ _ _ _ _ _ _ _ _ _ _ _ _ _ _ _ _ _ _ _ _ _ _ _ _ _ _ _ _ _ _ _ _ _ _ _ _ _ _ _ _ _ _ _ _ _ _ _ _ _ _ _ _ _ _ _ _ _ _ _ _ _ _ _ _ _ _ _ _ _ _ _ _ _ _ _ _ _ _ _ _ _ _ _ _ _ _ _ _ _ _ _ _ _ _ _ _ _ _ _ _ _ _ _ _ _ _ _ _ _ _ _ _ _ _ _ _ _ _ _ _ _ _ _ _ _ _ _ _ _ _ _ _ _ _ _ _ _ _ _ _ _ _ _ _ _ _ _ _ _ _ _ _ _ _ _ _ _ _ _ _ _ _ _ _ _ _ _ _ _ _ _ _ _ _ _ _ _ _ _ _ _ _ _ _ _ _ _ _ _ _ _ _ _ _ _ _ _ _ _ _ _ _ _ _ _ _ _ _ _ _ _ _ _ _ _ _ _ _ _ _ _ _ _ _ _ _ _ _ _ _ _ _ _ _ _ _ _ _ _ _ _ _ _ _ _ _ _ _ _ _ _ _ _ _ _ _ _ _ _ _ _ _ _ _ _ _ _ _ _ _ _ _ _ _ _ _ _ _ _ _ _ _ _ _ _ _ _ _ _ _ _ _ _ _ _ _ _ _ _ _ _ _ _ _ _ _ _ _ _ _ _ _ _ _ _ _ _ _ _ _ _ _ _ _ _ _ _ _ _ _ _ _ _ _ _ _ _ _ _ _ _ _ _ _ _ _ _ _ _ _ _ _ _ _ _ _ _ _ _ _ _ _ _ _ _ _ _ _ _ _ _ _ _ _ _ _ _ _ _ _ _ _ _ _ _ _ _ _ _ _ _ _ _ _ _ _ _ _ _ _ _ _ _ _ _ _ _ _ _ _ _ _ _ _ _ _ _ _ _ _ _ _ _ _ _ _ _ _ _ _ _ _ _ _ _ _ _ _ _ _ _ _ _ _ _ _ _ _ _ _ _ _ _ _ _ _ _ _ _ _ _ _ _ _ _ _ _ _ _ _ _ _ _ _ _ _ _ _ _ _ _ _ _ _ _ _ _ _ _ _ _ _ _ _ _ _ _ _ _ _ _ _ _ _ _ _ _ _ _ _ _ _ _ _ _ _ _ _ _ _ _ _ _ _ _ _ _ _ _ _ _ _ _ _ _ _ _ _ _ _ HE.out HD.out HKE.out.1 HKE.out.2 HIL2.out hcl

end Go.Proofs.Qxb6625890a
