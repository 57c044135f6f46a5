/-
  Seat b6625890a: the law FnReadScriptMatchesFirstFailureModel, which reads break a class. Frames written by program.
-/
import Derived.Test.Qxb6625890aBK
namespace Go.Proofs.Qxb6625890a
open Go.RowKit Go.Maps
set_option linter.unusedVariables false

def SP.ff (p : SP) (c i : Nat) : Nat := ffw (wS p.ends p.I0 p.S c) p.S.length i
theorem SP.ff_succ {p : SP} (c i : Nat) : p.ff c (i + 1) = if wS p.ends p.I0 p.S c i = true ∧ p.ff c i = p.S.length then i else p.ff c i := rfl
theorem SP.w1 {p : SP} (i : Nat) : wS p.ends p.I0 p.S 1 i = p.dr i := by
  unfold wS wantB SP.dr
  cases cfS p.ends p.I0 p.S i <;> cases drS p.ends p.S i <;> rfl
theorem SP.w3 {p : SP} (i : Nat) : wS p.ends p.I0 p.S 3 i = (p.dr i || p.cf i) := by
  unfold wS wantB SP.dr SP.cf
  cases cfS p.ends p.I0 p.S i <;> cases drS p.ends p.S i <;> rfl
theorem SP.ff_le {p : SP} (c i : Nat) (h : i ≤ p.S.length) : p.ff c i ≤ p.S.length := ffw_le _ _ _ h
theorem tl3_9 : tl Try.f3 9 = Code.seq (st Try.f3 9) (tl Try.f3 10) := by kernel_rfl
theorem tl3_10 : tl Try.f3 10 = Code.seq (st Try.f3 10) (tl Try.f3 11) := by kernel_rfl
theorem tl3_11 : tl Try.f3 11 = Code.seq (st Try.f3 11) (tl Try.f3 12) := by kernel_rfl
theorem tl3_12 : tl Try.f3 12 = Code.seq (st Try.f3 12) (tl Try.f3 13) := by kernel_rfl
theorem tl3_13 : tl Try.f3 13 = Code.seq (st Try.f3 13) (tl Try.f3 14) := by kernel_rfl

set_option maxRecDepth 100000 in
set_option maxHeartbeats 2000000 in
theorem sx13 {w w0 : World} {B : Nat} (p : SP) (wE : World) (gc gd : Nat) (xs ys : List Value) (u0 u4 u5 u6 u10 u11 u12 u17 u18 u19 u20 u21 u22 u23 u24 u25 u26 u27 u28 u29 u30 u31 u32 u33 u34 u35 u36 u37 u38 u39 u40 u41 u42 u43 u44 u45 u46 u47 u48 u49 u50 u51 u52 u53 u54 u55 u56 u57 u58 u59 u60 u61 u62 u63 u64 u65 u66 u67 u68 u69 u70 u71 u72 u73 u74 u75 u76 u77 u78 u79 u80 u81 u82 u83 u84 u85 u86 u87 u88 u89 u90 u91 u92 u93 u94 u95 u96 u97 u98 u99 u100 u101 u102 u103 u104 u105 u106 u107 u108 u109 u110 u111 u112 u113 u114 u115 u116 u117 u118 u119 u120 u121 u122 u123 u124 u125 u126 u127 u128 u129 u130 u131 u132 u133 u134 u135 u136 u137 u138 u139 u140 u141 u142 u143 u144 u145 u146 u147 u148 u149 u150 u151 u152 u153 u154 u155 u156 u157 u158 u159 u160 u161 u162 u163 u164 u165 u166 u167 u168 u169 u170 u171 u172 u173 u174 u175 u176 u177 u178 u179 u180 u181 u182 u183 u184 u185 u186 u187 u188 u189 u190 u191 u192 u193 u194 u195 u196 u197 u198 u199 u200 u201 u202 u203 u204 u205 u206 u207 u208 u209 u210 u211 u212 u213 u214 u215 u216 u217 u218 u219 u220 u221 u222 u223 u224 u225 u226 u227 u228 u229 u230 u231 u232 u233 u234 u235 u236 u237 u238 u239 u240 u241 u242 u243 u244 u245 u246 u247 u248 u249 u250 u251 u252 u253 u254 u255 u256 u257 u258 u259 u260 u261 u262 u263 u264 u265 u266 u267 u268 u269 u270 u271 u272 u273 u274 u275 u276 u277 u278 u279 u280 u281 u282 u283 u284 u285 u286 u287 u288 u289 u290 u291 u292 u293 u294 u295 u296 u297 u298 u299 u300 u301 u302 u303 u304 u305 u306 u307 u308 u309 u310 u311 u312 u313 u314 u315 u316 u317 u318 u319 u320 u321 u322 u323 u324 u325 u326 u327 u328 u329 u330 u331 u332 u333 u334 u335 u336 u337 u338 u339 u340 u341 u342 u343 u344 u345 u346 u347 u348 u349 u350 u351 u352 u353 u354 u355 u356 u357 u358 u359 u360 u361 u362 u363 u364 u365 u366 u367 u368 u369 u370 u371 u372 u373 u374 u375 u376 u377 u378 u379 u380 u381 u382 u383 u384 u385 u386 u387 u388 u389 u390 u391 u392 u393 u394 u395 u396 u397 u398 u399 u400 u401 u402 u403 u404 u405 u406 u407 u408 u409 u410 u411 u412 u413 u414 u415 u416 u417 u418 u419 u420 u421 u422 u423 u424 u425 u426 u427 u428 u429 u430 u431 u432 u433 u434 u435 u436 u437 u438 u439 u440 u441 u442 u443 u444 u445 u446 u447 u448 u449 u450 u451 u452 u453 u454 u455 u456 u457 u458 u459 u460 u461 u462 u463 u464 u465 u466 u467 u468 u469 u470 u471 u472 u473 u474 u475 u476 u477 u478 u479 u480 u481 u482 u483 u484 u485 u486 u487 u488 u489 u490 u491 u492 u493 u494 u495 u496 u497 u498 u499 u500 u501 u502 u503 u504 u505 u506 u507 u508 u509 u510 u511 u512 u513 u514 u515 u516 u517 u518 u519 u520 u521 u522 u523 u524 u525 u526 u527 u528 u529 u530 u531 u532 u533 u534 u535 u536 u537 u538 u539 u540 u541 u542 u543 u544 u545 u546 u547 u548 u549 u550 u551 u552 u553 u554 u555 u556 u557 u558 u559 u560 u561 u562 u563 u564 u565 u566 u567 u568 u569 u570 u571 u572 u573 u574 u575 u576 u577 u578 u579 u580 u581 u582 u583 u584 u585 u586 u587 u588 u589 u590 u591 u592 u593 u594 u595 u596 u597 u598 u599 u600 u601 u602 u603 u604 u605 u606 u607 u608 u609 u610 u611 u612 u613 u614 u615 u616 u617 u618 u619 u620 u621 u622 u623 u624 u625 u626 u627 u628 u629 u630 u631 u632 u633 u634 u635 u636 u637 u638 u639 u640 u641 u642 u643 u644 u645 u646 u647 u648 u649 u650 u651 u652 u653 u654 u655 u656 u657 : Value)
    (h : Env w0 B wE p) (hbE : Below wE.heap.size wE w) (r1 : w.ownsRow wE.heap.size 4 1 (.slice (some ⟨gc, 0, none⟩) p.S.length p.S.length) p.S.length xs) (r2 : w.ownsRow wE.heap.size 4 1 (.slice (some ⟨gd, 0, none⟩) p.S.length p.S.length) p.S.length ys) (n12 : gc ≠ gd) :
    Code.wp Try.prog (tl Try.f3 13) (QT Try.f3 B w0) ⟨#[u0, .slice p.sa p.S.length p.sc, .int .i32 p.probe, .pointer (some ⟨p.bst, 0, none⟩), u4, u5, u6, .int .i64 p.S.length, .pointer (some ⟨p.cb, 0, none⟩), .pointer (some ⟨p.bf, 0, none⟩), u10, u11, u12, .slice (some ⟨gc, 0, none⟩) p.S.length p.S.length, .slice (some ⟨gd, 0, none⟩) p.S.length p.S.length, .int .i64 p.S.length, .int .i64 p.S.length, u17, u18, u19, u20, u21, u22, u23, u24, u25, u26, u27, u28, u29, u30, u31, u32, u33, u34, u35, u36, u37, u38, u39, u40, u41, u42, u43, u44, u45, u46, u47, u48, u49, u50, u51, u52, u53, u54, u55, u56, u57, u58, u59, u60, u61, u62, u63, u64, u65, u66, u67, u68, u69, u70, u71, u72, u73, u74, u75, u76, u77, u78, u79, u80, u81, u82, u83, u84, u85, u86, u87, u88, u89, u90, u91, u92, u93, u94, u95, u96, u97, u98, u99, u100, u101, u102, u103, u104, u105, u106, u107, u108, u109, u110, u111, u112, u113, u114, u115, u116, u117, u118, u119, u120, u121, u122, u123, u124, u125, u126, u127, u128, u129, u130, u131, u132, u133, u134, u135, u136, u137, u138, u139, u140, u141, u142, u143, u144, u145, u146, u147, u148, u149, u150, u151, u152, u153, u154, u155, u156, u157, u158, u159, u160, u161, u162, u163, u164, u165, u166, u167, u168, u169, u170, u171, u172, u173, u174, u175, u176, u177, u178, u179, u180, u181, u182, u183, u184, u185, u186, u187, u188, u189, u190, u191, u192, u193, u194, u195, u196, u197, u198, u199, u200, u201, u202, u203, u204, u205, u206, u207, u208, u209, u210, u211, u212, u213, u214, u215, u216, u217, u218, u219, u220, u221, u222, u223, u224, u225, u226, u227, u228, u229, u230, u231, u232, u233, u234, u235, u236, u237, u238, u239, u240, u241, u242, u243, u244, u245, u246, u247, u248, u249, u250, u251, u252, u253, u254, u255, u256, u257, u258, u259, u260, u261, u262, u263, u264, u265, u266, u267, u268, u269, u270, u271, u272, u273, u274, u275, u276, u277, u278, u279, u280, u281, u282, u283, u284, u285, u286, u287, u288, u289, u290, u291, u292, u293, u294, u295, u296, u297, u298, u299, u300, u301, u302, u303, u304, u305, u306, u307, u308, u309, u310, u311, u312, u313, u314, u315, u316, u317, u318, u319, u320, u321, u322, u323, u324, u325, u326, u327, u328, u329, u330, u331, u332, u333, u334, u335, u336, u337, u338, u339, u340, u341, u342, u343, u344, u345, u346, u347, u348, u349, u350, u351, u352, u353, u354, u355, u356, u357, u358, u359, u360, u361, u362, u363, u364, u365, u366, u367, u368, u369, u370, u371, u372, u373, u374, u375, u376, u377, u378, u379, u380, u381, u382, u383, u384, u385, u386, u387, u388, u389, u390, u391, u392, u393, u394, u395, u396, u397, u398, u399, u400, u401, u402, u403, u404, u405, u406, u407, u408, u409, u410, u411, u412, u413, u414, u415, u416, u417, u418, u419, u420, u421, u422, u423, u424, u425, u426, u427, u428, u429, u430, u431, u432, u433, u434, u435, u436, u437, u438, u439, u440, u441, u442, u443, u444, u445, u446, u447, u448, u449, u450, u451, u452, u453, u454, u455, u456, u457, u458, u459, u460, u461, u462, u463, u464, u465, u466, u467, u468, u469, u470, u471, u472, u473, u474, u475, u476, u477, u478, u479, u480, u481, u482, u483, u484, u485, u486, u487, u488, u489, u490, u491, u492, u493, u494, u495, u496, u497, u498, u499, u500, u501, u502, u503, u504, u505, u506, u507, u508, u509, u510, u511, u512, u513, u514, u515, u516, u517, u518, u519, u520, u521, u522, u523, u524, u525, u526, u527, u528, u529, u530, u531, u532, u533, u534, u535, u536, u537, u538, u539, u540, u541, u542, u543, u544, u545, u546, u547, u548, u549, u550, u551, u552, u553, u554, u555, u556, u557, u558, u559, u560, u561, u562, u563, u564, u565, u566, u567, u568, u569, u570, u571, u572, u573, u574, u575, u576, u577, u578, u579, u580, u581, u582, u583, u584, u585, u586, u587, u588, u589, u590, u591, u592, u593, u594, u595, u596, u597, u598, u599, u600, u601, u602, u603, u604, u605, u606, u607, u608, u609, u610, u611, u612, u613, u614, u615, u616, u617, u618, u619, u620, u621, u622, u623, u624, u625, u626, u627, u628, u629, u630, u631, u632, u633, u634, u635, u636, u637, u638, u639, u640, u641, u642, u643, u644, u645, u646, u647, u648, u649, u650, u651, u652, u653, u654, u655, u656, u657], []⟩ w := by
  have hn := h.pl.dom.n
  have HE : Hid _ := h
  have HBE : Hid _ := hbE
  have HRW : Hid _ := And.intro r1 r2
  have g1 := (row_ge r1).1
  have g2 := (row_ge r2).1
  clear h hbE r1 r2
  rw [tl3_13]
  refine wp_seq_k (fun K hK => ?_)
  conv => arg 2; whnf
  go_wp2_with fail
  go_loopw [15, 16, 17] (fun fc fs i wr => ∃ (k : Nat) (xs ys : List Value), k ≤ p.S.length ∧ i = .int .i64 k ∧ fc = .int .i64 (p.ff 1 k : Nat) ∧ fs = .int .i64 (p.ff 3 k : Nat) ∧ wr.ownsRow wE.heap.size 4 1 (.slice (some ⟨gc, 0, none⟩) p.S.length p.S.length) p.S.length xs ∧ wr.ownsRow wE.heap.size 4 1 (.slice (some ⟨gd, 0, none⟩) p.S.length p.S.length) p.S.length ys ∧ (∀ j, j < k → ys[j]? = some (.bool (p.dr j))) ∧ Below wE.heap.size wE wr) (fun _ _ i _ => p.S.length - (intOf i).toNat)
  case atStart => exact ⟨0, xs, ys, by omega, rfl, rfl, rfl, HRW.out.1, HRW.out.2, fun j hj => (by omega), HBE.out⟩
  case round =>
    obtain ⟨k, xs, ys, hk, rfl, rfl, rfl, r1, r2, hy, hbr⟩ := hrel
    clear HRW HBE
    have HBR : Hid _ := hbr
    have HRW : Hid _ := And.intro r1 r2
    have HY : Hid _ := hy
    have hff1 := SP.ff_le (p := p) 1 k hk
    have hff3 := SP.ff_le (p := p) 3 k hk
    by_cases hlt : k < p.S.length
    · have hlt' : (k : Int) < (p.S.length : Int) := by omega
      have hlt0 : (0 : Int) ≤ (k : Int) := by omega
      have hpl := HE.out.pl
      obtain ⟨im, him⟩ := toNat_of (hpl.dom.ok k hlt).1
      obtain ⟨⟨i1, i2⟩, ⟨j1, j2⟩⟩ := hpl.rg k hlt
      rw [him] at i1 i2
      have hii := hpl.dom.len.i
      have hee := hpl.dom.len.e
      have hsr := hpl.dom.s k hlt
      obtain ⟨sb, so, es, a0, a1, a2, a3, a4, a5, a6, a7⟩ := step_cell (Sl.below HE.out.base.ss hbr) hlt
      rw [him] at a6
      rw [es]
      have hcf : p.cf k = conf p.ends (p.I0.getD (p.S.getD k e0).item.toNat (-1, -1)).1 (p.S.getD k e0).t := rfl
      have hdr : p.dr k = drt p.ends (p.S.getD k e0).src (p.S.getD k e0).t := rfl
      rw [show (p.S.getD k e0).item.toNat = im by omega] at hcf
      have hF1 := SP.ff_succ (p := p) 1 k
      have hF3 := SP.ff_succ (p := p) 3 k
      rw [SP.w1] at hF1
      rw [SP.w3] at hF3
      obtain ⟨gs, hgs⟩ : ∃ gs, p.S.getD k e0 = gs := ⟨_, rfl⟩
      rw [hgs] at a0 a1 a2 a3 a4 a5 a7 hcf hdr hsr j1 j2
      obtain ⟨cfv, hcv⟩ : ∃ v, p.cf k = v := ⟨_, rfl⟩
      obtain ⟨drv, hdv⟩ : ∃ v, p.dr k = v := ⟨_, rfl⟩
      rw [hcv] at hcf hF3
      rw [hdv] at hdr hF1 hF3
      obtain ⟨wv, hwv⟩ : ∃ wv, (p.I0.getD im (-1, -1)).1 = wv := ⟨_, rfl⟩
      rw [hwv] at hcf
      have hwl : wv < p.ends.length := by
        rw [← hwv]
        by_cases e : im < p.I0.length
        · rw [getD_any e (-1, -1) (0, 0)]; exact hpl.dom.st.wr im e
        · rw [List.getD_eq_getElem?_getD, List.getElem?_eq_none (by omega : p.I0.length ≤ im)]
          show (-1 : Int) < _
          omega
      have HCF : Hid (cfv = conf p.ends wv gs.t) := hcf
      have HDR : Hid (drv = drt p.ends gs.src gs.t) := hdr
      have HF1 : Hid (p.ff 1 (k + 1) = if drv = true ∧ p.ff 1 k = p.S.length then k else p.ff 1 k) := hF1
      have HF3 : Hid (p.ff 3 (k + 1) = if (drv || cfv) = true ∧ p.ff 3 k = p.S.length then k else p.ff 3 k) := hF3
      have HWV : Hid _ := hwv
      have HDV : Hid _ := hdv
      have HSR : Hid _ := hsr
      have hb1 : Below wr.heap.size wr (wr.alloc (.cells #[.int .u8 gs.kd, .int .i64 gs.tx, .string gs.it, .int .i64 gs.so, .bool gs.hs, .int .i32 gs.t, .int .i32 (im : Int), .int .i32 gs.src] 41)) := (Below.refl _ _).alloc (Nat.le_refl _) _
      have hn1 : (wr.alloc (.cells #[.int .u8 gs.kd, .int .i64 gs.tx, .string gs.it, .int .i64 gs.so, .bool gs.hs, .int .i32 gs.t, .int .i32 (im : Int), .int .i32 gs.src] 41)).heap[wr.heap.size]? = some (.cells #[.int .u8 gs.kd, .int .i64 gs.tx, .string gs.it, .int .i64 gs.so, .bool gs.hs, .int .i32 gs.t, .int .i32 (im : Int), .int .i32 gs.src] 41 (0, 0)) := heap_alloc_new wr _
      have HB1 : Hid _ := hb1
      have HN1 : Hid _ := hn1
      have lt1 := (row_ge r1).2
      have lt2 := (row_ge r2).2
      have lt1 : gc < wr.heap.size := lt1
      have lt2 : gd < wr.heap.size := lt2
      clear hb1 hn1 hbr r1 r2 hy hpl him hgs hcf hdr hF1 hF3 hcv hdv hwv hsr es
      obtain ⟨wr1, hw1⟩ : ∃ wr1, wr1 = wr.alloc (.cells #[.int .u8 gs.kd, .int .i64 gs.tx, .string gs.it, .int .i64 gs.so, .bool gs.hs, .int .i32 gs.t, .int .i32 (im : Int), .int .i32 gs.src] 41) := ⟨_, rfl⟩
      have HW1 : Hid _ := hw1
      rw [← hw1] at HB1 HN1
      go_upto_region 26 with fail
      rw [← HW1.out]
      clear HW1 hw1 a0 a1 a2 a3 a4 a5 a6 a7
      have b5 : wr1.cell? ⟨wr.heap.size, 5, none⟩ = some (.int .i32 gs.t) := cell_blk HN1.out rfl
      have b6 : wr1.cell? ⟨wr.heap.size, 6, none⟩ = some (.int .i32 (im : Int)) := cell_blk HN1.out rfl
      have b7 : wr1.cell? ⟨wr.heap.size, 7, none⟩ = some (.int .i32 gs.src) := cell_blk HN1.out rfl
      have hbE1 := HBR.out.trans (HB1.out.mono HBR.out.size)
      have HBE1 : Hid _ := hbE1
      have k1 := (HE.out.grown hbE1).base.k1
      clear hbE1
      go_upto_if 127 with fail
      go_cut [19] from 112 to 201 (fun s19 wc => s19 = .int .i32 wv ∧ wc = wr1)
      case first =>
        have hwv := HWV.out
        by_cases hin : im < p.I0.length
        · have hin' : (im : Int) < (p.I0.length : Int) := by omega
          have him0 : (0 : Int) ≤ (im : Int) := by omega
          obtain ⟨ib, io, ei, c1, c2⟩ := item_cell (HE.out.grown HBE1.out).base.s1 hin
          rw [ei] at k1
          rw [getD_any hin (0, 0) (-1, -1), hwv] at c1
          clear HE HBR HRW HY HCF HDR HF1 HF3 hwv
          go_wp2_with fail
          go_meet
          case rel => exact ⟨rfl, rfl⟩
        · have hin' : ¬ ((im : Int) < (p.I0.length : Int)) := by omega
          have hq : p.I0.getD im (-1, -1) = (-1, -1) := by rw [List.getD_eq_getElem?_getD, List.getElem?_eq_none (by omega : p.I0.length ≤ im)]; rfl
          rw [hq] at hwv
          have HQ : Hid _ := hwv
          clear HE HBR HRW HY HCF HDR HF1 HF3 hq hwv
          go_wp2_with fail
          go_meet
          case rel => exact ⟨congrArg (Value.int .i32) HQ.out, rfl⟩
      case rest =>
        obtain ⟨rfl, hwc⟩ := hcut
        have hwc := hwc.symm
        subst hwc
        clear k1
        have r1 := row_below HRW.out.1 HB1.out
        have r2 := row_below HRW.out.2 HB1.out
        obtain ⟨y1, c1⟩ := row_one r1 hlt
        have z1 := r1.frozenAt k
        have HR4 : Hid _ := And.intro r1 r2
        clear r1 r2
        go_upto_region 29 with fail
        go_cut [19] from 112 to 201 (fun s19 wc => s19 = .int .i32 wv ∧ wc = wr1.setCell ⟨gc, k, none⟩ (.bool cfv))
        case first =>
          have k0 := (HE.out.grown HBE1.out).base.k0
          have HS0 : Hid _ := (HE.out.grown HBE1.out).base.s0
          have hcf := HCF.out
          clear HE HBR HRW HY HDR HF1 HF3 HCF
          by_cases h0 : 0 ≤ wv
          · by_cases h1 : wv = gs.t
            · have hv : cfv = false := by rw [hcf, h1]; simp [conf]
              have HV : Hid _ := hv
              rw [← h1] at b5
              clear hcf h1 HS0 hv
              go_wp2_with fail
              go_meet
              case rel => exact ⟨rfl, by rw [HV.out]⟩
            · obtain ⟨nn, e⟩ := toNat_of h0
              subst e
              have hnl : nn < p.ends.length := by omega
              have hnl' : (nn : Int) < (p.ends.length : Int) := by omega
              have h1' : ((nn : Int) != gs.t) = true := by simpa using h1
              obtain ⟨eb, eo, ee, ce⟩ := byte_cell HS0.out hnl
              rw [ee] at k0
              have hv : cfv = (p.ends.getD nn 0 == 0) := by rw [hcf]; unfold conf; rw [Int.toNat_natCast, h1']; simp
              have HV : Hid _ := hv
              clear hcf h1 HS0 ee hv
              generalize p.ends.getD nn 0 = en at *
              go_wp2_with fail
              go_meet
              case rel => exact ⟨rfl, by rw [HV.out]⟩
          · have h0' : wv < 0 := by omega
            have hv : cfv = false := by rw [hcf]; unfold conf; rw [decide_eq_false h0]; rfl
            have HV : Hid _ := hv
            clear hcf h0 HS0 hv
            go_wp2_with fail
            go_meet
            case rel => exact ⟨rfl, by rw [HV.out]⟩
        case rest =>
          obtain ⟨rfl, hwc⟩ := hcut
          clear c1 z1
          have nbx : wr.heap.size ≠ gc := by omega
          have hs1 := grown_setCell' (w := wr1) gc k (.bool cfv)
          have r1 := (HR4.out.1.stored k (.bool cfv)).1
          have r2 := row_kept HR4.out.2 hs1 (fun g hg => by cases hg; simpa using n12.symm)
          have hbE4 : Below wE.heap.size wE (wr1.setCell ⟨gc, k, none⟩ (.bool cfv)) := Below.setCell (p := ⟨gc, k, none⟩) HBE1.out g1 _
          have b5' : (wr1.setCell ⟨gc, k, none⟩ (.bool cfv)).cell? ⟨wr.heap.size, 5, none⟩ = some (.int .i32 gs.t) := cell_setCell_other (a := ⟨gc, k, none⟩) b5 nbx
          have b7' : (wr1.setCell ⟨gc, k, none⟩ (.bool cfv)).cell? ⟨wr.heap.size, 7, none⟩ = some (.int .i32 gs.src) := cell_setCell_other (a := ⟨gc, k, none⟩) b7 nbx
          rw [← hwc] at r1 r2 hbE4 b5' b7'
          clear hwc hs1 b5 b6 b7
          obtain ⟨y2, c2⟩ := row_one r2 hlt
          have z2 := r2.frozenAt k
          have HR5 : Hid _ := And.intro r1 r2
          have HBE4 : Hid _ := hbE4
          clear r1 r2 hbE4
          generalize wc = wr4 at *
          go_upto_region 30 with fail
          go_cut [19] from 112 to 201 (fun s19 wc => wc = wr4.setCell ⟨gd, k, none⟩ (.bool drv))
          case first =>
            have k0 := (HE.out.grown HBE4.out).base.k0
            have HS0 : Hid _ := (HE.out.grown HBE4.out).base.s0
            have hdr := HDR.out
            have hsr := HSR.out
            clear HE HBR HRW HY HDR HF1 HF3 HCF HSR
            by_cases h0 : 0 ≤ gs.src
            · by_cases h1 : gs.src = gs.t
              · have hv : drv = false := by rw [hdr, h1]; simp [drt]
                have HV : Hid _ := hv
                have h1' : (gs.src != gs.t) = false := by simp [h1]
                clear hdr h1 HS0 hv hsr
                go_wp2_with fail
                go_meet
                case rel => rw [HV.out]
              · have hnl' := hsr h0 h1
                obtain ⟨nn, e⟩ := toNat_of h0
                rw [e] at b7' hnl' h1 hdr j1 j2
                have hnl : nn < p.ends.length := by omega
                have h1' : ((nn : Int) != gs.t) = true := by simpa using h1
                obtain ⟨eb, eo, ee, ce⟩ := byte_cell HS0.out hnl
                rw [ee] at k0
                have hv : drv = (p.ends.getD nn 0 != 99) := by rw [hdr]; unfold drt; rw [Int.toNat_natCast, h1']; simp
                have HV : Hid _ := hv
                clear hdr h1 HS0 ee hv hsr e h0
                generalize p.ends.getD nn 0 = en at *
                go_wp2_with fail
                go_meet
                case rel => rw [HV.out]
            · have h0' : gs.src < 0 := by omega
              have hv : drv = false := by rw [hdr]; unfold drt; rw [decide_eq_false h0]; rfl
              have HV : Hid _ := hv
              clear hdr h0 HS0 hv hsr
              go_wp2_with fail
              go_meet
              case rel => rw [HV.out]
          case rest =>
            have hwc := hcut
            clear hcut c2 z2 b5' b7'
            have hs2 := grown_setCell' (w := wr4) gd k (.bool drv)
            have r2 := (HR5.out.2.stored k (.bool drv)).1
            have r1 := row_kept HR5.out.1 hs2 (fun g hg => by cases hg; simpa using n12)
            have hbE5 : Below wE.heap.size wE (wr4.setCell ⟨gd, k, none⟩ (.bool drv)) := Below.setCell (p := ⟨gd, k, none⟩) HBE4.out g2 _
            rw [← hwc] at r1 r2 hbE5
            have l1 := HRW.out.1.1
            have l2 := HRW.out.2.1
            have d1 := row_val r2 (show (ys.set k (.bool drv))[k]? = some (.bool drv) by rw [List.getElem?_set_self (by omega)]) hlt
            have d2 := row_val r1 (show (xs.set k (.bool cfv))[k]? = some (.bool cfv) by rw [List.getElem?_set_self (by omega)]) hlt
            have HRW5 : Hid _ := And.intro r1 r2
            have HY5 : Hid (∀ j, j < k + 1 → (ys.set k (.bool drv))[j]? = some (.bool (p.dr j))) := fun j hj => by
              rw [List.getElem?_set]
              by_cases e : k = j
              · subst e; rw [if_pos rfl, if_pos (by omega), HDV.out]
              · rw [if_neg e]; exact HY.out j (by omega)
            have HB5 : Hid _ := hbE5
            clear hwc hs2 r1 r2 hbE5 l1 l2 HE HBR HRW HY HCF HDR HWV HDV HSR HR4 HR5 HBE1 HBE4 HB1 HN1
            cases drv with
            | true =>
              rw [Bool.true_or] at HF3
              by_cases hfc : p.ff 1 k = p.S.length
              · by_cases hfs : p.ff 3 k = p.S.length
                · skip
                  rw [if_pos ⟨rfl, hfc⟩] at HF1
                  rw [hfc]
                  rw [if_pos ⟨rfl, hfs⟩] at HF3
                  rw [hfs]
                  clear hfc
                  clear hfs
                  go_wp2_with fail
                  go_roundw
                  case rel => exact ⟨k + 1, _, _, by omega, by go_num, by rw [HF1.out], by rw [HF3.out], HRW5.out.1, HRW5.out.2, HY5.out, HB5.out⟩
                  case measure => simp [intOf]; omega
                · skip
                  rw [if_pos ⟨rfl, hfc⟩] at HF1
                  rw [hfc]
                  rw [if_neg (fun hh => hfs hh.2)] at HF3
                  have hfs' : ((p.ff 3 k : Int) == (p.S.length : Int)) = false := by rw [beq_eq_false_iff_ne]; omega
                  clear hfc
                  clear hfs
                  go_wp2_with fail
                  go_roundw
                  case rel => exact ⟨k + 1, _, _, by omega, by go_num, by rw [HF1.out], by rw [HF3.out], HRW5.out.1, HRW5.out.2, HY5.out, HB5.out⟩
                  case measure => simp [intOf]; omega
              · by_cases hfs : p.ff 3 k = p.S.length
                · skip
                  rw [if_neg (fun hh => hfc hh.2)] at HF1
                  rw [if_pos ⟨rfl, hfs⟩] at HF3
                  rw [hfs]
                  have hfc' : ((p.ff 1 k : Int) == (p.S.length : Int)) = false := by rw [beq_eq_false_iff_ne]; omega
                  clear hfc
                  clear hfs
                  go_wp2_with fail
                  go_roundw
                  case rel => exact ⟨k + 1, _, _, by omega, by go_num, by rw [HF1.out], by rw [HF3.out], HRW5.out.1, HRW5.out.2, HY5.out, HB5.out⟩
                  case measure => simp [intOf]; omega
                · skip
                  rw [if_neg (fun hh => hfc hh.2)] at HF1
                  rw [if_neg (fun hh => hfs hh.2)] at HF3
                  have hfc' : ((p.ff 1 k : Int) == (p.S.length : Int)) = false := by rw [beq_eq_false_iff_ne]; omega
                  have hfs' : ((p.ff 3 k : Int) == (p.S.length : Int)) = false := by rw [beq_eq_false_iff_ne]; omega
                  clear hfc
                  clear hfs
                  go_wp2_with fail
                  go_roundw
                  case rel => exact ⟨k + 1, _, _, by omega, by go_num, by rw [HF1.out], by rw [HF3.out], HRW5.out.1, HRW5.out.2, HY5.out, HB5.out⟩
                  case measure => simp [intOf]; omega
            | false =>
              cases cfv with
              | true =>
                rw [Bool.false_or] at HF3
                by_cases hfs : p.ff 3 k = p.S.length
                · skip
                  rw [if_neg (fun hh => by cases hh.1)] at HF1
                  rw [if_pos ⟨rfl, hfs⟩] at HF3
                  rw [hfs]
                  clear hfs
                  go_wp2_with fail
                  go_roundw
                  case rel => exact ⟨k + 1, _, _, by omega, by go_num, by rw [HF1.out], by rw [HF3.out], HRW5.out.1, HRW5.out.2, HY5.out, HB5.out⟩
                  case measure => simp [intOf]; omega
                · skip
                  rw [if_neg (fun hh => by cases hh.1)] at HF1
                  rw [if_neg (fun hh => hfs hh.2)] at HF3
                  have hfs' : ((p.ff 3 k : Int) == (p.S.length : Int)) = false := by rw [beq_eq_false_iff_ne]; omega
                  clear hfs
                  go_wp2_with fail
                  go_roundw
                  case rel => exact ⟨k + 1, _, _, by omega, by go_num, by rw [HF1.out], by rw [HF3.out], HRW5.out.1, HRW5.out.2, HY5.out, HB5.out⟩
                  case measure => simp [intOf]; omega
              | false =>
                rw [Bool.false_or] at HF3
                rw [if_neg (fun hh => by cases hh.1)] at HF1
                rw [if_neg (fun hh => by cases hh.1)] at HF3
                go_wp2_with fail
                go_roundw
                case rel => exact ⟨k + 1, _, _, by omega, by go_num, by rw [HF1.out], by rw [HF3.out], HRW5.out.1, HRW5.out.2, HY5.out, HB5.out⟩
                case measure => simp [intOf]; omega
    · obtain rfl : k = p.S.length := by omega
      have e1 : p.ff 1 p.S.length = p.f 1 := rfl
      have e3 : p.ff 3 p.S.length = p.f 3 := rfl
      rw [e1, e3]
      have HDC : Hid (∀ j, j < p.S.length → wr.cell? ⟨gd, j, none⟩ = some (.bool (p.dr j))) := fun j hj => row_val r2 (hy j hj) hj
      clear r1 r2 hy hbr HRW HY e1 e3 hff1 hff3
      go_wp2_with fail
      exact sx14 p _ _ _ _ _ _ _ _ _ _ _ _ _ _ _ _ _ _ _ _ _ _ _ _ _ _ _ _ _ _ _ _ _ _ _ _ _ _ _ _ _ _ _ _ _ _ _ _ _ _ _ _ _ _ _ _ _ _ _ _ _ _ _ _ _ _ _ _ _ _ _ _ _ _ _ _ _ _ _ _ _ _ _ _ _ _ _ _ _ _ _ _ _ _ _ _ _ _ _ _ _ _ _ _ _ _ _ _ _ _ _ _ _ _ _ _ _ _ _ _ _ _ _ _ _ _ _ _ _ _ _ _ _ _ _ _ _ _ _ _ _ _ _ _ _ _ _ _ _ _ _ _ _ _ _ _ _ _ _ _ _ _ _ _ _ _ _ _ _ _ _ _ _ _ _ _ _ _ _ _ _ _ _ _ _ _ _ _ _ _ _ _ _ _ _ _ _ _ _ _ _ _ _ _ _ _ _ _ _ _ _ _ _ _ _ _ _ _ _ _ _ _ _ _ _ _ _ _ _ _ _ _ _ _ _ _ _ _ _ _ _ _ _ _ _ _ _ _ _ _ _ _ _ _ _ _ _ _ _ _ _ _ _ _ _ _ _ _ _ _ _ _ _ _ _ _ _ _ _ _ _ _ _ _ _ _ _ _ _ _ _ _ _ _ _ _ _ _ _ _ _ _ _ _ _ _ _ _ _ _ _ _ _ _ _ _ _ _ _ _ _ _ _ _ _ _ _ _ _ _ _ _ _ _ _ _ _ _ _ _ _ _ _ _ _ _ _ _ _ _ _ _ _ _ _ _ _ _ _ _ _ _ _ _ _ _ _ _ _ _ _ _ _ _ _ _ _ _ _ _ _ _ _ _ _ _ _ _ _ _ _ _ _ _ _ _ _ _ _ _ _ _ _ _ _ _ _ _ _ _ _ _ _ _ _ _ _ _ _ _ _ _ _ _ _ _ _ _ _ _ _ _ _ _ _ _ _ _ _ _ _ _ _ _ _ _ _ _ _ _ _ _ _ _ _ _ _ _ _ _ _ _ _ _ _ _ _ _ _ _ _ _ _ _ _ _ _ _ _ _ _ _ _ _ _ _ _ _ _ _ _ _ _ _ _ _ _ _ _ _ _ _ _ _ _ _ _ _ _ _ _ _ _ _ _ _ _ _ _ _ _ _ _ _ _ _ _ _ _ _ _ _ _ _ _ _ _ _ _ _ _ _ _ _ _ _ _ _ _ _ _ _ _ _ _ _ _ _ _ _ _ _ _ _ _ _ _ _ _ _ _ _ _ _ _ _ _ _ _ _ _ _ _ _ _ _ _ _ _ _ _ _ _ _ _ _ _ _ _ _ _ _ _ _ _ _ _ _ _ _ _ _ _ _ _ _ _ _ _ _ _ _ _ _ _ _ _ _ _ _ _ _ _ _ _ _ _ _ _ _ _ _ _ _ _ _ _ _ _ _ (HE.out.grown HBR.out) HDC.out

set_option maxRecDepth 100000 in
set_option maxHeartbeats 2000000 in
theorem sx9 {w w0 : World} {B : Nat} (p : SP)  (u0 u4 u5 u6 u10 u11 u12 u13 u14 u15 u16 u17 u18 u19 u20 u21 u22 u23 u24 u25 u26 u27 u28 u29 u30 u31 u32 u33 u34 u35 u36 u37 u38 u39 u40 u41 u42 u43 u44 u45 u46 u47 u48 u49 u50 u51 u52 u53 u54 u55 u56 u57 u58 u59 u60 u61 u62 u63 u64 u65 u66 u67 u68 u69 u70 u71 u72 u73 u74 u75 u76 u77 u78 u79 u80 u81 u82 u83 u84 u85 u86 u87 u88 u89 u90 u91 u92 u93 u94 u95 u96 u97 u98 u99 u100 u101 u102 u103 u104 u105 u106 u107 u108 u109 u110 u111 u112 u113 u114 u115 u116 u117 u118 u119 u120 u121 u122 u123 u124 u125 u126 u127 u128 u129 u130 u131 u132 u133 u134 u135 u136 u137 u138 u139 u140 u141 u142 u143 u144 u145 u146 u147 u148 u149 u150 u151 u152 u153 u154 u155 u156 u157 u158 u159 u160 u161 u162 u163 u164 u165 u166 u167 u168 u169 u170 u171 u172 u173 u174 u175 u176 u177 u178 u179 u180 u181 u182 u183 u184 u185 u186 u187 u188 u189 u190 u191 u192 u193 u194 u195 u196 u197 u198 u199 u200 u201 u202 u203 u204 u205 u206 u207 u208 u209 u210 u211 u212 u213 u214 u215 u216 u217 u218 u219 u220 u221 u222 u223 u224 u225 u226 u227 u228 u229 u230 u231 u232 u233 u234 u235 u236 u237 u238 u239 u240 u241 u242 u243 u244 u245 u246 u247 u248 u249 u250 u251 u252 u253 u254 u255 u256 u257 u258 u259 u260 u261 u262 u263 u264 u265 u266 u267 u268 u269 u270 u271 u272 u273 u274 u275 u276 u277 u278 u279 u280 u281 u282 u283 u284 u285 u286 u287 u288 u289 u290 u291 u292 u293 u294 u295 u296 u297 u298 u299 u300 u301 u302 u303 u304 u305 u306 u307 u308 u309 u310 u311 u312 u313 u314 u315 u316 u317 u318 u319 u320 u321 u322 u323 u324 u325 u326 u327 u328 u329 u330 u331 u332 u333 u334 u335 u336 u337 u338 u339 u340 u341 u342 u343 u344 u345 u346 u347 u348 u349 u350 u351 u352 u353 u354 u355 u356 u357 u358 u359 u360 u361 u362 u363 u364 u365 u366 u367 u368 u369 u370 u371 u372 u373 u374 u375 u376 u377 u378 u379 u380 u381 u382 u383 u384 u385 u386 u387 u388 u389 u390 u391 u392 u393 u394 u395 u396 u397 u398 u399 u400 u401 u402 u403 u404 u405 u406 u407 u408 u409 u410 u411 u412 u413 u414 u415 u416 u417 u418 u419 u420 u421 u422 u423 u424 u425 u426 u427 u428 u429 u430 u431 u432 u433 u434 u435 u436 u437 u438 u439 u440 u441 u442 u443 u444 u445 u446 u447 u448 u449 u450 u451 u452 u453 u454 u455 u456 u457 u458 u459 u460 u461 u462 u463 u464 u465 u466 u467 u468 u469 u470 u471 u472 u473 u474 u475 u476 u477 u478 u479 u480 u481 u482 u483 u484 u485 u486 u487 u488 u489 u490 u491 u492 u493 u494 u495 u496 u497 u498 u499 u500 u501 u502 u503 u504 u505 u506 u507 u508 u509 u510 u511 u512 u513 u514 u515 u516 u517 u518 u519 u520 u521 u522 u523 u524 u525 u526 u527 u528 u529 u530 u531 u532 u533 u534 u535 u536 u537 u538 u539 u540 u541 u542 u543 u544 u545 u546 u547 u548 u549 u550 u551 u552 u553 u554 u555 u556 u557 u558 u559 u560 u561 u562 u563 u564 u565 u566 u567 u568 u569 u570 u571 u572 u573 u574 u575 u576 u577 u578 u579 u580 u581 u582 u583 u584 u585 u586 u587 u588 u589 u590 u591 u592 u593 u594 u595 u596 u597 u598 u599 u600 u601 u602 u603 u604 u605 u606 u607 u608 u609 u610 u611 u612 u613 u614 u615 u616 u617 u618 u619 u620 u621 u622 u623 u624 u625 u626 u627 u628 u629 u630 u631 u632 u633 u634 u635 u636 u637 u638 u639 u640 u641 u642 u643 u644 u645 u646 u647 u648 u649 u650 u651 u652 u653 u654 u655 u656 u657 : Value)
    (h : Env w0 B w p) :
    Code.wp Try.prog (tl Try.f3 9) (QT Try.f3 B w0) ⟨#[u0, .slice p.sa p.S.length p.sc, .int .i32 p.probe, .pointer (some ⟨p.bst, 0, none⟩), u4, u5, u6, .int .i64 p.S.length, .pointer (some ⟨p.cb, 0, none⟩), .pointer (some ⟨p.bf, 0, none⟩), u10, u11, u12, u13, u14, u15, u16, u17, u18, u19, u20, u21, u22, u23, u24, u25, u26, u27, u28, u29, u30, u31, u32, u33, u34, u35, u36, u37, u38, u39, u40, u41, u42, u43, u44, u45, u46, u47, u48, u49, u50, u51, u52, u53, u54, u55, u56, u57, u58, u59, u60, u61, u62, u63, u64, u65, u66, u67, u68, u69, u70, u71, u72, u73, u74, u75, u76, u77, u78, u79, u80, u81, u82, u83, u84, u85, u86, u87, u88, u89, u90, u91, u92, u93, u94, u95, u96, u97, u98, u99, u100, u101, u102, u103, u104, u105, u106, u107, u108, u109, u110, u111, u112, u113, u114, u115, u116, u117, u118, u119, u120, u121, u122, u123, u124, u125, u126, u127, u128, u129, u130, u131, u132, u133, u134, u135, u136, u137, u138, u139, u140, u141, u142, u143, u144, u145, u146, u147, u148, u149, u150, u151, u152, u153, u154, u155, u156, u157, u158, u159, u160, u161, u162, u163, u164, u165, u166, u167, u168, u169, u170, u171, u172, u173, u174, u175, u176, u177, u178, u179, u180, u181, u182, u183, u184, u185, u186, u187, u188, u189, u190, u191, u192, u193, u194, u195, u196, u197, u198, u199, u200, u201, u202, u203, u204, u205, u206, u207, u208, u209, u210, u211, u212, u213, u214, u215, u216, u217, u218, u219, u220, u221, u222, u223, u224, u225, u226, u227, u228, u229, u230, u231, u232, u233, u234, u235, u236, u237, u238, u239, u240, u241, u242, u243, u244, u245, u246, u247, u248, u249, u250, u251, u252, u253, u254, u255, u256, u257, u258, u259, u260, u261, u262, u263, u264, u265, u266, u267, u268, u269, u270, u271, u272, u273, u274, u275, u276, u277, u278, u279, u280, u281, u282, u283, u284, u285, u286, u287, u288, u289, u290, u291, u292, u293, u294, u295, u296, u297, u298, u299, u300, u301, u302, u303, u304, u305, u306, u307, u308, u309, u310, u311, u312, u313, u314, u315, u316, u317, u318, u319, u320, u321, u322, u323, u324, u325, u326, u327, u328, u329, u330, u331, u332, u333, u334, u335, u336, u337, u338, u339, u340, u341, u342, u343, u344, u345, u346, u347, u348, u349, u350, u351, u352, u353, u354, u355, u356, u357, u358, u359, u360, u361, u362, u363, u364, u365, u366, u367, u368, u369, u370, u371, u372, u373, u374, u375, u376, u377, u378, u379, u380, u381, u382, u383, u384, u385, u386, u387, u388, u389, u390, u391, u392, u393, u394, u395, u396, u397, u398, u399, u400, u401, u402, u403, u404, u405, u406, u407, u408, u409, u410, u411, u412, u413, u414, u415, u416, u417, u418, u419, u420, u421, u422, u423, u424, u425, u426, u427, u428, u429, u430, u431, u432, u433, u434, u435, u436, u437, u438, u439, u440, u441, u442, u443, u444, u445, u446, u447, u448, u449, u450, u451, u452, u453, u454, u455, u456, u457, u458, u459, u460, u461, u462, u463, u464, u465, u466, u467, u468, u469, u470, u471, u472, u473, u474, u475, u476, u477, u478, u479, u480, u481, u482, u483, u484, u485, u486, u487, u488, u489, u490, u491, u492, u493, u494, u495, u496, u497, u498, u499, u500, u501, u502, u503, u504, u505, u506, u507, u508, u509, u510, u511, u512, u513, u514, u515, u516, u517, u518, u519, u520, u521, u522, u523, u524, u525, u526, u527, u528, u529, u530, u531, u532, u533, u534, u535, u536, u537, u538, u539, u540, u541, u542, u543, u544, u545, u546, u547, u548, u549, u550, u551, u552, u553, u554, u555, u556, u557, u558, u559, u560, u561, u562, u563, u564, u565, u566, u567, u568, u569, u570, u571, u572, u573, u574, u575, u576, u577, u578, u579, u580, u581, u582, u583, u584, u585, u586, u587, u588, u589, u590, u591, u592, u593, u594, u595, u596, u597, u598, u599, u600, u601, u602, u603, u604, u605, u606, u607, u608, u609, u610, u611, u612, u613, u614, u615, u616, u617, u618, u619, u620, u621, u622, u623, u624, u625, u626, u627, u628, u629, u630, u631, u632, u633, u634, u635, u636, u637, u638, u639, u640, u641, u642, u643, u644, u645, u646, u647, u648, u649, u650, u651, u652, u653, u654, u655, u656, u657], []⟩ w := by
  obtain ⟨i04, hi4, hz4, hy4, hx4⟩ := info_parts info4
  obtain ⟨W, hWW⟩ : ∃ W, W = w.heap.size := ⟨_, rfl⟩
  have hn := h.pl.dom.n
  have HE : Hid _ := h
  clear h
  rw [tl3_9]
  refine wp_seq_k (fun K hK => ?_)
  conv => arg 2; whnf
  go_wp2_with (at_make; go_must (refine wpList_make_full _ rfl _ _ 47 rfl W 4 i04 (.bool false) 1 Try.underlying47 hi4 hz4 hy4 .i64 .i64 _ _ p.S.length rfl rfl rfl rfl (by rw [hx4]; omega) (by unfold maxLen; omega) (by omega) ?_; intro w1 hown1 hgrow1))
  have hb1 := below_of_grown hgrow1
  have hs1 := hb1.size
  have HO1 : Hid _ := hown1
  have HB1 : Hid _ := hb1
  clear hown1 hgrow1 hb1
  rw [tl3_10]
  refine wp_seq_k (fun K hK => ?_)
  conv => arg 2; whnf
  go_wp2_with (at_make; go_must (refine wpList_make_full _ rfl _ _ 47 rfl W 4 i04 (.bool false) 1 Try.underlying47 hi4 hz4 hy4 .i64 .i64 _ _ p.S.length rfl rfl rfl rfl (by rw [hx4]; omega) (by unfold maxLen; omega) (by omega) ?_; intro w2 hown2 hgrow2))
  have hb2 := below_of_grown hgrow2
  have g12 : w.heap.size < w1.heap.size := (row_ge HO1.out).2
  have HO1b : Hid _ := row_below HO1.out hb2
  have HO2 : Hid _ := hown2
  have HB2 : Hid _ := HB1.out.trans (hb2.mono HB1.out.size)
  subst hWW
  clear hown2 hgrow2 hb2 HO1 HB1 hi4 hz4 hy4 hx4
  go_wp2_with fail
  rw [tl3_11]
  refine wp_seq_k (fun K hK => ?_)
  conv => arg 2; whnf
  go_wp2_with fail
  rw [tl3_12]
  refine wp_seq_k (fun K hK => ?_)
  conv => arg 2; whnf
  go_wp2_with fail
  exact sx13 p w _ _ _ _ _ _ _ _ _ _ _ _ _ _ _ _ _ _ _ _ _ _ _ _ _ _ _ _ _ _ _ _ _ _ _ _ _ _ _ _ _ _ _ _ _ _ _ _ _ _ _ _ _ _ _ _ _ _ _ _ _ _ _ _ _ _ _ _ _ _ _ _ _ _ _ _ _ _ _ _ _ _ _ _ _ _ _ _ _ _ _ _ _ _ _ _ _ _ _ _ _ _ _ _ _ _ _ _ _ _ _ _ _ _ _ _ _ _ _ _ _ _ _ _ _ _ _ _ _ _ _ _ _ _ _ _ _ _ _ _ _ _ _ _ _ _ _ _ _ _ _ _ _ _ _ _ _ _ _ _ _ _ _ _ _ _ _ _ _ _ _ _ _ _ _ _ _ _ _ _ _ _ _ _ _ _ _ _ _ _ _ _ _ _ _ _ _ _ _ _ _ _ _ _ _ _ _ _ _ _ _ _ _ _ _ _ _ _ _ _ _ _ _ _ _ _ _ _ _ _ _ _ _ _ _ _ _ _ _ _ _ _ _ _ _ _ _ _ _ _ _ _ _ _ _ _ _ _ _ _ _ _ _ _ _ _ _ _ _ _ _ _ _ _ _ _ _ _ _ _ _ _ _ _ _ _ _ _ _ _ _ _ _ _ _ _ _ _ _ _ _ _ _ _ _ _ _ _ _ _ _ _ _ _ _ _ _ _ _ _ _ _ _ _ _ _ _ _ _ _ _ _ _ _ _ _ _ _ _ _ _ _ _ _ _ _ _ _ _ _ _ _ _ _ _ _ _ _ _ _ _ _ _ _ _ _ _ _ _ _ _ _ _ _ _ _ _ _ _ _ _ _ _ _ _ _ _ _ _ _ _ _ _ _ _ _ _ _ _ _ _ _ _ _ _ _ _ _ _ _ _ _ _ _ _ _ _ _ _ _ _ _ _ _ _ _ _ _ _ _ _ _ _ _ _ _ _ _ _ _ _ _ _ _ _ _ _ _ _ _ _ _ _ _ _ _ _ _ _ _ _ _ _ _ _ _ _ _ _ _ _ _ _ _ _ _ _ _ _ _ _ _ _ _ _ _ _ _ _ _ _ _ _ _ _ _ _ _ _ _ _ _ _ _ _ _ _ _ _ _ _ _ _ _ _ _ _ _ _ _ _ _ _ _ _ _ _ _ _ _ _ _ _ _ _ _ _ _ _ _ _ _ _ _ _ _ _ _ _ _ _ _ _ _ _ _ _ _ _ _ _ _ _ _ _ _ _ _ _ _ _ _ _ _ _ _ _ _ _ _ _ _ _ _ _ _ _ _ _ _ _ _ _ _ _ _ _ _ _ _ _ _ _ _ _ _ _ _ _ _ _ _ _ _ _ _ _ _ _ _ _ _ _ _ _ _ _ _ _ _ _ _ _ _ _ _ _ _ _ _ _ _ _ _ _ _ _ _ _ _ _ _ HE.out HB2.out HO1b.out HO2.out (by omega)

end Go.Proofs.Qxb6625890a
