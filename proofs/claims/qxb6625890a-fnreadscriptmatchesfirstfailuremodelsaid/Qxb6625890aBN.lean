/-
  Seat b6625890a: the law FnReadScriptMatchesFirstFailureModel, its beginning. Frames written by program.
-/
import Derived.Test.Qxb6625890aBM
import Derived.Test.Qxb6625890aAI
namespace Go.Proofs.Qxb6625890a
open Go.RowKit Go.Maps
set_option linter.unusedVariables false

/-- The state as the law keeps it, and the steps, ahead of the pointers' table. -/
structure Base0 (w : World) (p : SP) : Prop where
  k0 : w.cell? ⟨p.bst, 0, none⟩ = some (.slice p.a0 p.ends.length p.q0)
  k1 : w.cell? ⟨p.bst, 1, none⟩ = some (.slice p.a1 p.I0.length p.q1)
  k2 : w.cell? ⟨p.bst, 2, none⟩ = some (.slice p.a2 p.R0.length p.q2)
  k7 : w.cell? ⟨p.bst, 7, none⟩ = some (.slice p.a4 p.des.length p.q4)
  kb : ∀ k, k < 4 → w.cell? ⟨p.bst, 3 + k, none⟩ = some (.bool (c4 p.b0 p.b1 p.b2 p.b3 k))
  s0 : Sl w p.a0 (bytes p.ends)
  s1 : Sl w p.a1 (flat p.I0)
  s2 : Sl w p.a2 (flat p.R0)
  s4 : Sl w p.a4 (flatD p.des)
  sd : ∀ i, i < p.des.length → Sl w (p.des.getD i d0).ad (ints (p.des.getD i d0).zs)
  ss : Sl w p.sa (flatS p.S)
structure BaseL (p : SP) (B1 : Nat) : Prop where
  st : p.bst < B1
  a0 : ∀ x, p.a0 = some x → x.block < B1
  a1 : ∀ x, p.a1 = some x → x.block < B1
  a2 : ∀ x, p.a2 = some x → x.block < B1
  a4 : ∀ x, p.a4 = some x → x.block < B1
  sd : ∀ i, i < p.des.length → ∀ x, (p.des.getD i d0).ad = some x → x.block < B1
  sa : flatS p.S ≠ [] → ∀ x, p.sa = some x → x.block < B1
theorem tl3_0 : tl Try.f3 0 = Code.seq (st Try.f3 0) (tl Try.f3 1) := by kernel_rfl
theorem tl3_1 : tl Try.f3 1 = Code.seq (st Try.f3 1) (tl Try.f3 2) := by kernel_rfl
theorem tl3_2 : tl Try.f3 2 = Code.seq (st Try.f3 2) (tl Try.f3 3) := by kernel_rfl
theorem tl3_3 : tl Try.f3 3 = Code.seq (st Try.f3 3) (tl Try.f3 4) := by kernel_rfl
theorem tl3_4 : tl Try.f3 4 = Code.seq (st Try.f3 4) (tl Try.f3 5) := by kernel_rfl
theorem tl3_5 : tl Try.f3 5 = Code.seq (st Try.f3 5) (tl Try.f3 6) := by kernel_rfl
theorem tl3_6 : tl Try.f3 6 = Code.seq (st Try.f3 6) (tl Try.f3 7) := by kernel_rfl
theorem tl3_7 : tl Try.f3 7 = Code.seq (st Try.f3 7) (tl Try.f3 8) := by kernel_rfl

set_option maxRecDepth 100000 in
set_option maxHeartbeats 2000000 in
theorem sx6 {w w0 : World} {B : Nat} (p : SP) (F : Nat → Prop) (B1 : Nat) (u0 u4 u5 u6 u9 u10 u11 u12 u13 u14 u15 u16 u17 u18 u19 u20 u21 u22 u23 u24 u25 u26 u27 u28 u29 u30 u31 u32 u33 u34 u35 u36 u37 u38 u39 u40 u41 u42 u43 u44 u45 u46 u47 u48 u49 u50 u51 u52 u53 u54 u55 u56 u57 u58 u59 u60 u61 u62 u63 u64 u65 u66 u67 u68 u69 u70 u71 u72 u73 u74 u75 u76 u77 u78 u79 u80 u81 u82 u83 u84 u85 u86 u87 u88 u89 u90 u91 u92 u93 u94 u95 u96 u97 u98 u99 u100 u101 u102 u103 u104 u105 u106 u107 u108 u109 u110 u111 u112 u113 u114 u115 u116 u117 u118 u119 u120 u121 u122 u123 u124 u125 u126 u127 u128 u129 u130 u131 u132 u133 u134 u135 u136 u137 u138 u139 u140 u141 u142 u143 u144 u145 u146 u147 u148 u149 u150 u151 u152 u153 u154 u155 u156 u157 u158 u159 u160 u161 u162 u163 u164 u165 u166 u167 u168 u169 u170 u171 u172 u173 u174 u175 u176 u177 u178 u179 u180 u181 u182 u183 u184 u185 u186 u187 u188 u189 u190 u191 u192 u193 u194 u195 u196 u197 u198 u199 u200 u201 u202 u203 u204 u205 u206 u207 u208 u209 u210 u211 u212 u213 u214 u215 u216 u217 u218 u219 u220 u221 u222 u223 u224 u225 u226 u227 u228 u229 u230 u231 u232 u233 u234 u235 u236 u237 u238 u239 u240 u241 u242 u243 u244 u245 u246 u247 u248 u249 u250 u251 u252 u253 u254 u255 u256 u257 u258 u259 u260 u261 u262 u263 u264 u265 u266 u267 u268 u269 u270 u271 u272 u273 u274 u275 u276 u277 u278 u279 u280 u281 u282 u283 u284 u285 u286 u287 u288 u289 u290 u291 u292 u293 u294 u295 u296 u297 u298 u299 u300 u301 u302 u303 u304 u305 u306 u307 u308 u309 u310 u311 u312 u313 u314 u315 u316 u317 u318 u319 u320 u321 u322 u323 u324 u325 u326 u327 u328 u329 u330 u331 u332 u333 u334 u335 u336 u337 u338 u339 u340 u341 u342 u343 u344 u345 u346 u347 u348 u349 u350 u351 u352 u353 u354 u355 u356 u357 u358 u359 u360 u361 u362 u363 u364 u365 u366 u367 u368 u369 u370 u371 u372 u373 u374 u375 u376 u377 u378 u379 u380 u381 u382 u383 u384 u385 u386 u387 u388 u389 u390 u391 u392 u393 u394 u395 u396 u397 u398 u399 u400 u401 u402 u403 u404 u405 u406 u407 u408 u409 u410 u411 u412 u413 u414 u415 u416 u417 u418 u419 u420 u421 u422 u423 u424 u425 u426 u427 u428 u429 u430 u431 u432 u433 u434 u435 u436 u437 u438 u439 u440 u441 u442 u443 u444 u445 u446 u447 u448 u449 u450 u451 u452 u453 u454 u455 u456 u457 u458 u459 u460 u461 u462 u463 u464 u465 u466 u467 u468 u469 u470 u471 u472 u473 u474 u475 u476 u477 u478 u479 u480 u481 u482 u483 u484 u485 u486 u487 u488 u489 u490 u491 u492 u493 u494 u495 u496 u497 u498 u499 u500 u501 u502 u503 u504 u505 u506 u507 u508 u509 u510 u511 u512 u513 u514 u515 u516 u517 u518 u519 u520 u521 u522 u523 u524 u525 u526 u527 u528 u529 u530 u531 u532 u533 u534 u535 u536 u537 u538 u539 u540 u541 u542 u543 u544 u545 u546 u547 u548 u549 u550 u551 u552 u553 u554 u555 u556 u557 u558 u559 u560 u561 u562 u563 u564 u565 u566 u567 u568 u569 u570 u571 u572 u573 u574 u575 u576 u577 u578 u579 u580 u581 u582 u583 u584 u585 u586 u587 u588 u589 u590 u591 u592 u593 u594 u595 u596 u597 u598 u599 u600 u601 u602 u603 u604 u605 u606 u607 u608 u609 u610 u611 u612 u613 u614 u615 u616 u617 u618 u619 u620 u621 u622 u623 u624 u625 u626 u627 u628 u629 u630 u631 u632 u633 u634 u635 u636 u637 u638 u639 u640 u641 u642 u643 u644 u645 u646 u647 u648 u649 u650 u651 u652 u653 u654 u655 u656 u657 : Value)
    (hR0 : Rd p F w 0 p.o0 (dmOf p.des)) (hBs : Base0 w p) (hBL : BaseL p B1) (hpl : Plain p) (hF : ∀ k, w.heap.size ≤ k → F k) (hFB : ∀ k, k < B1 → ¬ F k) (hB1 : B1 ≤ w.heap.size) (hBB : B ≤ B1) (hb : Below B w0 w) :
    Code.wp Try.prog (tl Try.f3 6) (QT Try.f3 B w0) ⟨#[u0, .slice p.sa p.S.length p.sc, .int .i32 p.probe, .pointer (some ⟨p.bst, 0, none⟩), u4, u5, u6, .int .i64 p.S.length, .pointer (some ⟨p.cb, 0, none⟩), u9, u10, u11, u12, u13, u14, u15, u16, u17, u18, u19, u20, u21, u22, u23, u24, u25, u26, u27, u28, u29, u30, u31, u32, u33, u34, u35, u36, u37, u38, u39, u40, u41, u42, u43, u44, u45, u46, u47, u48, u49, u50, u51, u52, u53, u54, u55, u56, u57, u58, u59, u60, u61, u62, u63, u64, u65, u66, u67, u68, u69, u70, u71, u72, u73, u74, u75, u76, u77, u78, u79, u80, u81, u82, u83, u84, u85, u86, u87, u88, u89, u90, u91, u92, u93, u94, u95, u96, u97, u98, u99, u100, u101, u102, u103, u104, u105, u106, u107, u108, u109, u110, u111, u112, u113, u114, u115, u116, u117, u118, u119, u120, u121, u122, u123, u124, u125, u126, u127, u128, u129, u130, u131, u132, u133, u134, u135, u136, u137, u138, u139, u140, u141, u142, u143, u144, u145, u146, u147, u148, u149, u150, u151, u152, u153, u154, u155, u156, u157, u158, u159, u160, u161, u162, u163, u164, u165, u166, u167, u168, u169, u170, u171, u172, u173, u174, u175, u176, u177, u178, u179, u180, u181, u182, u183, u184, u185, u186, u187, u188, u189, u190, u191, u192, u193, u194, u195, u196, u197, u198, u199, u200, u201, u202, u203, u204, u205, u206, u207, u208, u209, u210, u211, u212, u213, u214, u215, u216, u217, u218, u219, u220, u221, u222, u223, u224, u225, u226, u227, u228, u229, u230, u231, u232, u233, u234, u235, u236, u237, u238, u239, u240, u241, u242, u243, u244, u245, u246, u247, u248, u249, u250, u251, u252, u253, u254, u255, u256, u257, u258, u259, u260, u261, u262, u263, u264, u265, u266, u267, u268, u269, u270, u271, u272, u273, u274, u275, u276, u277, u278, u279, u280, u281, u282, u283, u284, u285, u286, u287, u288, u289, u290, u291, u292, u293, u294, u295, u296, u297, u298, u299, u300, u301, u302, u303, u304, u305, u306, u307, u308, u309, u310, u311, u312, u313, u314, u315, u316, u317, u318, u319, u320, u321, u322, u323, u324, u325, u326, u327, u328, u329, u330, u331, u332, u333, u334, u335, u336, u337, u338, u339, u340, u341, u342, u343, u344, u345, u346, u347, u348, u349, u350, u351, u352, u353, u354, u355, u356, u357, u358, u359, u360, u361, u362, u363, u364, u365, u366, u367, u368, u369, u370, u371, u372, u373, u374, u375, u376, u377, u378, u379, u380, u381, u382, u383, u384, u385, u386, u387, u388, u389, u390, u391, u392, u393, u394, u395, u396, u397, u398, u399, u400, u401, u402, u403, u404, u405, u406, u407, u408, u409, u410, u411, u412, u413, u414, u415, u416, u417, u418, u419, u420, u421, u422, u423, u424, u425, u426, u427, u428, u429, u430, u431, u432, u433, u434, u435, u436, u437, u438, u439, u440, u441, u442, u443, u444, u445, u446, u447, u448, u449, u450, u451, u452, u453, u454, u455, u456, u457, u458, u459, u460, u461, u462, u463, u464, u465, u466, u467, u468, u469, u470, u471, u472, u473, u474, u475, u476, u477, u478, u479, u480, u481, u482, u483, u484, u485, u486, u487, u488, u489, u490, u491, u492, u493, u494, u495, u496, u497, u498, u499, u500, u501, u502, u503, u504, u505, u506, u507, u508, u509, u510, u511, u512, u513, u514, u515, u516, u517, u518, u519, u520, u521, u522, u523, u524, u525, u526, u527, u528, u529, u530, u531, u532, u533, u534, u535, u536, u537, u538, u539, u540, u541, u542, u543, u544, u545, u546, u547, u548, u549, u550, u551, u552, u553, u554, u555, u556, u557, u558, u559, u560, u561, u562, u563, u564, u565, u566, u567, u568, u569, u570, u571, u572, u573, u574, u575, u576, u577, u578, u579, u580, u581, u582, u583, u584, u585, u586, u587, u588, u589, u590, u591, u592, u593, u594, u595, u596, u597, u598, u599, u600, u601, u602, u603, u604, u605, u606, u607, u608, u609, u610, u611, u612, u613, u614, u615, u616, u617, u618, u619, u620, u621, u622, u623, u624, u625, u626, u627, u628, u629, u630, u631, u632, u633, u634, u635, u636, u637, u638, u639, u640, u641, u642, u643, u644, u645, u646, u647, u648, u649, u650, u651, u652, u653, u654, u655, u656, u657], []⟩ w := by
  have HR0 : Hid _ := hR0
  have HBS : Hid _ := hBs
  have HBL : Hid _ := hBL
  have HPL : Hid _ := hpl
  have HF : Hid _ := And.intro hF hFB
  have HB : Hid _ := hb
  clear hR0 hBs hBL hpl hF hFB hb
  rw [tl3_6]
  refine wp_seq_k (fun K hK => ?_)
  conv => arg 2; whnf
  go_wp2_with fail
  have hb1 : Below w.heap.size w (w.alloc (.cells #[.pointer none, .pointer none, .pointer none, .pointer none] 36)) := (Below.refl _ _).alloc (Nat.le_refl _) _
  have hn1 : (w.alloc (.cells #[.pointer none, .pointer none, .pointer none, .pointer none] 36)).heap[w.heap.size]? = some (.cells #[.pointer none, .pointer none, .pointer none, .pointer none] 36 (0, 0)) := heap_alloc_new w _
  have HB1 : Hid _ := hb1
  have HN1 : Hid _ := hn1
  clear hb1 hn1
  obtain ⟨w1, hw1⟩ : ∃ w1, w1 = w.alloc (.cells #[.pointer none, .pointer none, .pointer none, .pointer none] 36) := ⟨_, rfl⟩
  rw [← hw1] at HB1 HN1 ⊢
  clear hw1
  rw [tl3_7]
  refine wp_seq_k (fun K hK => ?_)
  conv => arg 2; whnf
  go_wp2_with fail
  go_loopw [10] (fun i wr => ∃ (k : Nat) (cur : Array Value), k ≤ 4 ∧ i = .int .i64 k ∧ wr.heap[w.heap.size]? = some (.cells cur 36 (0, 0)) ∧ cur.size = 4 ∧ (∀ j, j < k → cur[j]? = some (optr (p.o0 j))) ∧ Below w.heap.size w wr) (fun i _ => 4 - (intOf i).toNat)
  case atStart => exact ⟨0, _, by omega, rfl, HN1.out, rfl, fun j hj => (by omega), HB1.out⟩
  case round =>
    obtain ⟨k, cur, hk, rfl, hcur, hcs, hcj, hbr⟩ := hrel
    clear HB1 HN1
    have HBR : Hid _ := hbr
    by_cases hlt : k < 4
    · have hlt' : (k : Int) < 4 := by omega
      have hlt0 : (0 : Int) ≤ (k : Int) := by omega
      obtain ⟨tb, db, mi, N, lim, vi, vr, vt, f, hV, _⟩ := HR0.out.cls
      have hc := outOf_any (ClsV.grown hV hbr) k hlt
      obtain ⟨y0, d1⟩ : ∃ y, wr.cell? ⟨w.heap.size, k, none⟩ = some y := ⟨_, cell_blk hcur (Array.getElem?_eq_getElem (by omega))⟩
      have z1 := frozen_of_row wr w.heap.size k _ _ hcur
      obtain ⟨s1, s2⟩ := set_at (g := fun j => optr (p.o0 j)) (v := optr (p.o0 k)) hcs hlt rfl hcj
      have hcur2 := blk_set (i := k) (optr (p.o0 k)) hcur
      have hb2 : Below w.heap.size w (wr.setCell ⟨w.heap.size, k, none⟩ (optr (p.o0 k))) := hbr.setCell (Nat.le_refl _) _
      have HC : Hid _ := hc
      have HS12 : Hid _ := And.intro hcur2 (And.intro s1 (And.intro s2 hb2))
      clear hc hcur hcs hcj hbr s1 s2 hcur2 hb2 HR0 HBS HBL HPL HF hV HB
      generalize hok : p.o0 k = ok at *
      go_wp2_with fail
      refine Calls.mono HC.out ?_
      rintro e w3 ⟨rfl, hw3⟩
      have hw3 := hw3.symm
      subst hw3
      clear HC
      cases ok with
      | none =>
        rw [optr_none] at *
        go_wp2_with fail
        go_roundw
        case rel => exact ⟨k + 1, _, by omega, by go_num, HS12.out.1, HS12.out.2.1, HS12.out.2.2.1, HS12.out.2.2.2⟩
        case measure => simp [intOf]; omega
      | some y =>
        rw [optr_some] at *
        go_wp2_with fail
        go_roundw
        case rel => exact ⟨k + 1, _, by omega, by go_num, HS12.out.1, HS12.out.2.1, HS12.out.2.2.1, HS12.out.2.2.2⟩
        case measure => simp [intOf]; omega
    · obtain rfl : k = 4 := by omega
      have HBA : Hid (∀ k, k < 4 → wr.cell? ⟨w.heap.size, k, none⟩ = some (optr (p.o0 k))) := fun j hj => cell_blk hcur (hcj j hj)
      have HLB : Hid (w.heap.size < wr.heap.size) := (Array.getElem?_eq_some_iff.1 hcur).1
      clear hcur hcs hcj hbr
      go_wp2_with fail
      have b := HBR.out
      have hR := HR0.out
      obtain ⟨tb, db, mi, N, lim, vi, vr, vt, f, hV, hlm⟩ := hR.cls
      have hs := HBS.out
      have hL := HBL.out
      have nf : ∀ k, k < B1 → ¬ FX F w.heap.size wr.heap.size k := fun k hk => FX.old (HF.out.2 k hk) (by have := b.size; omega)
      have hR' : Rd { p with bf := w.heap.size } (FX F w.heap.size wr.heap.size) wr 0 p.o0 (dmOf p.des) := ⟨⟨tb, db, mi, N, lim, vi, vr, vt, f, ClsV.fx hV b, hlm⟩, hR.oi, hR.ne, hR.di⟩
      have hB' : Base wr { p with bf := w.heap.size } := ⟨cell_later b hs.k0, cell_later b hs.k1, cell_later b hs.k2, cell_later b hs.k7, fun k hk => cell_later b (hs.kb k hk), hs.s0.below b, hs.s1.below b, hs.s2.below b, hs.s4.below b, fun i hi => (hs.sd i hi).below b, hs.ss.below b, HBA.out⟩
      have hN' : BaseN (FX F w.heap.size wr.heap.size) { p with bf := w.heap.size } := ⟨nf _ hL.st, FX.mid (Nat.le_refl _) HLB.out, fun x hx => nf _ (hL.a0 x hx), fun x hx => nf _ (hL.a1 x hx), fun x hx => nf _ (hL.a2 x hx), fun x hx => nf _ (hL.a4 x hx), fun i hi x hx => nf _ (hL.sd i hi x hx), fun hne x hx => nf _ (hL.sa hne x hx)⟩
      have hpl := HPL.out
      exact sx8 { p with bf := w.heap.size } (FX F w.heap.size wr.heap.size) _ _ _ _ _ _ _ _ _ _ _ _ _ _ _ _ _ _ _ _ _ _ _ _ _ _ _ _ _ _ _ _ _ _ _ _ _ _ _ _ _ _ _ _ _ _ _ _ _ _ _ _ _ _ _ _ _ _ _ _ _ _ _ _ _ _ _ _ _ _ _ _ _ _ _ _ _ _ _ _ _ _ _ _ _ _ _ _ _ _ _ _ _ _ _ _ _ _ _ _ _ _ _ _ _ _ _ _ _ _ _ _ _ _ _ _ _ _ _ _ _ _ _ _ _ _ _ _ _ _ _ _ _ _ _ _ _ _ _ _ _ _ _ _ _ _ _ _ _ _ _ _ _ _ _ _ _ _ _ _ _ _ _ _ _ _ _ _ _ _ _ _ _ _ _ _ _ _ _ _ _ _ _ _ _ _ _ _ _ _ _ _ _ _ _ _ _ _ _ _ _ _ _ _ _ _ _ _ _ _ _ _ _ _ _ _ _ _ _ _ _ _ _ _ _ _ _ _ _ _ _ _ _ _ _ _ _ _ _ _ _ _ _ _ _ _ _ _ _ _ _ _ _ _ _ _ _ _ _ _ _ _ _ _ _ _ _ _ _ _ _ _ _ _ _ _ _ _ _ _ _ _ _ _ _ _ _ _ _ _ _ _ _ _ _ _ _ _ _ _ _ _ _ _ _ _ _ _ _ _ _ _ _ _ _ _ _ _ _ _ _ _ _ _ _ _ _ _ _ _ _ _ _ _ _ _ _ _ _ _ _ _ _ _ _ _ _ _ _ _ _ _ _ _ _ _ _ _ _ _ _ _ _ _ _ _ _ _ _ _ _ _ _ _ _ _ _ _ _ _ _ _ _ _ _ _ _ _ _ _ _ _ _ _ _ _ _ _ _ _ _ _ _ _ _ _ _ _ _ _ _ _ _ _ _ _ _ _ _ _ _ _ _ _ _ _ _ _ _ _ _ _ _ _ _ _ _ _ _ _ _ _ _ _ _ _ _ _ _ _ _ _ _ _ _ _ _ _ _ _ _ _ _ _ _ _ _ _ _ _ _ _ _ _ _ _ _ _ _ _ _ _ _ _ _ _ _ _ _ _ _ _ _ _ _ _ _ _ _ _ _ _ _ _ _ _ _ _ _ _ _ _ _ _ _ _ _ _ _ _ _ _ _ _ _ _ _ _ _ _ _ _ _ _ _ _ _ _ _ _ _ _ _ _ _ _ _ _ _ _ _ _ _ _ _ _ _ _ _ _ _ _ _ _ _ _ _ _ _ _ _ _ _ _ _ _ _ _ _ _ _ _ _ _ _ _ _ _ _ _ _ _ _ _ _ _ _ _ _ _ _ _ _ _ _ _ _ _ _ _ _ _ _ _ _ _ _ _ _ _ _ _ _ _ _ _ _ _ _ _ _ _ _ _ _ _ _ _ _ _ _ _ _ _ _ _ _ _ _ _ _ _ hR' hB' hN' ⟨hpl.dom, hpl.pw, hpl.tw, hpl.rg⟩ FX.new (fun k hk => nf k (Nat.lt_of_lt_of_le hk hBB)) (HB.out.trans (b.mono (Nat.le_trans hBB hB1))) (Nat.le_trans (Nat.le_trans hBB hB1) b.size)

set_option maxRecDepth 100000 in
set_option maxHeartbeats 2000000 in
theorem sx5 {w w0 : World} {B : Nat} (p : SP) (C : Nat) (deso : List DEnt) (u0 u4 u5 u6 u8 u9 u10 u11 u12 u13 u14 u15 u16 u17 u18 u19 u20 u21 u22 u23 u24 u25 u26 u27 u28 u29 u30 u31 u32 u33 u34 u35 u36 u37 u38 u39 u40 u41 u42 u43 u44 u45 u46 u47 u48 u49 u50 u51 u52 u53 u54 u55 u56 u57 u58 u59 u60 u61 u62 u63 u64 u65 u66 u67 u68 u69 u70 u71 u72 u73 u74 u75 u76 u77 u78 u79 u80 u81 u82 u83 u84 u85 u86 u87 u88 u89 u90 u91 u92 u93 u94 u95 u96 u97 u98 u99 u100 u101 u102 u103 u104 u105 u106 u107 u108 u109 u110 u111 u112 u113 u114 u115 u116 u117 u118 u119 u120 u121 u122 u123 u124 u125 u126 u127 u128 u129 u130 u131 u132 u133 u134 u135 u136 u137 u138 u139 u140 u141 u142 u143 u144 u145 u146 u147 u148 u149 u150 u151 u152 u153 u154 u155 u156 u157 u158 u159 u160 u161 u162 u163 u164 u165 u166 u167 u168 u169 u170 u171 u172 u173 u174 u175 u176 u177 u178 u179 u180 u181 u182 u183 u184 u185 u186 u187 u188 u189 u190 u191 u192 u193 u194 u195 u196 u197 u198 u199 u200 u201 u202 u203 u204 u205 u206 u207 u208 u209 u210 u211 u212 u213 u214 u215 u216 u217 u218 u219 u220 u221 u222 u223 u224 u225 u226 u227 u228 u229 u230 u231 u232 u233 u234 u235 u236 u237 u238 u239 u240 u241 u242 u243 u244 u245 u246 u247 u248 u249 u250 u251 u252 u253 u254 u255 u256 u257 u258 u259 u260 u261 u262 u263 u264 u265 u266 u267 u268 u269 u270 u271 u272 u273 u274 u275 u276 u277 u278 u279 u280 u281 u282 u283 u284 u285 u286 u287 u288 u289 u290 u291 u292 u293 u294 u295 u296 u297 u298 u299 u300 u301 u302 u303 u304 u305 u306 u307 u308 u309 u310 u311 u312 u313 u314 u315 u316 u317 u318 u319 u320 u321 u322 u323 u324 u325 u326 u327 u328 u329 u330 u331 u332 u333 u334 u335 u336 u337 u338 u339 u340 u341 u342 u343 u344 u345 u346 u347 u348 u349 u350 u351 u352 u353 u354 u355 u356 u357 u358 u359 u360 u361 u362 u363 u364 u365 u366 u367 u368 u369 u370 u371 u372 u373 u374 u375 u376 u377 u378 u379 u380 u381 u382 u383 u384 u385 u386 u387 u388 u389 u390 u391 u392 u393 u394 u395 u396 u397 u398 u399 u400 u401 u402 u403 u404 u405 u406 u407 u408 u409 u410 u411 u412 u413 u414 u415 u416 u417 u418 u419 u420 u421 u422 u423 u424 u425 u426 u427 u428 u429 u430 u431 u432 u433 u434 u435 u436 u437 u438 u439 u440 u441 u442 u443 u444 u445 u446 u447 u448 u449 u450 u451 u452 u453 u454 u455 u456 u457 u458 u459 u460 u461 u462 u463 u464 u465 u466 u467 u468 u469 u470 u471 u472 u473 u474 u475 u476 u477 u478 u479 u480 u481 u482 u483 u484 u485 u486 u487 u488 u489 u490 u491 u492 u493 u494 u495 u496 u497 u498 u499 u500 u501 u502 u503 u504 u505 u506 u507 u508 u509 u510 u511 u512 u513 u514 u515 u516 u517 u518 u519 u520 u521 u522 u523 u524 u525 u526 u527 u528 u529 u530 u531 u532 u533 u534 u535 u536 u537 u538 u539 u540 u541 u542 u543 u544 u545 u546 u547 u548 u549 u550 u551 u552 u553 u554 u555 u556 u557 u558 u559 u560 u561 u562 u563 u564 u565 u566 u567 u568 u569 u570 u571 u572 u573 u574 u575 u576 u577 u578 u579 u580 u581 u582 u583 u584 u585 u586 u587 u588 u589 u590 u591 u592 u593 u594 u595 u596 u597 u598 u599 u600 u601 u602 u603 u604 u605 u606 u607 u608 u609 u610 u611 u612 u613 u614 u615 u616 u617 u618 u619 u620 u621 u622 u623 u624 u625 u626 u627 u628 u629 u630 u631 u632 u633 u634 u635 u636 u637 u638 u639 u640 u641 u642 u643 u644 u645 u646 u647 u648 u649 u650 u651 u652 u653 u654 u655 u656 u657 : Value)
    (hst : w.heap[p.bst]? = some (.cells #[.slice p.a0 p.ends.length p.q0, .slice p.a1 p.I0.length p.q1, .slice p.a2 p.R0.length p.q2, .bool p.b0, .bool p.b1, .bool p.b2, .bool p.b3, .slice p.a4 p.des.length p.q4] 28 (0, 0))) (hC : Copied w C (.slice p.a0 p.ends.length p.q0) (.slice p.a1 p.I0.length p.q1) (.slice p.a2 p.R0.length p.q2) (.slice p.a4 p.des.length p.q4) p.ends p.I0 p.R0 deso p.des) (hpl : Plain p) (wk : ∀ x ∈ p.des, (Lit.int .i32 x.key).wf = true) (hss : Sl w p.sa (flatS p.S)) (hsl : flatS p.S ≠ [] → ∀ x, p.sa = some x → x.block < w.heap.size) (hb : Below B w0 w) (hBw : B ≤ w.heap.size) :
    Code.wp Try.prog (tl Try.f3 5) (QT Try.f3 B w0) ⟨#[u0, .slice p.sa p.S.length p.sc, .int .i32 p.probe, .pointer (some ⟨p.bst, 0, none⟩), u4, u5, u6, .int .i64 p.S.length, u8, u9, u10, u11, u12, u13, u14, u15, u16, u17, u18, u19, u20, u21, u22, u23, u24, u25, u26, u27, u28, u29, u30, u31, u32, u33, u34, u35, u36, u37, u38, u39, u40, u41, u42, u43, u44, u45, u46, u47, u48, u49, u50, u51, u52, u53, u54, u55, u56, u57, u58, u59, u60, u61, u62, u63, u64, u65, u66, u67, u68, u69, u70, u71, u72, u73, u74, u75, u76, u77, u78, u79, u80, u81, u82, u83, u84, u85, u86, u87, u88, u89, u90, u91, u92, u93, u94, u95, u96, u97, u98, u99, u100, u101, u102, u103, u104, u105, u106, u107, u108, u109, u110, u111, u112, u113, u114, u115, u116, u117, u118, u119, u120, u121, u122, u123, u124, u125, u126, u127, u128, u129, u130, u131, u132, u133, u134, u135, u136, u137, u138, u139, u140, u141, u142, u143, u144, u145, u146, u147, u148, u149, u150, u151, u152, u153, u154, u155, u156, u157, u158, u159, u160, u161, u162, u163, u164, u165, u166, u167, u168, u169, u170, u171, u172, u173, u174, u175, u176, u177, u178, u179, u180, u181, u182, u183, u184, u185, u186, u187, u188, u189, u190, u191, u192, u193, u194, u195, u196, u197, u198, u199, u200, u201, u202, u203, u204, u205, u206, u207, u208, u209, u210, u211, u212, u213, u214, u215, u216, u217, u218, u219, u220, u221, u222, u223, u224, u225, u226, u227, u228, u229, u230, u231, u232, u233, u234, u235, u236, u237, u238, u239, u240, u241, u242, u243, u244, u245, u246, u247, u248, u249, u250, u251, u252, u253, u254, u255, u256, u257, u258, u259, u260, u261, u262, u263, u264, u265, u266, u267, u268, u269, u270, u271, u272, u273, u274, u275, u276, u277, u278, u279, u280, u281, u282, u283, u284, u285, u286, u287, u288, u289, u290, u291, u292, u293, u294, u295, u296, u297, u298, u299, u300, u301, u302, u303, u304, u305, u306, u307, u308, u309, u310, u311, u312, u313, u314, u315, u316, u317, u318, u319, u320, u321, u322, u323, u324, u325, u326, u327, u328, u329, u330, u331, u332, u333, u334, u335, u336, u337, u338, u339, u340, u341, u342, u343, u344, u345, u346, u347, u348, u349, u350, u351, u352, u353, u354, u355, u356, u357, u358, u359, u360, u361, u362, u363, u364, u365, u366, u367, u368, u369, u370, u371, u372, u373, u374, u375, u376, u377, u378, u379, u380, u381, u382, u383, u384, u385, u386, u387, u388, u389, u390, u391, u392, u393, u394, u395, u396, u397, u398, u399, u400, u401, u402, u403, u404, u405, u406, u407, u408, u409, u410, u411, u412, u413, u414, u415, u416, u417, u418, u419, u420, u421, u422, u423, u424, u425, u426, u427, u428, u429, u430, u431, u432, u433, u434, u435, u436, u437, u438, u439, u440, u441, u442, u443, u444, u445, u446, u447, u448, u449, u450, u451, u452, u453, u454, u455, u456, u457, u458, u459, u460, u461, u462, u463, u464, u465, u466, u467, u468, u469, u470, u471, u472, u473, u474, u475, u476, u477, u478, u479, u480, u481, u482, u483, u484, u485, u486, u487, u488, u489, u490, u491, u492, u493, u494, u495, u496, u497, u498, u499, u500, u501, u502, u503, u504, u505, u506, u507, u508, u509, u510, u511, u512, u513, u514, u515, u516, u517, u518, u519, u520, u521, u522, u523, u524, u525, u526, u527, u528, u529, u530, u531, u532, u533, u534, u535, u536, u537, u538, u539, u540, u541, u542, u543, u544, u545, u546, u547, u548, u549, u550, u551, u552, u553, u554, u555, u556, u557, u558, u559, u560, u561, u562, u563, u564, u565, u566, u567, u568, u569, u570, u571, u572, u573, u574, u575, u576, u577, u578, u579, u580, u581, u582, u583, u584, u585, u586, u587, u588, u589, u590, u591, u592, u593, u594, u595, u596, u597, u598, u599, u600, u601, u602, u603, u604, u605, u606, u607, u608, u609, u610, u611, u612, u613, u614, u615, u616, u617, u618, u619, u620, u621, u622, u623, u624, u625, u626, u627, u628, u629, u630, u631, u632, u633, u634, u635, u636, u637, u638, u639, u640, u641, u642, u643, u644, u645, u646, u647, u648, u649, u650, u651, u652, u653, u654, u655, u656, u657], []⟩ w := by
  have k0 : w.cell? ⟨p.bst, 0, none⟩ = some (.slice p.a0 p.ends.length p.q0) := cell_blk hst rfl
  have k1 : w.cell? ⟨p.bst, 1, none⟩ = some (.slice p.a1 p.I0.length p.q1) := cell_blk hst rfl
  have k2 : w.cell? ⟨p.bst, 2, none⟩ = some (.slice p.a2 p.R0.length p.q2) := cell_blk hst rfl
  have k3 : w.cell? ⟨p.bst, 3, none⟩ = some (.bool p.b0) := cell_blk hst rfl
  have k4 : w.cell? ⟨p.bst, 4, none⟩ = some (.bool p.b1) := cell_blk hst rfl
  have k5 : w.cell? ⟨p.bst, 5, none⟩ = some (.bool p.b2) := cell_blk hst rfl
  have k6 : w.cell? ⟨p.bst, 6, none⟩ = some (.bool p.b3) := cell_blk hst rfl
  have k7 : w.cell? ⟨p.bst, 7, none⟩ = some (.slice p.a4 p.des.length p.q4) := cell_blk hst rfl
  have hlen := hC.len
  have hCd := hC.d
  rw [← hlen] at hCd
  have hde : ∀ i, i < p.des.length → Sl w (p.des.getD i d0).ad (ints (p.des.getD i d0).zs) ∧ ∀ x, (p.des.getD i d0).ad = some x → x.block < w.heap.size := by
    intro i hi
    have ho := hC.co.own i hi
    refine ⟨sl_of_row ho, fun x hx => ?_⟩
    rw [hx] at ho
    exact (row_ge ho).2
  have hmem : ∀ x ∈ p.des, ∃ i, i < p.des.length ∧ p.des.getD i d0 = x := by
    intro x hx
    obtain ⟨i, hi, e⟩ := List.getElem_of_mem hx
    exact ⟨i, hi, by rw [List.getD_eq_getElem?_getD, List.getElem?_eq_getElem hi]; exact e⟩
  have hZ : ZV w p.a0 p.a1 p.a2 p.a4 p.ends p.I0 p.R0 p.des := ⟨sl_of_row hC.e, sl_of_row hC.i, sl_of_row hC.r, sl_of_row hCd, fun x hx => by
    obtain ⟨i, hi, e⟩ := hmem x hx
    rw [← e]; exact (hde i hi).1⟩
  have hln := hpl.dom.len
  have l5 : ∀ x ∈ p.des, x.zs.length ≤ 1048576 := fun x hx => by
    obtain ⟨i, hi, e⟩ := hmem x hx
    rw [← e]; exact hln.z i hi
  have hcl := clone_any p.a0 p.q0 p.a1 p.q1 p.a2 p.q2 p.b0 p.b1 p.b2 p.b3 p.a4 p.q4 p.ends p.I0 p.R0 p.des w hZ hln.e hln.i hln.r hln.d l5
  have hBL : BaseL p w.heap.size := ⟨(Array.getElem?_eq_some_iff.1 hst).1, fun x hx => by have := hC.e; rw [hx] at this; exact (row_ge this).2, fun x hx => by have := hC.i; rw [hx] at this; exact (row_ge this).2, fun x hx => by have := hC.r; rw [hx] at this; exact (row_ge this).2, fun x hx => by have := hCd; rw [hx] at this; exact (row_ge this).2, fun i hi => (hde i hi).2, hsl⟩
  have hB0 : Base0 w p := ⟨k0, k1, k2, k7, fun k hk => by
    match k, hk with
    | 0, _ => exact k3
    | 1, _ => exact k4
    | 2, _ => exact k5
    | 3, _ => exact k6, hZ.e, hZ.i, hZ.r, hZ.d, fun i hi => (hde i hi).1, hss⟩
  have HCL : Hid _ := hcl
  have HBL : Hid _ := hBL
  have HB0 : Hid _ := hB0
  have HPL : Hid _ := hpl
  have HL : Hid _ := And.intro hln (And.intro l5 wk)
  have HB : Hid _ := hb
  clear hcl hBL hB0 hpl hln l5 wk hb hZ hde hmem hC hCd hlen hss hsl hst
  rw [tl3_5]
  refine wp_seq_k (fun K hK => ?_)
  conv => arg 2; whnf
  go_wp2_with fail
  refine Calls.mono HCL.out ?_
  rintro e w2 ⟨v, rfl, y0, y1, y2, y4, des2, rfl, hC2, hb2⟩
  have HC2 : Hid _ := hC2
  have HB2 : Hid _ := hb2
  clear hC2 hb2 HCL k0 k1 k2 k3 k4 k5 k6 k7
  go_wp2_with fail
  refine Calls.mono (build_any _ y0 y1 y2 y4 p.b0 p.b1 p.b2 p.b3 p.ends p.I0 p.R0 p.des des2 w2 HC2.out HL.out.1.e HL.out.1.i HL.out.1.r HL.out.1.d HL.out.2.1 HL.out.2.2) ?_
  rintro e w3 ⟨v, rfl, cb, tb, db, mi, N, lim, vi, vr, vt, f, o0, rfl, hV, hlim, hsome, hK⟩
  have HV : Hid _ := hV
  have HKK : Hid _ := hK
  have HSM : Hid _ := hsome
  clear hV hK hsome
  go_wp2_with fail
  have hV := HV.out
  have hK := HKK.out
  have hsome := HSM.out
  have hge : ∀ k, FV (fun k => w2.heap.size ≤ k) des2 k → w.heap.size ≤ k := by
    rintro k (hk | ⟨i, a, hi, ha, rfl⟩)
    · exact Nat.le_trans HB2.out.size hk
    · have ho := HC2.out.co.own i hi
      rw [ha] at ho
      exact (row_ge ho).1
  have hFF : ∀ g, g < w3.heap.size → FV (fun k => w2.heap.size < k) des2 g → w.heap.size ≤ g := by
    rintro g _ (hk | hk)
    · exact Nat.le_trans HB2.out.size (Nat.le_of_lt hk)
    · exact hge g (Or.inr hk)
  have b23 : Below w.heap.size w2 w3 := (hK.mono hge).below (fun k hk hh => by omega) HB2.out.size
  have b : Below w.heap.size w w3 := HB2.out.trans b23
  have hpl := HPL.out
  have hs := HB0.out
  have hL := HBL.out
  have hnest := nest_of hsome hpl.dom.st.n0 hpl.dom.st.n1 hpl.dom.st.n2
  have hR : Rd { p with cb := cb, o0 := o0 } (fun k => w.heap.size ≤ k) w3 0 o0 (dmOf p.des) := ⟨⟨tb, db, mi, N, lim, vi, vr, vt, f, hV.reF hFF, by omega⟩, OutI.start hsome, hnest, DmI.start⟩
  have hB' : Base0 w3 { p with cb := cb, o0 := o0 } := ⟨cell_later b hs.k0, cell_later b hs.k1, cell_later b hs.k2, cell_later b hs.k7, fun k hk => cell_later b (hs.kb k hk), hs.s0.below b, hs.s1.below b, hs.s2.below b, hs.s4.below b, fun i hi => (hs.sd i hi).below b, hs.ss.below b⟩
  exact sx6 { p with cb := cb, o0 := o0 } (fun k => w.heap.size ≤ k) w.heap.size _ _ _ _ _ _ _ _ _ _ _ _ _ _ _ _ _ _ _ _ _ _ _ _ _ _ _ _ _ _ _ _ _ _ _ _ _ _ _ _ _ _ _ _ _ _ _ _ _ _ _ _ _ _ _ _ _ _ _ _ _ _ _ _ _ _ _ _ _ _ _ _ _ _ _ _ _ _ _ _ _ _ _ _ _ _ _ _ _ _ _ _ _ _ _ _ _ _ _ _ _ _ _ _ _ _ _ _ _ _ _ _ _ _ _ _ _ _ _ _ _ _ _ _ _ _ _ _ _ _ _ _ _ _ _ _ _ _ _ _ _ _ _ _ _ _ _ _ _ _ _ _ _ _ _ _ _ _ _ _ _ _ _ _ _ _ _ _ _ _ _ _ _ _ _ _ _ _ _ _ _ _ _ _ _ _ _ _ _ _ _ _ _ _ _ _ _ _ _ _ _ _ _ _ _ _ _ _ _ _ _ _ _ _ _ _ _ _ _ _ _ _ _ _ _ _ _ _ _ _ _ _ _ _ _ _ _ _ _ _ _ _ _ _ _ _ _ _ _ _ _ _ _ _ _ _ _ _ _ _ _ _ _ _ _ _ _ _ _ _ _ _ _ _ _ _ _ _ _ _ _ _ _ _ _ _ _ _ _ _ _ _ _ _ _ _ _ _ _ _ _ _ _ _ _ _ _ _ _ _ _ _ _ _ _ _ _ _ _ _ _ _ _ _ _ _ _ _ _ _ _ _ _ _ _ _ _ _ _ _ _ _ _ _ _ _ _ _ _ _ _ _ _ _ _ _ _ _ _ _ _ _ _ _ _ _ _ _ _ _ _ _ _ _ _ _ _ _ _ _ _ _ _ _ _ _ _ _ _ _ _ _ _ _ _ _ _ _ _ _ _ _ _ _ _ _ _ _ _ _ _ _ _ _ _ _ _ _ _ _ _ _ _ _ _ _ _ _ _ _ _ _ _ _ _ _ _ _ _ _ _ _ _ _ _ _ _ _ _ _ _ _ _ _ _ _ _ _ _ _ _ _ _ _ _ _ _ _ _ _ _ _ _ _ _ _ _ _ _ _ _ _ _ _ _ _ _ _ _ _ _ _ _ _ _ _ _ _ _ _ _ _ _ _ _ _ _ _ _ _ _ _ _ _ _ _ _ _ _ _ _ _ _ _ _ _ _ _ _ _ _ _ _ _ _ _ _ _ _ _ _ _ _ _ _ _ _ _ _ _ _ _ _ _ _ _ _ _ _ _ _ _ _ _ _ _ _ _ _ _ _ _ _ _ _ _ _ _ _ _ _ _ _ _ _ _ _ _ _ _ _ _ _ _ _ _ _ _ _ _ _ _ _ _ _ _ _ _ _ _ _ _ _ _ _ _ _ _ _ _ _ _ _ _ _ _ _ _ _ _ _ _ _ _ _ _ _ _ _ _ _ _ _ _ _ _ _ _ _ _ _ _ _ hR hB' ⟨hL.st, hL.a0, hL.a1, hL.a2, hL.a4, hL.sd, hL.sa⟩ ⟨hpl.dom, hpl.pw, hpl.tw, hpl.rg⟩ (fun k hk => Nat.le_trans b.size hk) (fun k hk hh => by omega) b.size hBw (HB.out.trans (b.mono hBw))

end Go.Proofs.Qxb6625890a
