/-
  Seat b6625890a: the law FnReadScriptMatchesFirstFailureModel, the chain of reads that is looked for. Frames written by program.
-/
import Derived.Test.Qxb6625890aBH
namespace Go.Proofs.Qxb6625890a
open Go.RowKit Go.Maps
set_option linter.unusedVariables false

theorem step_at {w : World} {a : Option Addr} {l : List Step} {b off : Nat} (h : Sl w a (flatS l)) (e : a = some ⟨b, off, none⟩) {k : Nat} (hk : k < l.length) : w.cell? ⟨b, off + k * 8 + 5, none⟩ = some (.int .i32 (l.getD k e0).t) ∧ w.cell? ⟨b, off + k * 8 + 6, none⟩ = some (.int .i32 (l.getD k e0).item) := by
  obtain ⟨b', off', e', _, _, _, _, _, a5, a6, _⟩ := step_cell h hk
  rw [e] at e'
  cases e'
  exact ⟨a5, a6⟩
theorem tri_set {w : World} {M g1 g2 g3 C k T : Nat} {xs ys zs : List Value} {v1 v2 v3 : Value} {wE : World} (r1 : w.ownsRow M T 1 (.slice (some ⟨g1, 0, none⟩) C C) C xs) (r2 : w.ownsRow M 21 1 (.slice (some ⟨g2, 0, none⟩) C C) C ys) (r3 : w.ownsRow M 21 1 (.slice (some ⟨g3, 0, none⟩) C C) C zs) (n12 : g1 ≠ g2) (n13 : g1 ≠ g3) (n23 : g2 ≠ g3) (hb : Below M wE w) :
    (((w.setCell ⟨g1, k, none⟩ v1).setCell ⟨g2, k, none⟩ v2).setCell ⟨g3, k, none⟩ v3).ownsRow M T 1 (.slice (some ⟨g1, 0, none⟩) C C) C (xs.set k v1) ∧ (((w.setCell ⟨g1, k, none⟩ v1).setCell ⟨g2, k, none⟩ v2).setCell ⟨g3, k, none⟩ v3).ownsRow M 21 1 (.slice (some ⟨g2, 0, none⟩) C C) C (ys.set k v2) ∧ (((w.setCell ⟨g1, k, none⟩ v1).setCell ⟨g2, k, none⟩ v2).setCell ⟨g3, k, none⟩ v3).ownsRow M 21 1 (.slice (some ⟨g3, 0, none⟩) C C) C (zs.set k v3) ∧ Below M wE (((w.setCell ⟨g1, k, none⟩ v1).setCell ⟨g2, k, none⟩ v2).setCell ⟨g3, k, none⟩ v3) := by
  have b1 := (row_ge r1).1
  have b2 := (row_ge r2).1
  have b3 := (row_ge r3).1
  have hs1 := grown_setCell' (w := w) g1 k v1
  have hs2 := grown_setCell' (w := w.setCell ⟨g1, k, none⟩ v1) g2 k v2
  have hs3 := grown_setCell' (w := (w.setCell ⟨g1, k, none⟩ v1).setCell ⟨g2, k, none⟩ v2) g3 k v3
  have p1 := row_kept (row_kept (r1.stored k v1).1 hs2 (fun g hg => by cases hg; simpa using n12)) hs3 (fun g hg => by cases hg; simpa using n13)
  have p2 := row_kept ((row_kept r2 hs1 (fun g hg => by cases hg; simpa using n12.symm)).stored k v2).1 hs3 (fun g hg => by cases hg; simpa using n23)
  have p3 := ((row_kept (row_kept r3 hs1 (fun g hg => by cases hg; simpa using n13.symm)) hs2 (fun g hg => by cases hg; simpa using n23.symm)).stored k v3).1
  exact ⟨p1, p2, p3, ((hb.setCell (p := ⟨g1, k, none⟩) b1 _).setCell (p := ⟨g2, k, none⟩) b2 _).setCell (p := ⟨g3, k, none⟩) b3 _⟩
def jv (o : Option Nat) : Int := match o with | none => -1 | some j => j
theorem jv_none : jv none = -1 := rfl
theorem jv_some (j : Nat) : jv (some j) = j := rfl
theorem tl3_21 : tl Try.f3 21 = Code.seq (st Try.f3 21) (tl Try.f3 22) := by kernel_rfl

set_option maxRecDepth 100000 in
set_option maxHeartbeats 2000000 in
theorem sx21 {w w0 : World} {B : Nat} (p : SP) (wE : World) (gd gk ge gp : Nat) (xs ys zs : List Value) (u0 u4 u5 u6 u9 u10 u11 u12 u13 u15 u16 u17 u18 u19 u20 u21 u22 u28 u29 u30 u31 u32 u33 u34 u35 u36 u37 u38 u39 u40 u41 u42 u43 u44 u45 u46 u47 u48 u49 u50 u51 u52 u53 u54 u55 u56 u57 u58 u59 u60 u61 u62 u63 u64 u65 u66 u67 u68 u69 u70 u71 u72 u73 u74 u75 u76 u77 u78 u79 u80 u81 u82 u83 u84 u85 u86 u87 u88 u89 u90 u91 u92 u93 u94 u95 u96 u97 u98 u99 u100 u101 u102 u103 u104 u105 u106 u107 u108 u109 u110 u111 u112 u113 u114 u115 u116 u117 u118 u119 u120 u121 u122 u123 u124 u125 u126 u127 u128 u129 u130 u131 u132 u133 u134 u135 u136 u137 u138 u139 u140 u141 u142 u143 u144 u145 u146 u147 u148 u149 u150 u151 u152 u153 u154 u155 u156 u157 u158 u159 u160 u161 u162 u163 u164 u165 u166 u167 u168 u169 u170 u171 u172 u173 u174 u175 u176 u177 u178 u179 u180 u181 u182 u183 u184 u185 u186 u187 u188 u189 u190 u191 u192 u193 u194 u195 u196 u197 u198 u199 u200 u201 u202 u203 u204 u205 u206 u207 u208 u209 u210 u211 u212 u213 u214 u215 u216 u217 u218 u219 u220 u221 u222 u223 u224 u225 u226 u227 u228 u229 u230 u231 u232 u233 u234 u235 u236 u237 u238 u239 u240 u241 u242 u243 u244 u245 u246 u247 u248 u249 u250 u251 u252 u253 u254 u255 u256 u257 u258 u259 u260 u261 u262 u263 u264 u265 u266 u267 u268 u269 u270 u271 u272 u273 u274 u275 u276 u277 u278 u279 u280 u281 u282 u283 u284 u285 u286 u287 u288 u289 u290 u291 u292 u293 u294 u295 u296 u297 u298 u299 u300 u301 u302 u303 u304 u305 u306 u307 u308 u309 u310 u311 u312 u313 u314 u315 u316 u317 u318 u319 u320 u321 u322 u323 u324 u325 u326 u327 u328 u329 u330 u331 u332 u333 u334 u335 u336 u337 u338 u339 u340 u341 u342 u343 u344 u345 u346 u347 u348 u349 u350 u351 u352 u353 u354 u355 u356 u357 u358 u359 u360 u361 u362 u363 u364 u365 u366 u367 u368 u369 u370 u371 u372 u373 u374 u375 u376 u377 u378 u379 u380 u381 u382 u383 u384 u385 u386 u387 u388 u389 u390 u391 u392 u393 u394 u395 u396 u397 u398 u399 u400 u401 u402 u403 u404 u405 u406 u407 u408 u409 u410 u411 u412 u413 u414 u415 u416 u417 u418 u419 u420 u421 u422 u423 u424 u425 u426 u427 u428 u429 u430 u431 u432 u433 u434 u435 u436 u437 u438 u439 u440 u441 u442 u443 u444 u445 u446 u447 u448 u449 u450 u451 u452 u453 u454 u455 u456 u457 u458 u459 u460 u461 u462 u463 u464 u465 u466 u467 u468 u469 u470 u471 u472 u473 u474 u475 u476 u477 u478 u479 u480 u481 u482 u483 u484 u485 u486 u487 u488 u489 u490 u491 u492 u493 u494 u495 u496 u497 u498 u499 u500 u501 u502 u503 u504 u505 u506 u507 u508 u509 u510 u511 u512 u513 u514 u515 u516 u517 u518 u519 u520 u521 u522 u523 u524 u525 u526 u527 u528 u529 u530 u531 u532 u533 u534 u535 u536 u537 u538 u539 u540 u541 u542 u543 u544 u545 u546 u547 u548 u549 u550 u551 u552 u553 u554 u555 u556 u557 u558 u559 u560 u561 u562 u563 u564 u565 u566 u567 u568 u569 u570 u571 u572 u573 u574 u575 u576 u577 u578 u579 u580 u581 u582 u583 u584 u585 u586 u587 u588 u589 u590 u591 u592 u593 u594 u595 u596 u597 u598 u599 u600 u601 u602 u603 u604 u605 u606 u607 u608 u609 u610 u611 u612 u613 u614 u615 u616 u617 u618 u619 u620 u621 u622 u623 u624 u625 u626 u627 u628 u629 u630 u631 u632 u633 u634 u635 u636 u637 u638 u639 u640 u641 u642 u643 u644 u645 u646 u647 u648 u649 u650 u651 u652 u653 u654 u655 u656 u657 : Value)
    (h : Env w0 B wE p) (hd : ∀ j, j < p.S.length → wE.cell? ⟨gd, j, none⟩ = some (.bool (p.dr j))) (hbE : Below wE.heap.size wE w) (r1 : w.ownsRow wE.heap.size 4 1 (.slice (some ⟨gk, 0, none⟩) p.S.length p.S.length) p.S.length xs) (r2 : w.ownsRow wE.heap.size 21 1 (.slice (some ⟨ge, 0, none⟩) p.S.length p.S.length) p.S.length ys) (r3 : w.ownsRow wE.heap.size 21 1 (.slice (some ⟨gp, 0, none⟩) p.S.length p.S.length) p.S.length zs) (n12 : gk ≠ ge) (n13 : gk ≠ gp) (n23 : ge ≠ gp) (hx0 : ∀ j, j < p.S.length → xs[j]? = some (.bool false)) :
    Code.wp Try.prog (tl Try.f3 21) (QT Try.f3 B w0) ⟨#[u0, .slice p.sa p.S.length p.sc, .int .i32 p.probe, .pointer (some ⟨p.bst, 0, none⟩), u4, u5, u6, .int .i64 p.S.length, .pointer (some ⟨p.cb, 0, none⟩), u9, u10, u11, u12, u13, .slice (some ⟨gd, 0, none⟩) p.S.length p.S.length, u15, u16, u17, u18, u19, u20, u21, u22, .int .i64 p.lim, .slice (some ⟨gk, 0, none⟩) p.S.length p.S.length, .slice (some ⟨ge, 0, none⟩) p.S.length p.S.length, .slice (some ⟨gp, 0, none⟩) p.S.length p.S.length, .int .i64 p.R0.length, u28, u29, u30, u31, u32, u33, u34, u35, u36, u37, u38, u39, u40, u41, u42, u43, u44, u45, u46, u47, u48, u49, u50, u51, u52, u53, u54, u55, u56, u57, u58, u59, u60, u61, u62, u63, u64, u65, u66, u67, u68, u69, u70, u71, u72, u73, u74, u75, u76, u77, u78, u79, u80, u81, u82, u83, u84, u85, u86, u87, u88, u89, u90, u91, u92, u93, u94, u95, u96, u97, u98, u99, u100, u101, u102, u103, u104, u105, u106, u107, u108, u109, u110, u111, u112, u113, u114, u115, u116, u117, u118, u119, u120, u121, u122, u123, u124, u125, u126, u127, u128, u129, u130, u131, u132, u133, u134, u135, u136, u137, u138, u139, u140, u141, u142, u143, u144, u145, u146, u147, u148, u149, u150, u151, u152, u153, u154, u155, u156, u157, u158, u159, u160, u161, u162, u163, u164, u165, u166, u167, u168, u169, u170, u171, u172, u173, u174, u175, u176, u177, u178, u179, u180, u181, u182, u183, u184, u185, u186, u187, u188, u189, u190, u191, u192, u193, u194, u195, u196, u197, u198, u199, u200, u201, u202, u203, u204, u205, u206, u207, u208, u209, u210, u211, u212, u213, u214, u215, u216, u217, u218, u219, u220, u221, u222, u223, u224, u225, u226, u227, u228, u229, u230, u231, u232, u233, u234, u235, u236, u237, u238, u239, u240, u241, u242, u243, u244, u245, u246, u247, u248, u249, u250, u251, u252, u253, u254, u255, u256, u257, u258, u259, u260, u261, u262, u263, u264, u265, u266, u267, u268, u269, u270, u271, u272, u273, u274, u275, u276, u277, u278, u279, u280, u281, u282, u283, u284, u285, u286, u287, u288, u289, u290, u291, u292, u293, u294, u295, u296, u297, u298, u299, u300, u301, u302, u303, u304, u305, u306, u307, u308, u309, u310, u311, u312, u313, u314, u315, u316, u317, u318, u319, u320, u321, u322, u323, u324, u325, u326, u327, u328, u329, u330, u331, u332, u333, u334, u335, u336, u337, u338, u339, u340, u341, u342, u343, u344, u345, u346, u347, u348, u349, u350, u351, u352, u353, u354, u355, u356, u357, u358, u359, u360, u361, u362, u363, u364, u365, u366, u367, u368, u369, u370, u371, u372, u373, u374, u375, u376, u377, u378, u379, u380, u381, u382, u383, u384, u385, u386, u387, u388, u389, u390, u391, u392, u393, u394, u395, u396, u397, u398, u399, u400, u401, u402, u403, u404, u405, u406, u407, u408, u409, u410, u411, u412, u413, u414, u415, u416, u417, u418, u419, u420, u421, u422, u423, u424, u425, u426, u427, u428, u429, u430, u431, u432, u433, u434, u435, u436, u437, u438, u439, u440, u441, u442, u443, u444, u445, u446, u447, u448, u449, u450, u451, u452, u453, u454, u455, u456, u457, u458, u459, u460, u461, u462, u463, u464, u465, u466, u467, u468, u469, u470, u471, u472, u473, u474, u475, u476, u477, u478, u479, u480, u481, u482, u483, u484, u485, u486, u487, u488, u489, u490, u491, u492, u493, u494, u495, u496, u497, u498, u499, u500, u501, u502, u503, u504, u505, u506, u507, u508, u509, u510, u511, u512, u513, u514, u515, u516, u517, u518, u519, u520, u521, u522, u523, u524, u525, u526, u527, u528, u529, u530, u531, u532, u533, u534, u535, u536, u537, u538, u539, u540, u541, u542, u543, u544, u545, u546, u547, u548, u549, u550, u551, u552, u553, u554, u555, u556, u557, u558, u559, u560, u561, u562, u563, u564, u565, u566, u567, u568, u569, u570, u571, u572, u573, u574, u575, u576, u577, u578, u579, u580, u581, u582, u583, u584, u585, u586, u587, u588, u589, u590, u591, u592, u593, u594, u595, u596, u597, u598, u599, u600, u601, u602, u603, u604, u605, u606, u607, u608, u609, u610, u611, u612, u613, u614, u615, u616, u617, u618, u619, u620, u621, u622, u623, u624, u625, u626, u627, u628, u629, u630, u631, u632, u633, u634, u635, u636, u637, u638, u639, u640, u641, u642, u643, u644, u645, u646, u647, u648, u649, u650, u651, u652, u653, u654, u655, u656, u657], []⟩ w := by
  have hn := h.pl.dom.n
  have hlim := SP.lim_le (p := p)
  have HE : Hid _ := h
  have HD : Hid _ := hd
  have HBE : Hid _ := hbE
  have HRW : Hid _ := And.intro r1 (And.intro r2 r3)
  have HX0 : Hid _ := hx0
  have g1 := (row_ge r1).1
  have g2 := (row_ge r2).1
  have g3 := (row_ge r3).1
  clear h hd hbE r1 r2 r3 hx0
  rw [tl3_21]
  refine wp_seq_k (fun K hK => ?_)
  conv => arg 2; whnf
  go_wp2_with fail
  go_loopw [27, 28] (fun nx i wr => ∃ (k : Nat) (xs ys zs : List Value), k ≤ p.lim ∧ i = .int .i64 k ∧ nx = .int .i64 ((p.R k).length : Nat) ∧ wr.ownsRow wE.heap.size 4 1 (.slice (some ⟨gk, 0, none⟩) p.S.length p.S.length) p.S.length xs ∧ wr.ownsRow wE.heap.size 21 1 (.slice (some ⟨ge, 0, none⟩) p.S.length p.S.length) p.S.length ys ∧ wr.ownsRow wE.heap.size 21 1 (.slice (some ⟨gp, 0, none⟩) p.S.length p.S.length) p.S.length zs ∧ (∀ j, j < p.S.length → xs[j]? = some (.bool (decide (j < k) && p.fr j))) ∧ (∀ j, j < k → p.fr j = true → ys[j]? = some (.int .i32 ((p.R j).length : Nat))) ∧ (∀ j, j < k → p.fr j = true → zs[j]? = some (.int .i32 (p.G j (p.S.getD j e0).item.toNat).2)) ∧ Below wE.heap.size wE wr) (fun _ i _ => p.lim - (intOf i).toNat)
  case atStart => exact ⟨0, xs, ys, zs, by omega, rfl, rfl, HRW.out.1, HRW.out.2.1, HRW.out.2.2, fun j hj => by rw [HX0.out j hj]; rfl, fun j hj => (by omega), fun j hj => (by omega), HBE.out⟩
  case round =>
    obtain ⟨k, xs, ys, zs, hk, rfl, rfl, r1, r2, r3, hx, hy, hz, hbr⟩ := hrel
    clear HRW HX0 HBE
    have HBR : Hid _ := hbr
    have HRW : Hid _ := And.intro r1 (And.intro r2 r3)
    have HXY : Hid _ := And.intro hx (And.intro hy hz)
    by_cases hlt : k < p.lim
    · have hlt' : (k : Int) < (p.lim : Int) := by omega
      have hlt0 : (0 : Int) ≤ (k : Int) := by omega
      have hltn : k < p.S.length := by omega
      have hltn' : (k : Int) < (p.S.length : Int) := by omega
      have hpl := HE.out.pl
      obtain ⟨im, him⟩ := toNat_of (hpl.dom.ok k hltn).1
      obtain ⟨⟨i1, i2⟩, _⟩ := hpl.rg k hltn
      rw [him] at i1 i2
      have hRl := SP.Rlen hpl k (by omega)
      have hrr := hpl.dom.len.r
      have hii := hpl.dom.len.i
      obtain ⟨sb, so, es, a0, a1, a2, a3, a4, a5, a6, a7⟩ := step_cell (Sl.below HE.out.base.ss hbr) hltn
      rw [him] at a6
      rw [es]
      have HES : Hid _ := es
      have HFL : Hid _ := fr_law (lim := p.lim) (R0 := p.R0) hpl.dom.ok hpl.dom.st.wr hpl.dom.st.lr (Nat.le_of_lt hlt) hltn
      have HPL : Hid _ := prev_law (lim := p.lim) (R0 := p.R0) hpl.dom.ok k (Nat.le_of_lt hlt) (by omega) im
      have hRs : p.R (k + 1) = if k < p.lim ∧ p.fr k = true then p.R k ++ [((p.S.getD k e0).t, (p.G k (p.S.getD k e0).item.toNat).2)] else p.R k := PR_succ (lim := p.lim) (R0 := p.R0) hpl.dom.ok hltn
      have HRS : Hid _ := hRs
      have hitm : (p.S.getD k e0).item.toNat = im := by omega
      have HIM : Hid _ := hitm
      rw [hitm] at HFL HRS
      have k1 := cell_later hbr HE.out.base.k1
      have k2 := cell_later hbr HE.out.base.k2
      have HPLN : Hid _ := hpl
      clear hRs hpl r1 r2 r3 hx hy hz es hitm
      obtain ⟨gs, hgs⟩ : ∃ gs, p.S.getD k e0 = gs := ⟨_, rfl⟩
      rw [hgs] at him a0 a1 a2 a3 a4 a5 a7 HFL HRS HIM
      have HGS : Hid _ := hgs
      have HIME : Hid _ := him
      clear hgs him
      have hb1 : Below wr.heap.size wr (wr.alloc (.cells #[.int .u8 gs.kd, .int .i64 gs.tx, .string gs.it, .int .i64 gs.so, .bool gs.hs, .int .i32 gs.t, .int .i32 (im : Int), .int .i32 gs.src] 41)) := (Below.refl _ _).alloc (Nat.le_refl _) _
      have hn1 : (wr.alloc (.cells #[.int .u8 gs.kd, .int .i64 gs.tx, .string gs.it, .int .i64 gs.so, .bool gs.hs, .int .i32 gs.t, .int .i32 (im : Int), .int .i32 gs.src] 41)).heap[wr.heap.size]? = some (.cells #[.int .u8 gs.kd, .int .i64 gs.tx, .string gs.it, .int .i64 gs.so, .bool gs.hs, .int .i32 gs.t, .int .i32 (im : Int), .int .i32 gs.src] 41 (0, 0)) := heap_alloc_new wr _
      have k1 := cell_later hb1 k1
      have k2 := cell_later hb1 k2
      have HB1 : Hid _ := hb1
      have HN1 : Hid _ := hn1
      clear hb1 hn1 hbr
      obtain ⟨wr1, hw1⟩ : ∃ wr1, wr1 = wr.alloc (.cells #[.int .u8 gs.kd, .int .i64 gs.tx, .string gs.it, .int .i64 gs.so, .bool gs.hs, .int .i32 gs.t, .int .i32 (im : Int), .int .i32 gs.src] 41) := ⟨_, rfl⟩
      have HW1 : Hid _ := hw1
      rw [← hw1] at HB1 HN1
      rw [← hw1] at k1 k2
      go_upto_region 63 with fail
      rw [← HW1.out]
      clear HW1 hw1 a0 a1 a2 a3 a4 a5 a6 a7
      have b5 : wr1.cell? ⟨wr.heap.size, 5, none⟩ = some (.int .i32 gs.t) := cell_blk HN1.out rfl
      have b6 : wr1.cell? ⟨wr.heap.size, 6, none⟩ = some (.int .i32 (im : Int)) := cell_blk HN1.out rfl
      go_upto_if 277 with fail
      go_cut [30] from 262 to 364 (fun s30 wc => s30 = .int .i32 (p.I0.getD im (-1, -1)).2 ∧ wc = wr1)
      case first =>
        by_cases hin : im < p.I0.length
        · have hin' : (im : Int) < (p.I0.length : Int) := by omega
          have him0 : (0 : Int) ≤ (im : Int) := by omega
          obtain ⟨ib, io, ei, c1, c2⟩ := item_cell (Sl.below (Sl.below HE.out.base.s1 HBR.out) HB1.out) hin
          rw [ei] at k1
          rw [getD_any hin (0, 0) (-1, -1)] at c2
          clear HE HD HBR HRW HXY HFL HPL HRS HPLN HGS
          generalize p.I0.getD im (-1, -1) = q at *
          go_wp2_with fail
          go_meet
          case rel => exact ⟨rfl, rfl⟩
        · have hin' : ¬ ((im : Int) < (p.I0.length : Int)) := by omega
          have hq : p.I0.getD im (-1, -1) = (-1, -1) := by rw [List.getD_eq_getElem?_getD, List.getElem?_eq_none (by omega : p.I0.length ≤ im)]; rfl
          have HQ : Hid _ := hq
          clear HE HD HBR HRW HXY HFL HPL HRS HPLN HGS hq
          go_wp2_with fail
          go_meet
          case rel => exact ⟨by rw [HQ.out], rfl⟩
      case rest =>
        obtain ⟨rfl, hwc⟩ := hcut
        have hwc := hwc.symm
        subst hwc
        obtain ⟨il, hil⟩ : ∃ il, (p.I0.getD im (-1, -1)).2 = il := ⟨_, rfl⟩
        rw [hil]
        have HIL : Hid _ := hil
        clear hil
        go_upto_block 10 with fail
        go_cut [31] from 262 to 364 (fun s31 wc => s31 = .int .i64 (jv (lastJ p.S im k)) ∧ Below wr1.heap.size wr1 wc)
        case first =>
          have HSS : Hid _ := Sl.below (Sl.below HE.out.base.ss HBR.out) HB1.out
          have HOK : Hid _ := HPLN.out.dom.ok
          clear HE HD HBR HRW HXY HFL HPL HRS HPLN HGS
          go_wp2_with fail
          go_loopw [31] (fun z wi => ∃ q : Nat, q ≤ k ∧ z = .int .i64 ((q : Int) - 1) ∧ (∀ m, q ≤ m → m < k → (p.S.getD m e0).item.toNat ≠ im) ∧ Below wr1.heap.size wr1 wi) (fun z _ => (intOf z + 1).toNat)
          case atStart => exact ⟨k, Nat.le_refl _, by first | rfl | go_num, fun m h1 h2 => (by omega), Below.refl _ _⟩
          case round =>
            obtain ⟨q, hq, rfl, hno, hbi⟩ := hrel
            have HBI : Hid _ := hbi
            have b6 := cell_later hbi b6
            by_cases hq0 : q = 0
            · subst hq0
              have HJ : Hid (lastJ p.S im k = none) := by
                rw [lastJ_skip k (Nat.zero_le _) (fun m _ h2 => hno m (by omega) h2)]; rfl
              rw [show ((0 : Nat) : Int) - 1 = -1 by omega]
              clear hno hbi HSS HOK
              go_wp2_with fail
              go_quiet (fail)
              go_wp2_with fail
              go_meet
              case rel => exact ⟨by rw [HJ.out]; rfl, below_drewN HBI.out _⟩
            · obtain ⟨q', rfl⟩ : ∃ q', q = q' + 1 := ⟨q - 1, by omega⟩
              rw [show ((q' + 1 : Nat) : Int) - 1 = (q' : Int) by omega]
              have hqn : q' < p.S.length := by omega
              have hqn' : (q' : Int) < (p.S.length : Int) := by omega
              have hq0' : (0 : Int) ≤ (q' : Int) := by omega
              obtain ⟨_, c6⟩ := step_at (Sl.below HSS.out hbi) HES.out hqn
              have hi0 := (HOK.out q' hqn).1
              by_cases heq : (p.S.getD q' e0).item.toNat = im
              · have HJ : Hid (lastJ p.S im k = some q') := by
                  rw [lastJ_skip k (show q' + 1 ≤ k by omega) (fun m h1 h2 => hno m h1 h2)]
                  show (if _ then _ else _) = _
                  rw [if_pos heq]
                have hie : (p.S.getD q' e0).item = (im : Int) := by omega
                rw [hie] at c6
                clear hno hbi HSS HOK heq hie hi0
                go_wp2_with fail
                go_quiet (fail)
                go_wp2_with fail
                go_meet
                case rel => exact ⟨by rw [HJ.out]; rfl, below_drewN HBI.out _⟩
              · have hie : ((p.S.getD q' e0).item != (im : Int)) = true := by
                  rw [bne_iff_ne]; omega
                have HNO : Hid (∀ m, q' ≤ m → m < k → (p.S.getD m e0).item.toNat ≠ im) := fun m h1 h2 => by
                  by_cases e : m = q'
                  · subst e; exact heq
                  · exact hno m (by omega) h2
                clear hno hbi HSS HOK heq hi0
                generalize p.S.getD q' e0 = gj at *
                go_wp2_with fail
                go_quiet (fail)
                go_wp2_with fail
                go_roundw
                case rel => exact ⟨q', by omega, by go_num, HNO.out, below_drewN HBI.out _⟩
                case measure => simp [intOf] <;> omega
        case rest =>
          obtain ⟨rfl, hbc⟩ := hcut
          have HBC : Hid _ := hbc
          obtain ⟨jx, hjx⟩ : ∃ jx, jv (lastJ p.S im k) = jx := ⟨_, rfl⟩
          rw [hjx]
          have HJX : Hid _ := hjx
          clear hjx
          go_upto_if 302 with fail
          go_cut [32] from 262 to 364 (fun s32 wc2 => s32 = .bool (p.fr k) ∧ Below wr1.heap.size wr1 wc2)
          case first =>
            have b5 := cell_later hbc b5
            have k2 := cell_later hbc k2
            have HSS : Hid _ := Sl.below (Sl.below (Sl.below HE.out.base.ss HBR.out) HB1.out) hbc
            have HS2 : Hid _ := Sl.below (Sl.below (Sl.below HE.out.base.s2 HBR.out) HB1.out) hbc
            have HLR : Hid _ := HPLN.out.dom.st.lr
            clear HE HD HBR HRW HXY HPL HRS HPLN HGS hbc
            have hjx := HJX.out
            clear HJX
            have hil := HIL.out
            clear HIL
            cases hJ : lastJ p.S im k with
            | some j =>
              rw [hJ, jv_some] at hjx
              subst hjx
              clear hil
              have hf := HFL.out.1 j hJ
              have HF : Hid _ := hf
              have hjl := (lastJ_lt k j hJ).1
              have hjn : j < p.S.length := by omega
              have hjn' : (j : Int) < (p.S.length : Int) := by omega
              have hj0 : (0 : Int) ≤ (j : Int) := by omega
              obtain ⟨c5, _⟩ := step_at HSS.out HES.out hjn
              clear hf hJ HFL HSS HS2 HLR
              generalize p.S.getD j e0 = gj at *
              go_wp2_with fail
              go_quiet (fail)
              go_wp2_with fail
              go_meet
              case rel => exact ⟨congrArg Value.bool HF.out.symm, below_drewN HBC.out _⟩
            | none =>
              rw [hJ, jv_none] at hjx
              subst hjx
              have hf := HFL.out.2 hJ
              rw [hil] at hf
              by_cases hl0 : il < 0
              · rw [decide_eq_true hl0] at hf
                have HF : Hid _ := hf
                clear hf hJ HFL HSS HS2 HLR hil
                go_wp2_with fail
                go_quiet (fail)
                go_wp2_with fail
                go_meet
                case rel => exact ⟨congrArg Value.bool HF.out.symm, below_drewN HBC.out _⟩
              · rw [decide_eq_false hl0] at hf
                obtain ⟨nn, hnn⟩ := toNat_of (show 0 ≤ il by omega)
                subst hnn
                have hin : im < p.I0.length := by
                  by_cases e2 : im < p.I0.length
                  · exact e2
                  · rw [List.getD_eq_getElem?_getD, List.getElem?_eq_none (by omega : p.I0.length ≤ im)] at hil
                    have hil' : (-1 : Int) = (nn : Int) := hil
                    omega
                have hnr := HLR.out im hin
                rw [getD_any hin (0, 0) (-1, -1), hil] at hnr
                have hnl : nn < p.R0.length := by omega
                have hnl' : (nn : Int) < (p.R0.length : Int) := by omega
                have hn0 : (0 : Int) ≤ (nn : Int) := by omega
                obtain ⟨rb, ro, er, c1, _⟩ := item_cell HS2.out hnl
                rw [er] at k2
                rw [Int.toNat_natCast] at hf
                have HF : Hid _ := hf
                clear hf hJ HFL HSS HS2 HLR hil hl0
                generalize p.R0.getD nn (0, 0) = rq at *
                go_wp2_with fail
                go_quiet (fail)
                go_wp2_with fail
                go_meet
                case rel => exact ⟨congrArg Value.bool (by rw [show p.fr k = _ from HF.out]; rfl), below_drewN HBC.out _⟩
          case rest =>
            obtain ⟨rfl, hbc2⟩ := hcut
            have HBC2 : Hid _ := hbc2
            have hRs := HRS.out
            cases hfr : p.fr k with
            | false =>
              rw [if_neg (fun hh => by rw [hfr] at hh; cases hh.2)] at hRs
              have HRS2 : Hid _ := hRs
              have HB3 : Hid _ := HBR.out.trans ((HB1.out.trans (hbc2.mono HB1.out.size)).mono HBR.out.size)
              have hb03 := HB1.out.trans (hbc2.mono HB1.out.size)
              have HRW2 : Hid _ := And.intro (row_below HRW.out.1 hb03) (And.intro (row_below HRW.out.2.1 hb03) (row_below HRW.out.2.2 hb03))
              have HX2 : Hid (∀ j, j < p.S.length → xs[j]? = some (.bool (decide (j < k + 1) && p.fr j))) := fun j hj => by
                rw [HXY.out.1 j hj]
                by_cases e : j = k
                · subst e; rw [hfr]; simp
                · rw [show decide (j < k + 1) = decide (j < k) by simp; omega]
              have HY2 : Hid (∀ j, j < k + 1 → p.fr j = true → ys[j]? = some (.int .i32 ((p.R j).length : Nat))) := fun j hj hf => by
                by_cases e : j = k
                · subst e; rw [hfr] at hf; cases hf
                · exact HXY.out.2.1 j (by omega) hf
              have HZ2 : Hid (∀ j, j < k + 1 → p.fr j = true → zs[j]? = some (.int .i32 (p.G j (p.S.getD j e0).item.toNat).2)) := fun j hj hf => by
                by_cases e : j = k
                · subst e; rw [hfr] at hf; cases hf
                · exact HXY.out.2.2 j (by omega) hf
              clear HE HD HBR HRW HXY HFL HPL HRS HPLN HGS hbc hbc2 hRs hb03 b5 b6 k1 k2
              go_wp2_with fail
              go_roundw
              case rel => exact ⟨k + 1, xs, ys, zs, by omega, by go_num, by rw [HRS2.out], HRW2.out.1, HRW2.out.2.1, HRW2.out.2.2, HX2.out, HY2.out, HZ2.out, HB3.out⟩
              case measure => simp [intOf]; omega
            | true =>
              rw [if_pos ⟨hlt, hfr⟩] at hRs
              have hRs2 : (p.R (k + 1)).length = (p.R k).length + 1 := by rw [hRs]; simp
              have HRS2 : Hid _ := hRs2
              clear hRs2
              clear hRs HFL
              go_upto_block 12 with fail
              go_cut [33, 34] from 262 to 364 (fun s33 s34 wc3 => s33 = .int .i32 (p.G k im).2 ∧ Below wr1.heap.size wr1 wc3)
              case first =>
                have hb04 := HB1.out.trans (hbc2.mono HB1.out.size)
                have HSS : Hid _ := Sl.below (Sl.below HE.out.base.ss HBR.out) hb04
                have HOK : Hid _ := HPLN.out.dom.ok
                have b6 := cell_later hbc2 b6
                have rK := row_below HRW.out.1 hb04
                have rE := row_below HRW.out.2.1 hb04
                have HKX : Hid _ := fun (m : Nat) (hm : m < k) => row_val rK (by rw [HXY.out.1 m (by omega), decide_eq_true hm, Bool.true_and]) (show m < p.S.length by omega)
                have HEX : Hid _ := fun (m : Nat) (hm : m < k) (hf : p.fr m = true) => row_val rE (HXY.out.2.1 m hm hf) (show m < p.S.length by omega)
                clear HE HD HBR HRW HXY HRS HPLN HGS hbc hb04 rK rE k1 k2 b5 hfr
                go_wp2_with fail
                go_loopw [33, 34] (fun pv z wi => ∃ q : Nat, q ≤ k ∧ pv = .int .i32 il ∧ z = .int .i64 ((q : Int) - 1) ∧ (∀ m, q ≤ m → m < k → ¬ (Qxb6625890a.fr p.lim p.I0 p.R0 p.S m = true ∧ (p.S.getD m e0).item.toNat = im)) ∧ Below wr1.heap.size wr1 wi ∧ Below wc.heap.size wc wi) (fun _ z _ => (intOf z + 1).toNat)
                case atStart => exact ⟨k, Nat.le_refl _, rfl, by first | rfl | go_num, fun m h1 h2 => (by omega), hbc2, Below.refl _ _⟩
                case round =>
                  obtain ⟨q, hq, rfl, rfl, hno, hbi, hbj⟩ := hrel
                  have HBI : Hid _ := And.intro hbi hbj
                  have b6 := cell_later hbj b6
                  by_cases hq0 : q = 0
                  · subst hq0
                    have hk0 : lastK p.lim p.I0 p.R0 p.S im k = none := by
                      rw [lastK_skip k (Nat.zero_le _) (fun m _ h2 => hno m (by omega) h2)]; rfl
                    have hg := (HPL.out.2 hk0).trans HIL.out
                    have HG : Hid _ := hg
                    rw [show ((0 : Nat) : Int) - 1 = -1 by omega]
                    clear hno hbi hbj HSS HOK HKX HEX hk0 hg HPL hbc2
                    go_wp2_with fail
                    go_meet
                    case rel => exact ⟨congrArg (Value.int .i32) HG.out.symm, HBI.out.1⟩
                  · obtain ⟨q', rfl⟩ : ∃ q', q = q' + 1 := ⟨q - 1, by omega⟩
                    rw [show ((q' + 1 : Nat) : Int) - 1 = (q' : Int) by omega]
                    have hqn : q' < p.S.length := by omega
                    have hqk : q' < k := by omega
                    have hqn' : (q' : Int) < (p.S.length : Int) := by omega
                    have hq0' : (0 : Int) ≤ (q' : Int) := by omega
                    obtain ⟨_, c6⟩ := step_at (Sl.below HSS.out hbj) HES.out hqn
                    have kx := cell_later hbj (HKX.out q' hqk)
                    have hi0 := (HOK.out q' hqn).1
                    cases hfq : p.fr q' with
                    | false =>
                      rw [hfq] at kx
                      have HNO : Hid (∀ m, q' ≤ m → m < k → ¬ (Qxb6625890a.fr p.lim p.I0 p.R0 p.S m = true ∧ (p.S.getD m e0).item.toNat = im)) := fun m h1 h2 => by
                        by_cases e : m = q'
                        · subst e; exact fun hh => by rw [show Qxb6625890a.fr p.lim p.I0 p.R0 p.S m = p.fr m from rfl, hfq] at hh; cases hh.1
                        · exact hno m (by omega) h2
                      clear hno hbi hbj HSS HOK HKX HEX HPL hbc2 hi0 hfq
                      generalize p.S.getD q' e0 = gj at *
                      go_wp2_with fail
                      go_quiet (fail)
                      go_wp2_with fail
                      go_roundw
                      case rel => exact ⟨q', by omega, rfl, by go_num, HNO.out, below_drewN HBI.out.1 _, below_drewN HBI.out.2 _⟩
                      case measure => simp [intOf] <;> omega
                    | true =>
                      rw [hfq] at kx
                      by_cases heq : (p.S.getD q' e0).item.toNat = im
                      · have ex := cell_later hbj (HEX.out q' hqk hfq)
                        have hk0 : lastK p.lim p.I0 p.R0 p.S im k = some q' := by
                          rw [lastK_skip k (show q' + 1 ≤ k by omega) (fun m h1 h2 => hno m h1 h2)]
                          show (if _ then _ else _) = _
                          rw [if_pos ⟨hfq, heq⟩]
                        have hg := HPL.out.1 q' hk0
                        have HG : Hid _ := hg
                        have hie : (p.S.getD q' e0).item = (im : Int) := by omega
                        rw [hie] at c6
                        clear hno hbi hbj HSS HOK HKX HEX hk0 hg HPL hbc2 hi0 hfq heq hie
                        go_wp2_with fail
                        go_quiet (fail)
                        go_wp2_with fail
                        go_meet
                        case rel => exact ⟨congrArg (Value.int .i32) HG.out.symm, below_drewN HBI.out.1 _⟩
                      · have hie : ((p.S.getD q' e0).item == (im : Int)) = false := by
                          rw [beq_eq_false_iff_ne]; omega
                        have HNO : Hid (∀ m, q' ≤ m → m < k → ¬ (Qxb6625890a.fr p.lim p.I0 p.R0 p.S m = true ∧ (p.S.getD m e0).item.toNat = im)) := fun m h1 h2 => by
                          by_cases e : m = q'
                          · subst e; exact fun hh => heq hh.2
                          · exact hno m (by omega) h2
                        clear hno hbi hbj HSS HOK HKX HEX HPL hbc2 hi0 hfq heq
                        generalize p.S.getD q' e0 = gj at *
                        go_wp2_with fail
                        go_quiet (fail)
                        go_wp2_with fail
                        go_roundw
                        case rel => exact ⟨q', by omega, rfl, by go_num, HNO.out, below_drewN HBI.out.1 _, below_drewN HBI.out.2 _⟩
                        case measure => simp [intOf] <;> omega
              case rest =>
                obtain ⟨rfl, hbc3⟩ := hcut
                have hb05 := HB1.out.trans (hbc3.mono HB1.out.size)
                have hbE := HBR.out.trans (hb05.mono HBR.out.size)
                have r1 := row_below HRW.out.1 hb05
                have r2 := row_below HRW.out.2.1 hb05
                have r3 := row_below HRW.out.2.2 hb05
                obtain ⟨y1, c1⟩ := row_one r1 hltn
                obtain ⟨y2, c2⟩ := row_one r2 hltn
                obtain ⟨y3, c3⟩ := row_one r3 hltn
                have z1 := r1.frozenAt k
                have z2 := r2.frozenAt k
                have z3 := r3.frozenAt k
                have hts := tri_set (k := k) (v1 := .bool true) (v2 := .int .i32 ((p.R k).length : Nat)) (v3 := .int .i32 (p.G k im).2) r1 r2 r3 n12 n13 n23 hbE
                have l1 := r1.1
                have l2 := r2.1
                have l3 := r3.1
                have HX2 : Hid (∀ j, j < p.S.length → (xs.set k (.bool true))[j]? = some (.bool (decide (j < k + 1) && p.fr j))) :=
                  set_all (g := fun j => .bool (decide (j < k) && p.fr j)) (g' := fun j => .bool (decide (j < k + 1) && p.fr j)) (by omega) HXY.out.1 (by show _ = Value.bool (decide (k < k + 1) && p.fr k); rw [hfr]; simp) (fun j hj => by
                    show Value.bool (decide (j < k + 1) && p.fr j) = Value.bool (decide (j < k) && p.fr j)
                    rw [show decide (j < k + 1) = decide (j < k) by simp; omega])
                have HY2 : Hid (∀ j, j < k + 1 → p.fr j = true → (ys.set k (.int .i32 ((p.R k).length : Nat)))[j]? = some (.int .i32 ((p.R j).length : Nat))) := fun j hj hf => by
                  rw [List.getElem?_set]
                  by_cases e : k = j
                  · subst e; rw [if_pos rfl, if_pos (by omega)]
                  · rw [if_neg e]; exact HXY.out.2.1 j (by omega) hf
                have HZ2 : Hid (∀ j, j < k + 1 → p.fr j = true → (zs.set k (.int .i32 (p.G k im).2))[j]? = some (.int .i32 (p.G j (p.S.getD j e0).item.toNat).2)) := fun j hj hf => by
                  rw [List.getElem?_set]
                  by_cases e : k = j
                  · subst e; rw [if_pos rfl, if_pos (by omega), HGS.out, HIM.out]
                  · rw [if_neg e]; exact HXY.out.2.2 j (by omega) hf
                have HTS : Hid _ := hts
                clear HE HD HBR HRW HXY HPL HRS HPLN HGS hbc hbc2 hbc3 b5 b6 k1 k2 hts r1 r2 r3 l1 l2 l3 hbE hb05 hfr
                generalize (p.G k im).2 = gv at *
                generalize (p.R k).length = rl at *
                go_wp2_with fail
                go_roundw
                case rel => exact ⟨k + 1, _, _, _, by omega, by go_num, by rw [HRS2.out]; go_num, HTS.out.1, HTS.out.2.1, HTS.out.2.2.1, HX2.out, HY2.out, HZ2.out, HTS.out.2.2.2⟩
                case measure => simp [intOf]; omega
    · obtain rfl : k = p.lim := by omega
      have HKP : Hid (∀ j, j < p.lim → wr.cell? ⟨gk, j, none⟩ = some (.bool (p.fr j))) := fun j hj => row_val r1 (by rw [hx j (by omega), decide_eq_true hj, Bool.true_and]) (by omega)
      have HEN : Hid (∀ j, j < p.lim → p.fr j = true → wr.cell? ⟨ge, j, none⟩ = some (.int .i32 ((p.R j).length : Nat))) := fun j hj hf => row_val r2 (hy j hj hf) (by omega)
      have HPV : Hid (∀ j, j < p.lim → p.fr j = true → wr.cell? ⟨gp, j, none⟩ = some (.int .i32 (p.G j (p.S.getD j e0).item.toNat).2)) := fun j hj hf => row_val r3 (hz j hj hf) (by omega)
      clear r1 r2 r3 hx hy hz hbr HRW HXY
      go_wp2_with fail
      exact sx22 p _ _ _ _ _ _ _ _ _ _ _ _ _ _ _ _ _ _ _ _ _ _ _ _ _ _ _ _ _ _ _ _ _ _ _ _ _ _ _ _ _ _ _ _ _ _ _ _ _ _ _ _ _ _ _ _ _ _ _ _ _ _ _ _ _ _ _ _ _ _ _ _ _ _ _ _ _ _ _ _ _ _ _ _ _ _ _ _ _ _ _ _ _ _ _ _ _ _ _ _ _ _ _ _ _ _ _ _ _ _ _ _ _ _ _ _ _ _ _ _ _ _ _ _ _ _ _ _ _ _ _ _ _ _ _ _ _ _ _ _ _ _ _ _ _ _ _ _ _ _ _ _ _ _ _ _ _ _ _ _ _ _ _ _ _ _ _ _ _ _ _ _ _ _ _ _ _ _ _ _ _ _ _ _ _ _ _ _ _ _ _ _ _ _ _ _ _ _ _ _ _ _ _ _ _ _ _ _ _ _ _ _ _ _ _ _ _ _ _ _ _ _ _ _ _ _ _ _ _ _ _ _ _ _ _ _ _ _ _ _ _ _ _ _ _ _ _ _ _ _ _ _ _ _ _ _ _ _ _ _ _ _ _ _ _ _ _ _ _ _ _ _ _ _ _ _ _ _ _ _ _ _ _ _ _ _ _ _ _ _ _ _ _ _ _ _ _ _ _ _ _ _ _ _ _ _ _ _ _ _ _ _ _ _ _ _ _ _ _ _ _ _ _ _ _ _ _ _ _ _ _ _ _ _ _ _ _ _ _ _ _ _ _ _ _ _ _ _ _ _ _ _ _ _ _ _ _ _ _ _ _ _ _ _ _ _ _ _ _ _ _ _ _ _ _ _ _ _ _ _ _ _ _ _ _ _ _ _ _ _ _ _ _ _ _ _ _ _ _ _ _ _ _ _ _ _ _ _ _ _ _ _ _ _ _ _ _ _ _ _ _ _ _ _ _ _ _ _ _ _ _ _ _ _ _ _ _ _ _ _ _ _ _ _ _ _ _ _ _ _ _ _ _ _ _ _ _ _ _ _ _ _ _ _ _ _ _ _ _ _ _ _ _ _ _ _ _ _ _ _ _ _ _ _ _ _ _ _ _ _ _ _ _ _ _ _ _ _ _ _ _ _ _ _ _ _ _ _ _ _ _ _ _ _ _ _ _ _ _ _ _ _ _ _ _ _ _ _ _ _ _ _ _ _ _ _ _ _ _ _ _ _ _ _ _ _ _ _ _ _ _ _ _ _ _ _ _ _ _ _ _ _ _ _ _ _ _ _ _ _ _ _ _ _ _ _ _ _ _ _ _ _ _ _ _ _ _ _ _ _ _ _ _ _ _ _ _ _ _ _ _ _ _ _ _ _ _ _ _ _ _ _ _ _ _ _ _ _ _ _ _ _ _ _ _ _ _ _ _ _ _ _ _ _ _ _ _ _ _ _ _ _ _ _ _ _ _ _ _ _ _ (HE.out.grown HBR.out) (fun j hj => cell_later HBR.out (HD.out j hj)) HKP.out HEN.out HPV.out

end Go.Proofs.Qxb6625890a
