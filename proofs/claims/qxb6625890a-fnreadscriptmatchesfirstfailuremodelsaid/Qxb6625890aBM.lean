/-
  Seat b6625890a: the law FnReadScriptMatchesFirstFailureModel, the reads are done. Frames written by program.
-/
import Derived.Test.Qxb6625890aBL
namespace Go.Proofs.Qxb6625890a
open Go.RowKit Go.Maps
set_option linter.unusedVariables false

theorem KeepF.sl' {F : Nat → Prop} {w w' : World} (h : KeepF F w w') {a : Option Addr} {cs : List Value} (hs : Sl w a cs) (hn : cs ≠ [] → ∀ x, a = some x → ¬ F x.block) : Sl w' a cs := by
  intro hne
  obtain ⟨b, off, rfl, hc⟩ := hs hne
  refine ⟨b, off, rfl, fun i hi => ?_⟩
  have h1 := hc i hi
  rw [List.getElem?_eq_getElem hi] at h1 ⊢
  exact h.cell (hn hne _ rfl) h1
/-- Nothing of the law's own lies in F. -/
structure BaseN (F : Nat → Prop) (p : SP) : Prop where
  st : ¬ F p.bst
  bf : ¬ F p.bf
  a0 : ∀ x, p.a0 = some x → ¬ F x.block
  a1 : ∀ x, p.a1 = some x → ¬ F x.block
  a2 : ∀ x, p.a2 = some x → ¬ F x.block
  a4 : ∀ x, p.a4 = some x → ¬ F x.block
  sd : ∀ i, i < p.des.length → ∀ x, (p.des.getD i d0).ad = some x → ¬ F x.block
  sa : flatS p.S ≠ [] → ∀ x, p.sa = some x → ¬ F x.block
theorem Base.keep {F : Nat → Prop} {w w' : World} {p : SP} (h : Base w p) (hk : KeepF F w w') (n : BaseN F p) : Base w' p :=
  ⟨hk.cell n.st h.k0, hk.cell n.st h.k1, hk.cell n.st h.k2, hk.cell n.st h.k7, fun k hk' => hk.cell n.st (h.kb k hk'), hk.sl h.s0 n.a0, hk.sl h.s1 n.a1, hk.sl h.s2 n.a2, hk.sl h.s4 n.a4, fun i hi => hk.sl (h.sd i hi) (n.sd i hi), hk.sl' h.ss n.sa, fun k hk' => hk.cell n.bf (h.hbf k hk')⟩
theorem ReadPost.keep {F : Nat → Prop} {cb lim : Nat} {ends : List Int} {out : Nat → Option OpC} {items reads : List (Int × Int)} {dm : Int → Option (List Int)} {it : Nat} {t src : Int} {x : List Value} {w w' : World} (h : ReadPost F cb lim ends out items reads dm it t src x w w') : KeepF F w w' := by
  obtain ⟨_, _, _, _, _, hK⟩ := h
  exact hK
/-- What holds behind i reads. -/
structure Rd (p : SP) (F : Nat → Prop) (w : World) (i : Nat) (out : Nat → Option OpC) (dm : Int → Option (List Int)) : Prop where
  cls : ∃ tb db mi N lim vi vr vt f, ClsV w F p.cb tb db mi N lim vi vr vt f p.ends out (p.I i) (p.R i) dm ∧ lim ≤ 4194304 + 3 * i
  oi : OutI p.b0 p.b1 p.b2 p.b3 p.ends p.I0 p.S p.o0 i out
  ne : Nest out
  di : DmI p.b0 p.ends p.S p.probe (dmOf p.des) i dm
theorem Rd.next {p : SP} {F F' : Nat → Prop} {w w' wA : World} {i lim im : Nat} {out : Nat → Option OpC} {dm : Int → Option (List Int)} {gs : Step} (hp : Plain p) (hi : i < p.S.length) (h : Rd p F' wA i out dm) (hgs : p.S.getD i e0 = gs) (him : gs.item = (im : Int)) (hl : lim ≤ 4194304 + 3 * i)
    (hr : ReadPost F p.cb (lim + 3) p.ends out (p.I i) (p.R i) dm im gs.t gs.src (sopc gs) w w') : ∃ out' dm', Rd p F w' (i + 1) out' dm' := by
  obtain ⟨out1, out', hm, hd, ⟨tb, db, mi, N, vi, vr, vt, f, hV⟩, hK⟩ := hr
  have hitm : (p.S.getD i e0).item.toNat = im := by rw [hgs]; omega
  have hG : (growL (p.I i) im).getD im (0, 0) = p.G i im := by rw [← hitm]; exact grow_G (lim := p.lim) (R0 := p.R0) hp.dom.ok hi
  have hG1 : (p.G i im).1 = (p.I0.getD im (-1, -1)).1 := G_fst (lim := p.lim) (R0 := p.R0) hp.dom.ok i (Nat.le_of_lt hi) im
  have hcf : conf p.ends ((growL (p.I i) im).getD im (0, 0)).1 gs.t = cfS p.ends p.I0 p.S i := by
    rw [hG, hG1]
    unfold cfS
    rw [hitm, hgs]
  have hdr : drt p.ends gs.src gs.t = drS p.ends p.S i := by unfold drS; rw [hgs]
  rw [hcf] at hm
  rw [hdr] at hd
  rw [← hgs] at hm hd
  have hoi := h.oi.step hi h.ne hm hd
  have hlim := hoi.lim hi
  have h10 := (step_out h.ne hm hd).2
  have hdm := h.di.step (o := out1 0) (by rw [h10]; exact h.oi.zero (Nat.le_of_lt hi))
  obtain ⟨c1, c2⟩ := step_congr hlim (growL (p.I i) im) (p.R i) im gs.t
  have e1 : p.I (i + 1) = stepI (o3of p.lim i) (growL (p.I i) (p.S.getD i e0).item.toNat) (p.R i) (p.S.getD i e0).item.toNat (p.S.getD i e0).t := rfl
  have e2 : p.R (i + 1) = stepR (o3of p.lim i) (growL (p.I i) (p.S.getD i e0).item.toNat) (p.R i) (p.S.getD i e0).item.toNat (p.S.getD i e0).t := rfl
  rw [hitm, hgs] at e1 e2
  refine ⟨out', _, ⟨tb, db, mi, N, lim + 3, vi, vr, vt, f, ?_, by omega⟩, hoi, step_nest h.ne hm hd, hdm⟩
  rw [e1, e2]
  rw [c1, c2, hdr] at hV
  rw [hgs]
  exact hV
theorem SP.WR {p : SP} (h : Plain p) (i : Nat) (hi : i ≤ p.S.length) : (∀ k, k < (p.I i).length → ((p.I i).getD k (0, 0)).1 < p.ends.length) ∧ (∀ k, k < (p.I i).length → ((p.I i).getD k (0, 0)).2 < (p.R i).length) := by
  have hw := PS_WR (lim := p.lim) h.dom.ok h.dom.st.wr h.dom.st.lr i hi
  constructor <;> intro k hk
  · rw [getD_any hk (0, 0) (-1, -1)]; exact (hw k).1
  · rw [getD_any hk (0, 0) (-1, -1)]; exact (hw k).2
theorem tl3_8 : tl Try.f3 8 = Code.seq (st Try.f3 8) (tl Try.f3 9) := by kernel_rfl

set_option maxRecDepth 100000 in
set_option maxHeartbeats 2000000 in
theorem sx8 {w w0 : World} {B : Nat} (p : SP) (F : Nat → Prop) (u0 u4 u5 u6 u10 u11 u12 u13 u14 u15 u16 u17 u18 u19 u20 u21 u22 u23 u24 u25 u26 u27 u28 u29 u30 u31 u32 u33 u34 u35 u36 u37 u38 u39 u40 u41 u42 u43 u44 u45 u46 u47 u48 u49 u50 u51 u52 u53 u54 u55 u56 u57 u58 u59 u60 u61 u62 u63 u64 u65 u66 u67 u68 u69 u70 u71 u72 u73 u74 u75 u76 u77 u78 u79 u80 u81 u82 u83 u84 u85 u86 u87 u88 u89 u90 u91 u92 u93 u94 u95 u96 u97 u98 u99 u100 u101 u102 u103 u104 u105 u106 u107 u108 u109 u110 u111 u112 u113 u114 u115 u116 u117 u118 u119 u120 u121 u122 u123 u124 u125 u126 u127 u128 u129 u130 u131 u132 u133 u134 u135 u136 u137 u138 u139 u140 u141 u142 u143 u144 u145 u146 u147 u148 u149 u150 u151 u152 u153 u154 u155 u156 u157 u158 u159 u160 u161 u162 u163 u164 u165 u166 u167 u168 u169 u170 u171 u172 u173 u174 u175 u176 u177 u178 u179 u180 u181 u182 u183 u184 u185 u186 u187 u188 u189 u190 u191 u192 u193 u194 u195 u196 u197 u198 u199 u200 u201 u202 u203 u204 u205 u206 u207 u208 u209 u210 u211 u212 u213 u214 u215 u216 u217 u218 u219 u220 u221 u222 u223 u224 u225 u226 u227 u228 u229 u230 u231 u232 u233 u234 u235 u236 u237 u238 u239 u240 u241 u242 u243 u244 u245 u246 u247 u248 u249 u250 u251 u252 u253 u254 u255 u256 u257 u258 u259 u260 u261 u262 u263 u264 u265 u266 u267 u268 u269 u270 u271 u272 u273 u274 u275 u276 u277 u278 u279 u280 u281 u282 u283 u284 u285 u286 u287 u288 u289 u290 u291 u292 u293 u294 u295 u296 u297 u298 u299 u300 u301 u302 u303 u304 u305 u306 u307 u308 u309 u310 u311 u312 u313 u314 u315 u316 u317 u318 u319 u320 u321 u322 u323 u324 u325 u326 u327 u328 u329 u330 u331 u332 u333 u334 u335 u336 u337 u338 u339 u340 u341 u342 u343 u344 u345 u346 u347 u348 u349 u350 u351 u352 u353 u354 u355 u356 u357 u358 u359 u360 u361 u362 u363 u364 u365 u366 u367 u368 u369 u370 u371 u372 u373 u374 u375 u376 u377 u378 u379 u380 u381 u382 u383 u384 u385 u386 u387 u388 u389 u390 u391 u392 u393 u394 u395 u396 u397 u398 u399 u400 u401 u402 u403 u404 u405 u406 u407 u408 u409 u410 u411 u412 u413 u414 u415 u416 u417 u418 u419 u420 u421 u422 u423 u424 u425 u426 u427 u428 u429 u430 u431 u432 u433 u434 u435 u436 u437 u438 u439 u440 u441 u442 u443 u444 u445 u446 u447 u448 u449 u450 u451 u452 u453 u454 u455 u456 u457 u458 u459 u460 u461 u462 u463 u464 u465 u466 u467 u468 u469 u470 u471 u472 u473 u474 u475 u476 u477 u478 u479 u480 u481 u482 u483 u484 u485 u486 u487 u488 u489 u490 u491 u492 u493 u494 u495 u496 u497 u498 u499 u500 u501 u502 u503 u504 u505 u506 u507 u508 u509 u510 u511 u512 u513 u514 u515 u516 u517 u518 u519 u520 u521 u522 u523 u524 u525 u526 u527 u528 u529 u530 u531 u532 u533 u534 u535 u536 u537 u538 u539 u540 u541 u542 u543 u544 u545 u546 u547 u548 u549 u550 u551 u552 u553 u554 u555 u556 u557 u558 u559 u560 u561 u562 u563 u564 u565 u566 u567 u568 u569 u570 u571 u572 u573 u574 u575 u576 u577 u578 u579 u580 u581 u582 u583 u584 u585 u586 u587 u588 u589 u590 u591 u592 u593 u594 u595 u596 u597 u598 u599 u600 u601 u602 u603 u604 u605 u606 u607 u608 u609 u610 u611 u612 u613 u614 u615 u616 u617 u618 u619 u620 u621 u622 u623 u624 u625 u626 u627 u628 u629 u630 u631 u632 u633 u634 u635 u636 u637 u638 u639 u640 u641 u642 u643 u644 u645 u646 u647 u648 u649 u650 u651 u652 u653 u654 u655 u656 u657 : Value)
    (hR0 : Rd p F w 0 p.o0 (dmOf p.des)) (hBs : Base w p) (hBN : BaseN F p) (hpl : Plain p) (hF : ∀ k, w.heap.size ≤ k → F k) (hBF : ∀ k, k < B → ¬ F k) (hb : Below B w0 w) (hBw : B ≤ w.heap.size) :
    Code.wp Try.prog (tl Try.f3 8) (QT Try.f3 B w0) ⟨#[u0, .slice p.sa p.S.length p.sc, .int .i32 p.probe, .pointer (some ⟨p.bst, 0, none⟩), u4, u5, u6, .int .i64 p.S.length, .pointer (some ⟨p.cb, 0, none⟩), .pointer (some ⟨p.bf, 0, none⟩), u10, u11, u12, u13, u14, u15, u16, u17, u18, u19, u20, u21, u22, u23, u24, u25, u26, u27, u28, u29, u30, u31, u32, u33, u34, u35, u36, u37, u38, u39, u40, u41, u42, u43, u44, u45, u46, u47, u48, u49, u50, u51, u52, u53, u54, u55, u56, u57, u58, u59, u60, u61, u62, u63, u64, u65, u66, u67, u68, u69, u70, u71, u72, u73, u74, u75, u76, u77, u78, u79, u80, u81, u82, u83, u84, u85, u86, u87, u88, u89, u90, u91, u92, u93, u94, u95, u96, u97, u98, u99, u100, u101, u102, u103, u104, u105, u106, u107, u108, u109, u110, u111, u112, u113, u114, u115, u116, u117, u118, u119, u120, u121, u122, u123, u124, u125, u126, u127, u128, u129, u130, u131, u132, u133, u134, u135, u136, u137, u138, u139, u140, u141, u142, u143, u144, u145, u146, u147, u148, u149, u150, u151, u152, u153, u154, u155, u156, u157, u158, u159, u160, u161, u162, u163, u164, u165, u166, u167, u168, u169, u170, u171, u172, u173, u174, u175, u176, u177, u178, u179, u180, u181, u182, u183, u184, u185, u186, u187, u188, u189, u190, u191, u192, u193, u194, u195, u196, u197, u198, u199, u200, u201, u202, u203, u204, u205, u206, u207, u208, u209, u210, u211, u212, u213, u214, u215, u216, u217, u218, u219, u220, u221, u222, u223, u224, u225, u226, u227, u228, u229, u230, u231, u232, u233, u234, u235, u236, u237, u238, u239, u240, u241, u242, u243, u244, u245, u246, u247, u248, u249, u250, u251, u252, u253, u254, u255, u256, u257, u258, u259, u260, u261, u262, u263, u264, u265, u266, u267, u268, u269, u270, u271, u272, u273, u274, u275, u276, u277, u278, u279, u280, u281, u282, u283, u284, u285, u286, u287, u288, u289, u290, u291, u292, u293, u294, u295, u296, u297, u298, u299, u300, u301, u302, u303, u304, u305, u306, u307, u308, u309, u310, u311, u312, u313, u314, u315, u316, u317, u318, u319, u320, u321, u322, u323, u324, u325, u326, u327, u328, u329, u330, u331, u332, u333, u334, u335, u336, u337, u338, u339, u340, u341, u342, u343, u344, u345, u346, u347, u348, u349, u350, u351, u352, u353, u354, u355, u356, u357, u358, u359, u360, u361, u362, u363, u364, u365, u366, u367, u368, u369, u370, u371, u372, u373, u374, u375, u376, u377, u378, u379, u380, u381, u382, u383, u384, u385, u386, u387, u388, u389, u390, u391, u392, u393, u394, u395, u396, u397, u398, u399, u400, u401, u402, u403, u404, u405, u406, u407, u408, u409, u410, u411, u412, u413, u414, u415, u416, u417, u418, u419, u420, u421, u422, u423, u424, u425, u426, u427, u428, u429, u430, u431, u432, u433, u434, u435, u436, u437, u438, u439, u440, u441, u442, u443, u444, u445, u446, u447, u448, u449, u450, u451, u452, u453, u454, u455, u456, u457, u458, u459, u460, u461, u462, u463, u464, u465, u466, u467, u468, u469, u470, u471, u472, u473, u474, u475, u476, u477, u478, u479, u480, u481, u482, u483, u484, u485, u486, u487, u488, u489, u490, u491, u492, u493, u494, u495, u496, u497, u498, u499, u500, u501, u502, u503, u504, u505, u506, u507, u508, u509, u510, u511, u512, u513, u514, u515, u516, u517, u518, u519, u520, u521, u522, u523, u524, u525, u526, u527, u528, u529, u530, u531, u532, u533, u534, u535, u536, u537, u538, u539, u540, u541, u542, u543, u544, u545, u546, u547, u548, u549, u550, u551, u552, u553, u554, u555, u556, u557, u558, u559, u560, u561, u562, u563, u564, u565, u566, u567, u568, u569, u570, u571, u572, u573, u574, u575, u576, u577, u578, u579, u580, u581, u582, u583, u584, u585, u586, u587, u588, u589, u590, u591, u592, u593, u594, u595, u596, u597, u598, u599, u600, u601, u602, u603, u604, u605, u606, u607, u608, u609, u610, u611, u612, u613, u614, u615, u616, u617, u618, u619, u620, u621, u622, u623, u624, u625, u626, u627, u628, u629, u630, u631, u632, u633, u634, u635, u636, u637, u638, u639, u640, u641, u642, u643, u644, u645, u646, u647, u648, u649, u650, u651, u652, u653, u654, u655, u656, u657], []⟩ w := by
  have hn := hpl.dom.n
  have hee := hpl.dom.len.e
  have HR0 : Hid _ := hR0
  have HBS : Hid _ := hBs
  have HBN : Hid _ := hBN
  have HPL : Hid _ := hpl
  have HF : Hid _ := hF
  have HBF : Hid _ := hBF
  have HB : Hid _ := hb
  clear hR0 hBs hBN hpl hF hBF hb
  rw [tl3_8]
  refine wp_seq_k (fun K hK => ?_)
  conv => arg 2; whnf
  go_wp2_with fail
  go_loopw [11] (fun i wr => ∃ (k : Nat) (out : Nat → Option OpC) (dm : Int → Option (List Int)), k ≤ p.S.length ∧ i = .int .i64 k ∧ Rd p F wr k out dm ∧ KeepF F w wr) (fun i _ => p.S.length - (intOf i).toNat)
  case atStart => exact ⟨0, _, _, by omega, rfl, HR0.out, KeepF.refl _ _⟩
  case round =>
    obtain ⟨k, out, dm, hk, rfl, hrd, hkf⟩ := hrel
    have HRD : Hid _ := hrd
    have HKF : Hid _ := hkf
    by_cases hlt : k < p.S.length
    · have hlt' : (k : Int) < (p.S.length : Int) := by omega
      have hlt0 : (0 : Int) ≤ (k : Int) := by omega
      obtain ⟨im, him⟩ := toNat_of (HPL.out.dom.ok k hlt).1
      obtain ⟨sb, so, es, a0, a1, a2, a3, a4, a5, a6, a7⟩ := step_cell (Base.keep HBS.out hkf HBN.out).ss hlt
      rw [es]
      have hitl : im ≤ (p.I k).length := by
        have := item_le (lim := p.lim) (R0 := p.R0) HPL.out.dom.ok hlt
        rw [him, Int.toNat_natCast] at this
        exact this
      have htw := HPL.out.tw k hlt
      have hsr := HPL.out.dom.s k hlt
      rw [him] at a6
      obtain ⟨gs, hgs⟩ : ∃ gs, p.S.getD k e0 = gs := ⟨_, rfl⟩
      rw [hgs] at a0 a1 a2 a3 a4 a5 a7 him htw hsr
      obtain ⟨tb, db, mi, N, lim, vi, vr, vt, f, hV, hlm⟩ := hrd.cls
      have hb1 : Below wr.heap.size wr (wr.alloc (.cells #[.int .u8 gs.kd, .int .i64 gs.tx, .string gs.it, .int .i64 gs.so, .bool gs.hs, .int .i32 gs.t, .int .i32 (im : Int), .int .i32 gs.src] 41)) := (Below.refl _ _).alloc (Nat.le_refl _) _
      have hn1 : (wr.alloc (.cells #[.int .u8 gs.kd, .int .i64 gs.tx, .string gs.it, .int .i64 gs.so, .bool gs.hs, .int .i32 gs.t, .int .i32 (im : Int), .int .i32 gs.src] 41)).heap[wr.heap.size]? = some (.cells #[.int .u8 gs.kd, .int .i64 gs.tx, .string gs.it, .int .i64 gs.so, .bool gs.hs, .int .i32 gs.t, .int .i32 (im : Int), .int .i32 gs.src] 41 (0, 0)) := heap_alloc_new wr _
      obtain ⟨wr1, hw1⟩ : ∃ wr1, wr1 = wr.alloc (.cells #[.int .u8 gs.kd, .int .i64 gs.tx, .string gs.it, .int .i64 gs.so, .bool gs.hs, .int .i32 gs.t, .int .i32 (im : Int), .int .i32 gs.src] 41) := ⟨_, rfl⟩
      rw [← hw1] at hb1 hn1
      have HW1 : Hid _ := hw1
      have hszb : wr.heap.size < wr1.heap.size := (Array.getElem?_eq_some_iff.1 hn1).1
      obtain ⟨W1, W2⟩ := SP.WR HPL.out k hk
      have HCALL : Hid (∀ w2, Below wr1.drew.heap.size wr1.drew w2 → Calls Try.prog 10 #[.pointer (some ⟨p.cb, 0, none⟩), opv gs.kd gs.tx gs.it gs.so gs.hs, .int .i32 gs.t, .int .i32 im, .int .i32 gs.src] w2 fun e w' => e = .returned (.tuple #[]) ∧ ReadPost (FX F wr.heap.size wr1.heap.size) p.cb (lim + 3) p.ends out (p.I k) (p.R k) dm im gs.t gs.src (sopc gs) w2 w') := fun w2 hb2 => by
        have hV2 := ((ClsV.fx hV hb1).grown (Below.drew (Below.refl _ _))).grown hb2
        exact zzread_any (w0 := wr) hV2 (fun j hj => FX.new j (Nat.le_trans hb2.size hj)) (by omega) hee im hitl W1 W2 gs.t gs.src htw hsr gs.kd gs.tx gs.it gs.so gs.hs
      have HFIN : Hid (∀ w2 w3, Below wr1.drew.heap.size wr1.drew w2 → ReadPost (FX F wr.heap.size wr1.heap.size) p.cb (lim + 3) p.ends out (p.I k) (p.R k) dm im gs.t gs.src (sopc gs) w2 w3 → ∃ out' dm', Rd p F w3 (k + 1) out' dm' ∧ KeepF F w w3) := fun w2 w3 hb2 hpost => by
        have hFX : ∀ g, FX F wr.heap.size wr1.heap.size g → F g := fun g hg => by
          rcases hg with hg | hg
          · exact hg.1
          · exact HF.out g (Nat.le_trans (Nat.le_trans hkf.size hb1.size) hg)
        obtain ⟨out', dm', hR⟩ := Rd.next HPL.out hlt hrd hgs him hlm hpost
        obtain ⟨tb', db', mi', N', lim', vi', vr', vt', f', hV', hl'⟩ := hR.cls
        refine ⟨out', dm', ⟨⟨tb', db', mi', N', lim', vi', vr', vt', f', hV'.reF (fun g _ hg => hFX g hg), hl'⟩, hR.oi, hR.ne, hR.di⟩, ?_⟩
        have hK3 : KeepF F w2 w3 := hpost.keep.mono hFX
        exact (hkf.trans (KeepF.of_below (hb1.trans ((Below.drew (Below.refl _ wr1)).mono hb1.size)))).trans ((KeepF.of_below hb2).trans hK3)
      have nbx : ¬ FX F wr.heap.size wr1.heap.size wr.heap.size := FX.mid (Nat.le_refl _) hszb
      have HNB : Hid _ := nbx
      have HN1 : Hid _ := hn1
      clear hrd hkf hV hb1 hn1 W1 W2 htw hsr hitl him hgs HRD HKF HBS HBN HPL HF HBF HR0 es hw1 nbx
      go_upto_region 17 with fail
      rw [← HW1.out]
      clear HW1 a0 a1 a2 a3 a4 a5 a6 a7
      have b0 : wr1.cell? ⟨wr.heap.size, 0, none⟩ = some (.int .u8 gs.kd) := cell_blk HN1.out rfl
      have b1 : wr1.cell? ⟨wr.heap.size, 1, none⟩ = some (.int .i64 gs.tx) := cell_blk HN1.out rfl
      have b2 : wr1.cell? ⟨wr.heap.size, 2, none⟩ = some (.string gs.it) := cell_blk HN1.out rfl
      have b3 : wr1.cell? ⟨wr.heap.size, 3, none⟩ = some (.int .i64 gs.so) := cell_blk HN1.out rfl
      have b4 : wr1.cell? ⟨wr.heap.size, 4, none⟩ = some (.bool gs.hs) := cell_blk HN1.out rfl
      have b5 : wr1.cell? ⟨wr.heap.size, 5, none⟩ = some (.int .i32 gs.t) := cell_blk HN1.out rfl
      have b6 : wr1.cell? ⟨wr.heap.size, 6, none⟩ = some (.int .i32 (im : Int)) := cell_blk HN1.out rfl
      have b7 : wr1.cell? ⟨wr.heap.size, 7, none⟩ = some (.int .i32 gs.src) := cell_blk HN1.out rfl
      clear HN1
      refine wp_shade2 (fun KK hKK => ?_)
      have HKK : Hid _ := hKK
      clear hKK
      go_region_held3 (fun w' => w'.cell? ⟨wr.heap.size, 0, none⟩ = some (.int .u8 gs.kd) ∧ w'.cell? ⟨wr.heap.size, 1, none⟩ = some (.int .i64 gs.tx) ∧ w'.cell? ⟨wr.heap.size, 2, none⟩ = some (.string gs.it) ∧ w'.cell? ⟨wr.heap.size, 3, none⟩ = some (.int .i64 gs.so) ∧ w'.cell? ⟨wr.heap.size, 4, none⟩ = some (.bool gs.hs) ∧ w'.cell? ⟨wr.heap.size, 5, none⟩ = some (.int .i32 gs.t) ∧ w'.cell? ⟨wr.heap.size, 6, none⟩ = some (.int .i32 (im : Int)) ∧ w'.cell? ⟨wr.heap.size, 7, none⟩ = some (.int .i32 gs.src))
        (first | go_keep | (exact ⟨cell_later hb2 b0, cell_later hb2 b1, cell_later hb2 b2, cell_later hb2 b3, cell_later hb2 b4, cell_later hb2 b5, cell_later hb2 b6, cell_later hb2 b7⟩) | (exact ⟨hkp.cell HNB.out (cell_later hb2 b0), hkp.cell HNB.out (cell_later hb2 b1), hkp.cell HNB.out (cell_later hb2 b2), hkp.cell HNB.out (cell_later hb2 b3), hkp.cell HNB.out (cell_later hb2 b4), hkp.cell HNB.out (cell_later hb2 b5), hkp.cell HNB.out (cell_later hb2 b6), hkp.cell HNB.out (cell_later hb2 b7)⟩))
        (first
          | (go_at_call 11; refine Calls.mono (histOp_any gs.kd gs.tx gs.it gs.so gs.hs _) ?_; rintro e w2 ⟨rfl, hb2⟩)
          | (go_at_call 10; refine Calls.mono (HCALL.out w2 hb2) ?_; rintro e w3 ⟨rfl, hpost⟩; have hkp := ReadPost.keep hpost))
      refine HKK.out _ _ ?_
      clear HKK KK
      have HX : Hid _ := HFIN.out _ _ hb2 hpost
      clear hb2 hpost hkp HFIN HCALL b0 b1 b2 b3 b4 b5 b6 b7
      go_wp2_with fail
      obtain ⟨out', dm', hR, hK⟩ := HX.out
      go_roundw
      case rel => exact ⟨k + 1, out', dm', by omega, by go_num, hR, hK⟩
      case measure => simp [intOf]; omega
    · obtain rfl : k = p.S.length := by omega
      have HENV : Hid (Env w0 B wr { p with out := out, dm := dm }) := by
        obtain ⟨tb, db, mi, N, lim, vi, vr, vt, f, hV, hlm⟩ := hrd.cls
        have hbs := Base.keep HBS.out hkf HBN.out
        exact ⟨⟨F, tb, db, mi, N, vi, vr, vt, f, hV.wide (by omega)⟩, ⟨hbs.k0, hbs.k1, hbs.k2, hbs.k7, hbs.kb, hbs.s0, hbs.s1, hbs.s2, hbs.s4, hbs.sd, hbs.ss, hbs.hbf⟩, ⟨HPL.out.dom, HPL.out.pw, HPL.out.tw, HPL.out.rg⟩, hrd.oi, hrd.di, HB.out.trans (hkf.below HBF.out hBw), Nat.le_trans hBw hkf.size⟩
      clear hrd hkf HRD HKF HBS HBN HPL HF HBF HR0 HB
      go_wp2_with fail
      exact sx9 { p with out := out, dm := dm } _ _ _ _ _ _ _ _ _ _ _ _ _ _ _ _ _ _ _ _ _ _ _ _ _ _ _ _ _ _ _ _ _ _ _ _ _ _ _ _ _ _ _ _ _ _ _ _ _ _ _ _ _ _ _ _ _ _ _ _ _ _ _ _ _ _ _ _ _ _ _ _ _ _ _ _ _ _ _ _ _ _ _ _ _ _ _ _ _ _ _ _ _ _ _ _ _ _ _ _ _ _ _ _ _ _ _ _ _ _ _ _ _ _ _ _ _ _ _ _ _ _ _ _ _ _ _ _ _ _ _ _ _ _ _ _ _ _ _ _ _ _ _ _ _ _ _ _ _ _ _ _ _ _ _ _ _ _ _ _ _ _ _ _ _ _ _ _ _ _ _ _ _ _ _ _ _ _ _ _ _ _ _ _ _ _ _ _ _ _ _ _ _ _ _ _ _ _ _ _ _ _ _ _ _ _ _ _ _ _ _ _ _ _ _ _ _ _ _ _ _ _ _ _ _ _ _ _ _ _ _ _ _ _ _ _ _ _ _ _ _ _ _ _ _ _ _ _ _ _ _ _ _ _ _ _ _ _ _ _ _ _ _ _ _ _ _ _ _ _ _ _ _ _ _ _ _ _ _ _ _ _ _ _ _ _ _ _ _ _ _ _ _ _ _ _ _ _ _ _ _ _ _ _ _ _ _ _ _ _ _ _ _ _ _ _ _ _ _ _ _ _ _ _ _ _ _ _ _ _ _ _ _ _ _ _ _ _ _ _ _ _ _ _ _ _ _ _ _ _ _ _ _ _ _ _ _ _ _ _ _ _ _ _ _ _ _ _ _ _ _ _ _ _ _ _ _ _ _ _ _ _ _ _ _ _ _ _ _ _ _ _ _ _ _ _ _ _ _ _ _ _ _ _ _ _ _ _ _ _ _ _ _ _ _ _ _ _ _ _ _ _ _ _ _ _ _ _ _ _ _ _ _ _ _ _ _ _ _ _ _ _ _ _ _ _ _ _ _ _ _ _ _ _ _ _ _ _ _ _ _ _ _ _ _ _ _ _ _ _ _ _ _ _ _ _ _ _ _ _ _ _ _ _ _ _ _ _ _ _ _ _ _ _ _ _ _ _ _ _ _ _ _ _ _ _ _ _ _ _ _ _ _ _ _ _ _ _ _ _ _ _ _ _ _ _ _ _ _ _ _ _ _ _ _ _ _ _ _ _ _ _ _ _ _ _ _ _ _ _ _ _ _ _ _ _ _ _ _ _ _ _ _ _ _ _ _ _ _ _ _ _ _ _ _ _ _ _ _ _ _ _ _ _ _ _ _ _ _ _ _ _ _ _ _ _ _ _ _ _ _ _ _ _ _ _ _ _ _ _ _ _ _ _ _ _ _ _ _ _ _ _ _ _ _ _ _ _ _ _ _ _ _ _ _ _ _ _ _ _ _ _ _ _ _ _ _ _ _ _ _ _ HENV.out

end Go.Proofs.Qxb6625890a
