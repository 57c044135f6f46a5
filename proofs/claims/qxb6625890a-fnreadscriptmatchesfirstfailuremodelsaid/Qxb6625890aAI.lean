/-
  Seat b6625890a: the law FnReadTwiceRepeatsOnlyTheDirtyEntry, its beginning. Frames written by program.
-/
import Derived.Test.Qxb6625890aAH
namespace Go.Proofs.Qxb6625890a
open Go.RowKit Go.Maps
set_option linter.unusedVariables false

theorem Copied.only {w w' : World} {C : Nat} {x0 x1 x2 x4 : Value} {ends : List Int} {items reads : List (Int × Int)} {des des' : List DEnt} (h : Copied w C x0 x1 x2 x4 ends items reads des des') (o : OnlyT (fun e => e = 28) w w') : Copied w' C x0 x1 x2 x4 ends items reads des des' :=
  ⟨h.len, o.row h.d (by decide), ⟨h.co.len, h.co.key, fun i hi => o.row (h.co.own i hi) (by decide), h.co.dis⟩, o.row h.e (by decide), o.row h.i (by decide), o.row h.r (by decide)⟩

theorem store8 {w0 w2 : World} {B bst : Nat} {x0 x1 x2 x3 x4 x5 x6 x7 : Value} (h : w2.heap[bst]? = some (.cells #[x0, x1, x2, x3, x4, x5, x6, x7] 28 (0, 0))) (v0 v1 v2 v3 v4 v5 v6 v7 : Value) (hb : Below B w0 w2) (hBs : B ≤ bst) :
    ∃ w9, w9 = ((((((((w2.setCell ⟨bst, 0, none⟩ v0).setCell ⟨bst, 1, none⟩ v1).setCell ⟨bst, 2, none⟩ v2).setCell ⟨bst, 3, none⟩ v3).setCell ⟨bst, 4, none⟩ v4).setCell ⟨bst, 5, none⟩ v5).setCell ⟨bst, 6, none⟩ v6).setCell ⟨bst, 7, none⟩ v7) ∧ w9.heap[bst]? = some (.cells #[v0, v1, v2, v3, v4, v5, v6, v7] 28 (0, 0)) ∧ OnlyT (fun e => e = 28) w2 w9 ∧ Below B w0 w9 := by
  have o0 := OnlyT.refl (fun e => e = 28) w2
  have o1 := o0.setCell (j := 0) h rfl v0
  have hb := Below.setCell (p := ⟨bst, 0, none⟩) hb hBs v0
  have h := blk_set (i := 0) v0 h
  rw [show ((#[x0, x1, x2, x3, x4, x5, x6, x7] : Array Value).setIfInBounds 0 v0) = #[v0, x1, x2, x3, x4, x5, x6, x7] from rfl] at h
  have o2 := o1.setCell (j := 1) h rfl v1
  have hb := Below.setCell (p := ⟨bst, 1, none⟩) hb hBs v1
  have h := blk_set (i := 1) v1 h
  rw [show ((#[v0, x1, x2, x3, x4, x5, x6, x7] : Array Value).setIfInBounds 1 v1) = #[v0, v1, x2, x3, x4, x5, x6, x7] from rfl] at h
  have o3 := o2.setCell (j := 2) h rfl v2
  have hb := Below.setCell (p := ⟨bst, 2, none⟩) hb hBs v2
  have h := blk_set (i := 2) v2 h
  rw [show ((#[v0, v1, x2, x3, x4, x5, x6, x7] : Array Value).setIfInBounds 2 v2) = #[v0, v1, v2, x3, x4, x5, x6, x7] from rfl] at h
  have o4 := o3.setCell (j := 3) h rfl v3
  have hb := Below.setCell (p := ⟨bst, 3, none⟩) hb hBs v3
  have h := blk_set (i := 3) v3 h
  rw [show ((#[v0, v1, v2, x3, x4, x5, x6, x7] : Array Value).setIfInBounds 3 v3) = #[v0, v1, v2, v3, x4, x5, x6, x7] from rfl] at h
  have o5 := o4.setCell (j := 4) h rfl v4
  have hb := Below.setCell (p := ⟨bst, 4, none⟩) hb hBs v4
  have h := blk_set (i := 4) v4 h
  rw [show ((#[v0, v1, v2, v3, x4, x5, x6, x7] : Array Value).setIfInBounds 4 v4) = #[v0, v1, v2, v3, v4, x5, x6, x7] from rfl] at h
  have o6 := o5.setCell (j := 5) h rfl v5
  have hb := Below.setCell (p := ⟨bst, 5, none⟩) hb hBs v5
  have h := blk_set (i := 5) v5 h
  rw [show ((#[v0, v1, v2, v3, v4, x5, x6, x7] : Array Value).setIfInBounds 5 v5) = #[v0, v1, v2, v3, v4, v5, x6, x7] from rfl] at h
  have o7 := o6.setCell (j := 6) h rfl v6
  have hb := Below.setCell (p := ⟨bst, 6, none⟩) hb hBs v6
  have h := blk_set (i := 6) v6 h
  rw [show ((#[v0, v1, v2, v3, v4, v5, x6, x7] : Array Value).setIfInBounds 6 v6) = #[v0, v1, v2, v3, v4, v5, v6, x7] from rfl] at h
  have o8 := o7.setCell (j := 7) h rfl v7
  have hb := Below.setCell (p := ⟨bst, 7, none⟩) hb hBs v7
  have h := blk_set (i := 7) v7 h
  rw [show ((#[v0, v1, v2, v3, v4, v5, v6, x7] : Array Value).setIfInBounds 7 v7) = #[v0, v1, v2, v3, v4, v5, v6, v7] from rfl] at h
  exact ⟨((((((((w2.setCell ⟨bst, 0, none⟩ v0).setCell ⟨bst, 1, none⟩ v1).setCell ⟨bst, 2, none⟩ v2).setCell ⟨bst, 3, none⟩ v3).setCell ⟨bst, 4, none⟩ v4).setCell ⟨bst, 5, none⟩ v5).setCell ⟨bst, 6, none⟩ v6).setCell ⟨bst, 7, none⟩ v7), rfl, h, o8, hb⟩
theorem tl4_0 : tl Try.f4 0 = Code.seq (st Try.f4 0) (tl Try.f4 1) := by kernel_rfl
theorem tl4_1 : tl Try.f4 1 = Code.seq (st Try.f4 1) (tl Try.f4 2) := by kernel_rfl
theorem tl4_2 : tl Try.f4 2 = Code.seq (st Try.f4 2) (tl Try.f4 3) := by kernel_rfl

set_option maxRecDepth 100000 in
set_option maxHeartbeats 2000000 in
theorem t3 {w w0 : World} (B : Nat) (ends : List Int) (items0 reads0 : List (Int × Int)) (src probe : Int) (t : Int) (it : Nat) (kd tx : Int) (ost : ByteArray) (so : Int) (hs : Bool) (bst bop : Nat) (ae : Option Addr) (ce : Nat) (ai : Option Addr) (ci : Nat) (ar : Option Addr) (cr : Nat) (b0 b1 b2 b3 : Bool) (ad : Option Addr) (cd : Nat) (des : List DEnt) (u0 u1 u8 u9 u10 u11 u12 u13 u14 u15 u16 u17 u18 u19 u20 u21 u22 u23 u24 u25 u26 u27 u28 u29 u30 u31 u32 u33 u34 u35 u36 u37 u38 u39 u40 u41 u42 u43 u44 u45 u46 u47 u48 u49 u50 u51 u52 u53 u54 u55 u56 u57 u58 u59 u60 u61 u62 u63 u64 u65 u66 u67 u68 u69 u70 u71 u72 u73 u74 u75 u76 u77 u78 u79 u80 u81 u82 u83 u84 u85 u86 u87 u88 u89 u90 u91 u92 u93 u94 u95 u96 u97 u98 u99 u100 u101 u102 u103 u104 u105 u106 u107 u108 u109 u110 u111 u112 u113 u114 u115 u116 u117 u118 u119 u120 u121 u122 u123 u124 u125 u126 u127 u128 u129 u130 u131 u132 u133 u134 u135 u136 u137 u138 u139 u140 u141 u142 u143 u144 u145 u146 u147 u148 u149 u150 u151 u152 u153 u154 u155 u156 u157 u158 u159 u160 u161 u162 u163 u164 u165 u166 u167 u168 u169 u170 u171 u172 u173 u174 u175 u176 u177 u178 u179 u180 u181 u182 u183 u184 u185 u186 u187 u188 u189 u190 u191 u192 u193 u194 u195 u196 u197 u198 u199 u200 u201 u202 u203 u204 u205 u206 u207 u208 u209 u210 u211 u212 u213 u214 u215 u216 u217 u218 u219 u220 u221 u222 u223 u224 u225 u226 u227 u228 u229 u230 u231 u232 u233 u234 u235 u236 u237 u238 u239 u240 u241 u242 u243 u244 u245 u246 u247 u248 u249 u250 u251 u252 u253 u254 u255 u256 u257 u258 u259 u260 u261 u262 u263 u264 u265 u266 u267 u268 u269 u270 u271 u272 u273 u274 u275 u276 u277 u278 u279 u280 u281 u282 u283 u284 u285 u286 u287 u288 u289 u290 u291 u292 u293 u294 u295 u296 u297 u298 u299 u300 u301 u302 u303 u304 u305 u306 u307 u308 u309 u310 u311 u312 u313 u314 u315 u316 u317 u318 u319 u320 u321 u322 u323 u324 u325 u326 u327 u328 u329 u330 u331 u332 u333 u334 u335 u336 u337 u338 u339 u340 u341 u342 u343 u344 u345 u346 u347 u348 u349 u350 u351 u352 u353 u354 u355 u356 u357 u358 u359 u360 u361 u362 u363 u364 u365 u366 u367 u368 u369 u370 u371 u372 u373 u374 u375 u376 u377 u378 u379 u380 u381 u382 u383 u384 u385 u386 u387 u388 u389 u390 u391 u392 u393 u394 u395 u396 u397 u398 u399 u400 u401 u402 u403 u404 u405 u406 u407 u408 u409 u410 u411 u412 u413 u414 u415 u416 u417 u418 u419 u420 u421 u422 u423 u424 u425 u426 u427 u428 u429 u430 u431 u432 u433 u434 u435 u436 u437 u438 u439 u440 u441 u442 u443 u444 u445 u446 u447 u448 u449 u450 u451 u452 u453 u454 u455 u456 u457 u458 u459 u460 u461 u462 u463 u464 u465 u466 u467 u468 u469 u470 u471 u472 u473 u474 u475 u476 u477 u478 u479 u480 u481 u482 u483 u484 u485 u486 u487 u488 u489 u490 u491 u492 u493 u494 u495 u496 u497 u498 u499 u500 u501 u502 u503 u504 u505 u506 u507 u508 u509 u510 u511 u512 u513 u514 u515 u516 u517 u518 u519 u520 u521 u522 u523 u524 u525 u526 u527 u528 u529 u530 u531 u532 u533 u534 u535 u536 u537 u538 u539 u540 u541 u542 u543 u544 u545 u546 : Value)
    (hbop : w.heap[bop]? = some (.cells (opc kd tx ost so hs).toArray 39 (0, 0))) (hst : w.heap[bst]? = some (.cells (zcells ae ends.length ce ai items0.length ci ar reads0.length cr b0 b1 b2 b3 ad des.length cd) 28 (0, 0))) (hZ : ZV w ae ai ar ad ends items0 reads0 des) (l1 : ends.length ≤ 1048576) (l2 : items0.length ≤ 1048576) (l3 : reads0.length ≤ 1048576) (l4 : des.length ≤ 1048576) (l5 : ∀ x ∈ des, x.zs.length ≤ 1048576) (wk : ∀ x ∈ des, (Lit.int .i32 x.key).wf = true) (hok : StOK b0 b1 b2 b3 ends items0 reads0) (ht : (Lit.int .i32 t).wf = true) (hpw : (Lit.int .i32 probe).wf = true) (hsrc : 0 ≤ src → src ≠ t → src < ends.length) (hit0 : it ≤ items0.length) (hb : Below B w0 w) (hBw : B ≤ w.heap.size) (hBs : B ≤ bst) :
    Code.wp Try.prog (tl Try.f4 3) (QT Try.f4 B w0) ⟨#[u0, u1, .int .i32 t, .int .i32 it, .int .i32 src, .int .i32 probe, .pointer (some ⟨bst, 0, none⟩), .pointer (some ⟨bop, 0, none⟩), u8, u9, u10, u11, u12, u13, u14, u15, u16, u17, u18, u19, u20, u21, u22, u23, u24, u25, u26, u27, u28, u29, u30, u31, u32, u33, u34, u35, u36, u37, u38, u39, u40, u41, u42, u43, u44, u45, u46, u47, u48, u49, u50, u51, u52, u53, u54, u55, u56, u57, u58, u59, u60, u61, u62, u63, u64, u65, u66, u67, u68, u69, u70, u71, u72, u73, u74, u75, u76, u77, u78, u79, u80, u81, u82, u83, u84, u85, u86, u87, u88, u89, u90, u91, u92, u93, u94, u95, u96, u97, u98, u99, u100, u101, u102, u103, u104, u105, u106, u107, u108, u109, u110, u111, u112, u113, u114, u115, u116, u117, u118, u119, u120, u121, u122, u123, u124, u125, u126, u127, u128, u129, u130, u131, u132, u133, u134, u135, u136, u137, u138, u139, u140, u141, u142, u143, u144, u145, u146, u147, u148, u149, u150, u151, u152, u153, u154, u155, u156, u157, u158, u159, u160, u161, u162, u163, u164, u165, u166, u167, u168, u169, u170, u171, u172, u173, u174, u175, u176, u177, u178, u179, u180, u181, u182, u183, u184, u185, u186, u187, u188, u189, u190, u191, u192, u193, u194, u195, u196, u197, u198, u199, u200, u201, u202, u203, u204, u205, u206, u207, u208, u209, u210, u211, u212, u213, u214, u215, u216, u217, u218, u219, u220, u221, u222, u223, u224, u225, u226, u227, u228, u229, u230, u231, u232, u233, u234, u235, u236, u237, u238, u239, u240, u241, u242, u243, u244, u245, u246, u247, u248, u249, u250, u251, u252, u253, u254, u255, u256, u257, u258, u259, u260, u261, u262, u263, u264, u265, u266, u267, u268, u269, u270, u271, u272, u273, u274, u275, u276, u277, u278, u279, u280, u281, u282, u283, u284, u285, u286, u287, u288, u289, u290, u291, u292, u293, u294, u295, u296, u297, u298, u299, u300, u301, u302, u303, u304, u305, u306, u307, u308, u309, u310, u311, u312, u313, u314, u315, u316, u317, u318, u319, u320, u321, u322, u323, u324, u325, u326, u327, u328, u329, u330, u331, u332, u333, u334, u335, u336, u337, u338, u339, u340, u341, u342, u343, u344, u345, u346, u347, u348, u349, u350, u351, u352, u353, u354, u355, u356, u357, u358, u359, u360, u361, u362, u363, u364, u365, u366, u367, u368, u369, u370, u371, u372, u373, u374, u375, u376, u377, u378, u379, u380, u381, u382, u383, u384, u385, u386, u387, u388, u389, u390, u391, u392, u393, u394, u395, u396, u397, u398, u399, u400, u401, u402, u403, u404, u405, u406, u407, u408, u409, u410, u411, u412, u413, u414, u415, u416, u417, u418, u419, u420, u421, u422, u423, u424, u425, u426, u427, u428, u429, u430, u431, u432, u433, u434, u435, u436, u437, u438, u439, u440, u441, u442, u443, u444, u445, u446, u447, u448, u449, u450, u451, u452, u453, u454, u455, u456, u457, u458, u459, u460, u461, u462, u463, u464, u465, u466, u467, u468, u469, u470, u471, u472, u473, u474, u475, u476, u477, u478, u479, u480, u481, u482, u483, u484, u485, u486, u487, u488, u489, u490, u491, u492, u493, u494, u495, u496, u497, u498, u499, u500, u501, u502, u503, u504, u505, u506, u507, u508, u509, u510, u511, u512, u513, u514, u515, u516, u517, u518, u519, u520, u521, u522, u523, u524, u525, u526, u527, u528, u529, u530, u531, u532, u533, u534, u535, u536, u537, u538, u539, u540, u541, u542, u543, u544, u545, u546], []⟩ w := by
  have k0 : w.cell? ⟨bst, 0, none⟩ = some (.slice ae ends.length ce) := cell_blk hst rfl
  have k1 : w.cell? ⟨bst, 1, none⟩ = some (.slice ai items0.length ci) := cell_blk hst rfl
  have k2 : w.cell? ⟨bst, 2, none⟩ = some (.slice ar reads0.length cr) := cell_blk hst rfl
  have k3 : w.cell? ⟨bst, 3, none⟩ = some (.bool b0) := cell_blk hst rfl
  have k4 : w.cell? ⟨bst, 4, none⟩ = some (.bool b1) := cell_blk hst rfl
  have k5 : w.cell? ⟨bst, 5, none⟩ = some (.bool b2) := cell_blk hst rfl
  have k6 : w.cell? ⟨bst, 6, none⟩ = some (.bool b3) := cell_blk hst rfl
  have k7 : w.cell? ⟨bst, 7, none⟩ = some (.slice ad des.length cd) := cell_blk hst rfl
  have hcl := clone_any ae ce ai ci ar cr b0 b1 b2 b3 ad cd ends items0 reads0 des w hZ l1 l2 l3 l4 l5
  have HCL : Hid _ := hcl
  have HZ : Hid _ := hZ
  have HOK : Hid _ := hok
  have HSRC : Hid _ := hsrc
  have HB : Hid _ := hb
  have HBOP : Hid _ := hbop
  have HST : Hid _ := hst
  have HL5 : Hid _ := And.intro l5 wk
  clear hcl hZ hok hsrc hb hbop l5 wk hst
  rw [tl4_3]
  refine wp_seq_k (fun K hK => ?_)
  conv => arg 2; whnf
  go_wp2_with fail
  refine Calls.mono HCL.out ?_
  rintro e w2 ⟨v, rfl, y0, y1, y2, y4, des2, rfl, hC2, hb2⟩
  obtain ⟨a0, q0, rfl⟩ := row_shape hC2.e
  obtain ⟨a1, q1, rfl⟩ := row_shape hC2.i
  obtain ⟨a2, q2, rfl⟩ := row_shape hC2.r
  obtain ⟨a4, q4, rfl⟩ := row_shape hC2.d
  have HC2 : Hid _ := hC2
  have HB2 : Hid _ := hb2
  have hst2 := blk_kept (grown_of_below hb2) HST.out (by simp)
  clear hC2 HCL
  have k0 := cell_later hb2 k0
  have k1 := cell_later hb2 k1
  have k2 := cell_later hb2 k2
  have k3 := cell_later hb2 k3
  have k4 := cell_later hb2 k4
  have k5 := cell_later hb2 k5
  have k6 := cell_later hb2 k6
  have k7 := cell_later hb2 k7
  have z0 := frozen_of_row w2 bst 0 _ _ hst2
  have z1 := frozen_of_row w2 bst 1 _ _ hst2
  have z2 := frozen_of_row w2 bst 2 _ _ hst2
  have z3 := frozen_of_row w2 bst 3 _ _ hst2
  have z4 := frozen_of_row w2 bst 4 _ _ hst2
  have z5 := frozen_of_row w2 bst 5 _ _ hst2
  have z6 := frozen_of_row w2 bst 6 _ _ hst2
  have z7 := frozen_of_row w2 bst 7 _ _ hst2
  have HST2 : Hid _ := hst2
  clear hst2 hb2
  go_wp2_with fail
  obtain ⟨w9, hw9, g8, o8, e8⟩ := store8 HST2.out (.slice a0 ends.length q0) (.slice a1 items0.length q1) (.slice a2 reads0.length q2) (.bool b0) (.bool b1) (.bool b2) (.bool b3) (.slice a4 des.length q4) (HB.out.trans (HB2.out.mono hBw)) hBs
  rw [← hw9]
  clear hw9
  have hC := HC2.out
  have hbop2 := blk_kept (grown_of_below HB2.out) HBOP.out (by simp)
  have hC9 := Copied.only hC o8
  have hmem : ∀ x ∈ des2, ∃ y ∈ des, x.key = y.key ∧ x.zs = y.zs := by
    intro x hx
    obtain ⟨i, hi, e⟩ := List.getElem_of_mem hx
    have hi2 : i < des.length := by rw [← hC.len]; exact hi
    obtain ⟨q1, q2⟩ := hC.co.key i hi
    rw [List.getD_eq_getElem?_getD, List.getElem?_eq_getElem hi, List.getD_eq_getElem?_getD, List.getElem?_eq_getElem hi2] at q1 q2
    refine ⟨des[i], List.getElem_mem hi2, ?_, ?_⟩
    · rw [← e]; exact q1
    · rw [← e]; exact q2
  have l4' : des2.length ≤ 1048576 := by rw [hC.len]; exact l4
  have l5' : ∀ x ∈ des2, x.zs.length ≤ 1048576 := fun x hx => by
    obtain ⟨y, hy, _, e⟩ := hmem x hx
    rw [e]; exact HL5.out.1 y hy
  have wk' : ∀ x ∈ des2, (Lit.int .i32 x.key).wf = true := fun x hx => by
    obtain ⟨y, hy, e, _⟩ := hmem x hx
    rw [e]; exact HL5.out.2 y hy
  exact t4 _ _ _ _ _ _ _ _ _ _ _ _ _ _ _ _ _ _ _ _ _ _ _ _ _ _ _ _ _ _ _ _ _ _ _ _ _ _ _ _ _ _ _ _ _ _ _ _ _ _ _ _ _ _ _ _ _ _ _ _ _ _ _ _ _ _ _ _ _ _ _ _ _ _ _ _ _ _ _ _ _ _ _ _ _ _ _ _ _ _ _ _ _ _ _ _ _ _ _ _ _ _ _ _ _ _ _ _ _ _ _ _ _ _ _ _ _ _ _ _ _ _ _ _ _ _ _ _ _ _ _ _ _ _ _ _ _ _ _ _ _ _ _ _ _ _ _ _ _ _ _ _ _ _ _ _ _ _ _ _ _ _ _ _ _ _ _ _ _ _ _ _ _ _ _ _ _ _ _ _ _ _ _ _ _ _ _ _ _ _ _ _ _ _ _ _ _ _ _ _ _ _ _ _ _ _ _ _ _ _ _ _ _ _ _ _ _ _ _ _ _ _ _ _ _ _ _ _ _ _ _ _ _ _ _ _ _ _ _ _ _ _ _ _ _ _ _ _ _ _ _ _ _ _ _ _ _ _ _ _ _ _ _ _ _ _ _ _ _ _ _ _ _ _ _ _ _ _ _ _ _ _ _ _ _ _ _ _ _ _ _ _ _ _ _ _ _ _ _ _ _ _ _ _ _ _ _ _ _ _ _ _ _ _ _ _ _ _ _ _ _ _ _ _ _ _ _ _ _ _ _ _ _ _ _ _ _ _ _ _ _ _ _ _ _ _ _ _ _ _ _ _ _ _ _ _ _ _ _ _ _ _ _ _ _ _ _ _ _ _ _ _ _ _ _ _ _ _ _ _ _ _ _ _ _ _ _ _ _ _ _ _ _ _ _ _ _ _ _ _ _ _ _ _ _ _ _ _ _ _ _ _ _ _ _ _ _ _ _ _ _ _ _ _ _ _ _ _ _ _ _ _ _ _ _ _ _ _ _ _ _ _ _ _ _ _ _ _ _ _ _ _ _ _ _ _ _ _ _ _ _ _ _ _ _ _ _ _ _ _ _ _ _ _ _ _ _ _ _ _ _ _ _ _ _ _ _ _ _ _ _ _ _ _ _ _ _ _ _ _ _ _ _ _ _ _ _ _ _ _ _ _ _ _ _ _ _ _ _ _ _ _ _ _ _ _ _ _ _ _ _ _ _ _ _ _ _ _ _ _ _ _ _ _ _ _ _ _ _ _ _ _ _ _ _ _ _ _ _ _ _ _ _ _ _ _ _ (o8.cells _ _ _ _ hbop2 (by decide)) g8 hC9 l1 l2 l3 l4' l5' wk' HOK.out ht hpw HSRC.out hit0 e8 (Nat.le_trans (Nat.le_trans hBw HB2.out.size) o8.size)

set_option maxRecDepth 100000 in
set_option maxHeartbeats 2000000 in
theorem t0 {w : World} (ends : List Int) (items0 reads0 : List (Int × Int)) (src probe : Int) (t item : Int) (kd tx : Int) (ost : ByteArray) (so : Int) (hs : Bool) (ae : Option Addr) (ce : Nat) (ai : Option Addr) (ci : Nat) (ar : Option Addr) (cr : Nat) (b0 b1 b2 b3 : Bool) (ad : Option Addr) (cd : Nat) (des : List DEnt) (u6 u7 u8 u9 u10 u11 u12 u13 u14 u15 u16 u17 u18 u19 u20 u21 u22 u23 u24 u25 u26 u27 u28 u29 u30 u31 u32 u33 u34 u35 u36 u37 u38 u39 u40 u41 u42 u43 u44 u45 u46 u47 u48 u49 u50 u51 u52 u53 u54 u55 u56 u57 u58 u59 u60 u61 u62 u63 u64 u65 u66 u67 u68 u69 u70 u71 u72 u73 u74 u75 u76 u77 u78 u79 u80 u81 u82 u83 u84 u85 u86 u87 u88 u89 u90 u91 u92 u93 u94 u95 u96 u97 u98 u99 u100 u101 u102 u103 u104 u105 u106 u107 u108 u109 u110 u111 u112 u113 u114 u115 u116 u117 u118 u119 u120 u121 u122 u123 u124 u125 u126 u127 u128 u129 u130 u131 u132 u133 u134 u135 u136 u137 u138 u139 u140 u141 u142 u143 u144 u145 u146 u147 u148 u149 u150 u151 u152 u153 u154 u155 u156 u157 u158 u159 u160 u161 u162 u163 u164 u165 u166 u167 u168 u169 u170 u171 u172 u173 u174 u175 u176 u177 u178 u179 u180 u181 u182 u183 u184 u185 u186 u187 u188 u189 u190 u191 u192 u193 u194 u195 u196 u197 u198 u199 u200 u201 u202 u203 u204 u205 u206 u207 u208 u209 u210 u211 u212 u213 u214 u215 u216 u217 u218 u219 u220 u221 u222 u223 u224 u225 u226 u227 u228 u229 u230 u231 u232 u233 u234 u235 u236 u237 u238 u239 u240 u241 u242 u243 u244 u245 u246 u247 u248 u249 u250 u251 u252 u253 u254 u255 u256 u257 u258 u259 u260 u261 u262 u263 u264 u265 u266 u267 u268 u269 u270 u271 u272 u273 u274 u275 u276 u277 u278 u279 u280 u281 u282 u283 u284 u285 u286 u287 u288 u289 u290 u291 u292 u293 u294 u295 u296 u297 u298 u299 u300 u301 u302 u303 u304 u305 u306 u307 u308 u309 u310 u311 u312 u313 u314 u315 u316 u317 u318 u319 u320 u321 u322 u323 u324 u325 u326 u327 u328 u329 u330 u331 u332 u333 u334 u335 u336 u337 u338 u339 u340 u341 u342 u343 u344 u345 u346 u347 u348 u349 u350 u351 u352 u353 u354 u355 u356 u357 u358 u359 u360 u361 u362 u363 u364 u365 u366 u367 u368 u369 u370 u371 u372 u373 u374 u375 u376 u377 u378 u379 u380 u381 u382 u383 u384 u385 u386 u387 u388 u389 u390 u391 u392 u393 u394 u395 u396 u397 u398 u399 u400 u401 u402 u403 u404 u405 u406 u407 u408 u409 u410 u411 u412 u413 u414 u415 u416 u417 u418 u419 u420 u421 u422 u423 u424 u425 u426 u427 u428 u429 u430 u431 u432 u433 u434 u435 u436 u437 u438 u439 u440 u441 u442 u443 u444 u445 u446 u447 u448 u449 u450 u451 u452 u453 u454 u455 u456 u457 u458 u459 u460 u461 u462 u463 u464 u465 u466 u467 u468 u469 u470 u471 u472 u473 u474 u475 u476 u477 u478 u479 u480 u481 u482 u483 u484 u485 u486 u487 u488 u489 u490 u491 u492 u493 u494 u495 u496 u497 u498 u499 u500 u501 u502 u503 u504 u505 u506 u507 u508 u509 u510 u511 u512 u513 u514 u515 u516 u517 u518 u519 u520 u521 u522 u523 u524 u525 u526 u527 u528 u529 u530 u531 u532 u533 u534 u535 u536 u537 u538 u539 u540 u541 u542 u543 u544 u545 u546 : Value)
    (hZ : ZV w ae ai ar ad ends items0 reads0 des) (hr : ∀ i, i < items0.length → I32 (items0.getD i (0, 0)).1 ∧ I32 (items0.getD i (0, 0)).2) (hit : I32 item) (hsr : I32 src) (wk : ∀ x ∈ des, (Lit.int .i32 x.key).wf = true) (ht : (Lit.int .i32 t).wf = true) (hpw : (Lit.int .i32 probe).wf = true) :
    Code.wp Try.prog (tl Try.f4 0) (QT Try.f4 w.heap.size w) ⟨#[zst ae ends.length ce ai items0.length ci ar reads0.length cr b0 b1 b2 b3 ad des.length cd, .agg #[.int .u8 kd, .int .i64 tx, .string ost, .int .i64 so, .bool hs], .int .i32 t, .int .i32 item, .int .i32 src, .int .i32 probe, u6, u7, u8, u9, u10, u11, u12, u13, u14, u15, u16, u17, u18, u19, u20, u21, u22, u23, u24, u25, u26, u27, u28, u29, u30, u31, u32, u33, u34, u35, u36, u37, u38, u39, u40, u41, u42, u43, u44, u45, u46, u47, u48, u49, u50, u51, u52, u53, u54, u55, u56, u57, u58, u59, u60, u61, u62, u63, u64, u65, u66, u67, u68, u69, u70, u71, u72, u73, u74, u75, u76, u77, u78, u79, u80, u81, u82, u83, u84, u85, u86, u87, u88, u89, u90, u91, u92, u93, u94, u95, u96, u97, u98, u99, u100, u101, u102, u103, u104, u105, u106, u107, u108, u109, u110, u111, u112, u113, u114, u115, u116, u117, u118, u119, u120, u121, u122, u123, u124, u125, u126, u127, u128, u129, u130, u131, u132, u133, u134, u135, u136, u137, u138, u139, u140, u141, u142, u143, u144, u145, u146, u147, u148, u149, u150, u151, u152, u153, u154, u155, u156, u157, u158, u159, u160, u161, u162, u163, u164, u165, u166, u167, u168, u169, u170, u171, u172, u173, u174, u175, u176, u177, u178, u179, u180, u181, u182, u183, u184, u185, u186, u187, u188, u189, u190, u191, u192, u193, u194, u195, u196, u197, u198, u199, u200, u201, u202, u203, u204, u205, u206, u207, u208, u209, u210, u211, u212, u213, u214, u215, u216, u217, u218, u219, u220, u221, u222, u223, u224, u225, u226, u227, u228, u229, u230, u231, u232, u233, u234, u235, u236, u237, u238, u239, u240, u241, u242, u243, u244, u245, u246, u247, u248, u249, u250, u251, u252, u253, u254, u255, u256, u257, u258, u259, u260, u261, u262, u263, u264, u265, u266, u267, u268, u269, u270, u271, u272, u273, u274, u275, u276, u277, u278, u279, u280, u281, u282, u283, u284, u285, u286, u287, u288, u289, u290, u291, u292, u293, u294, u295, u296, u297, u298, u299, u300, u301, u302, u303, u304, u305, u306, u307, u308, u309, u310, u311, u312, u313, u314, u315, u316, u317, u318, u319, u320, u321, u322, u323, u324, u325, u326, u327, u328, u329, u330, u331, u332, u333, u334, u335, u336, u337, u338, u339, u340, u341, u342, u343, u344, u345, u346, u347, u348, u349, u350, u351, u352, u353, u354, u355, u356, u357, u358, u359, u360, u361, u362, u363, u364, u365, u366, u367, u368, u369, u370, u371, u372, u373, u374, u375, u376, u377, u378, u379, u380, u381, u382, u383, u384, u385, u386, u387, u388, u389, u390, u391, u392, u393, u394, u395, u396, u397, u398, u399, u400, u401, u402, u403, u404, u405, u406, u407, u408, u409, u410, u411, u412, u413, u414, u415, u416, u417, u418, u419, u420, u421, u422, u423, u424, u425, u426, u427, u428, u429, u430, u431, u432, u433, u434, u435, u436, u437, u438, u439, u440, u441, u442, u443, u444, u445, u446, u447, u448, u449, u450, u451, u452, u453, u454, u455, u456, u457, u458, u459, u460, u461, u462, u463, u464, u465, u466, u467, u468, u469, u470, u471, u472, u473, u474, u475, u476, u477, u478, u479, u480, u481, u482, u483, u484, u485, u486, u487, u488, u489, u490, u491, u492, u493, u494, u495, u496, u497, u498, u499, u500, u501, u502, u503, u504, u505, u506, u507, u508, u509, u510, u511, u512, u513, u514, u515, u516, u517, u518, u519, u520, u521, u522, u523, u524, u525, u526, u527, u528, u529, u530, u531, u532, u533, u534, u535, u536, u537, u538, u539, u540, u541, u542, u543, u544, u545, u546], []⟩ w := by
  obtain ⟨w1, hw1⟩ : ∃ w1, w1 = w.alloc (.cells (zcells ae ends.length ce ai items0.length ci ar reads0.length cr b0 b1 b2 b3 ad des.length cd) 28) := ⟨_, rfl⟩
  obtain ⟨w2, hw2⟩ : ∃ w2, w2 = w1.alloc (.cells (opc kd tx ost so hs).toArray 39) := ⟨_, rfl⟩
  have h1 : w1.heap[w.heap.size]? = some (.cells (zcells ae ends.length ce ai items0.length ci ar reads0.length cr b0 b1 b2 b3 ad des.length cd) 28 (0, 0)) := by rw [hw1]; exact heap_alloc_new w _
  have h2 : w2.heap[w1.heap.size]? = some (.cells (opc kd tx ost so hs).toArray 39 (0, 0)) := by rw [hw2]; exact heap_alloc_new w1 _
  have b1' : Below w.heap.size w w1 := by rw [hw1]; exact (Below.refl _ _).alloc (Nat.le_refl _) _
  have b2' : Below w1.heap.size w1 w2 := by rw [hw2]; exact (Below.refl _ _).alloc (Nat.le_refl _) _
  have h12 := blk_kept (grown_of_below b2') h1 (by simp)
  have b12 : Below w.heap.size w w2 := b1'.trans (b2'.mono b1'.size)
  have hZ2 := hZ.below b12
  have HZ : Hid _ := hZ2
  have HW : Hid _ := And.intro h12 h2
  have HB : Hid _ := b12
  have HR : Hid _ := hr
  have HWK : Hid _ := wk
  have HIS : Hid _ := And.intro hit hsr
  have hw2' : w2 = (w.alloc (.cells #[.slice ae ends.length ce, .slice ai items0.length ci, .slice ar reads0.length cr, .bool b0, .bool b1, .bool b2, .bool b3, .slice ad des.length cd] 28)).alloc (.cells #[.int .u8 kd, .int .i64 tx, .string ost, .int .i64 so, .bool hs] 39) := by rw [hw2, hw1]; rfl
  have hsz : w.heap.size + 1 = w1.heap.size := by rw [hw1]; simp
  have HEQ : Hid _ := And.intro hw2' hsz
  clear hw1 hw2 hw2' hsz h1 h2 b1' b2' h12 b12 hZ2 hZ hr wk hit hsr
  rw [tl4_0]
  refine wp_seq_k (fun K hK => ?_)
  conv => arg 2; whnf
  go_wp2_with fail
  rw [← HEQ.out.1, HEQ.out.2]
  clear HEQ
  have k0 : w2.cell? ⟨w.heap.size, 0, none⟩ = some (.slice ae ends.length ce) := cell_blk HW.out.1 rfl
  have k1 : w2.cell? ⟨w.heap.size, 1, none⟩ = some (.slice ai items0.length ci) := cell_blk HW.out.1 rfl
  have k2 : w2.cell? ⟨w.heap.size, 2, none⟩ = some (.slice ar reads0.length cr) := cell_blk HW.out.1 rfl
  have k3 : w2.cell? ⟨w.heap.size, 3, none⟩ = some (.bool b0) := cell_blk HW.out.1 rfl
  have k4 : w2.cell? ⟨w.heap.size, 4, none⟩ = some (.bool b1) := cell_blk HW.out.1 rfl
  have k5 : w2.cell? ⟨w.heap.size, 5, none⟩ = some (.bool b2) := cell_blk HW.out.1 rfl
  have k6 : w2.cell? ⟨w.heap.size, 6, none⟩ = some (.bool b3) := cell_blk HW.out.1 rfl
  have k7 : w2.cell? ⟨w.heap.size, 7, none⟩ = some (.slice ad des.length cd) := cell_blk HW.out.1 rfl
  have k8 : w2.cell? ⟨w1.heap.size, 0, none⟩ = some (.int .u8 kd) := cell_blk HW.out.2 rfl
  have k9 : w2.cell? ⟨w1.heap.size, 1, none⟩ = some (.int .i64 tx) := cell_blk HW.out.2 rfl
  have k10 : w2.cell? ⟨w1.heap.size, 2, none⟩ = some (.string ost) := cell_blk HW.out.2 rfl
  have k11 : w2.cell? ⟨w1.heap.size, 3, none⟩ = some (.int .i64 so) := cell_blk HW.out.2 rfl
  have k12 : w2.cell? ⟨w1.heap.size, 4, none⟩ = some (.bool hs) := cell_blk HW.out.2 rfl
  rw [tl4_1]
  refine wp_seq_k (fun K hK => ?_)
  conv => arg 2; whnf
  go_wp2_with fail
  refine Calls.mono (bytes18 ae ce ai ci ar cr b0 b1 b2 b3 ad cd ends items0 reads0 des kd tx ost so hs t item src probe w2 (ZV.d HZ.out)) ?_
  rintro e w3 ⟨b, rfl, hb3⟩
  have HB3 : Hid _ := hb3
  have k0 := cell_later hb3 k0
  have k1 := cell_later hb3 k1
  have k2 := cell_later hb3 k2
  have k3 := cell_later hb3 k3
  have k4 := cell_later hb3 k4
  have k5 := cell_later hb3 k5
  have k6 := cell_later hb3 k6
  have k7 := cell_later hb3 k7
  have k8 := cell_later hb3 k8
  have k9 := cell_later hb3 k9
  have k10 := cell_later hb3 k10
  have k11 := cell_later hb3 k11
  have k12 := cell_later hb3 k12
  clear hb3
  cases b with
  | false =>
    go_wp2_with fail
    unfold QT
    go_ret
    exact ⟨rfl, HB.out.trans (HB3.out.mono HB.out.size)⟩
  | true =>
    go_wp2_with fail
    rw [tl4_2]
    refine wp_seq_k (fun K hK => ?_)
    conv => arg 2; whnf
    go_wp2_with fail
    refine Calls.mono (readDomain_any ae ce ai ci ar cr b0 b1 b2 b3 ad cd ends items0 reads0 des kd tx ost so hs t item src w3 (ZV.below HZ.out HB3.out) HR.out HIS.out.1 HIS.out.2) ?_
    rintro e w4 ⟨b, rfl, hb4, hdom⟩
    have HB4 : Hid _ := HB3.out.trans (hb4.mono HB3.out.size)
    have HDOM : Hid _ := hdom
    clear hdom hb4 k0 k1 k2 k3 k4 k5 k6 k7 k8 k9 k10 k11 k12
    cases b with
    | false =>
      go_wp2_with fail
      unfold QT
      go_ret
      exact ⟨rfl, HB.out.trans (HB4.out.mono HB.out.size)⟩
    | true =>
      go_wp2_with fail
      have hd := HDOM.out (by trivial)
      obtain ⟨it, rfl⟩ := toNat_of hd.i0
      have hmem : ∀ x ∈ des, x.zs.length ≤ 1048576 := by
        intro x hx
        obtain ⟨i, hi, e⟩ := List.getElem_of_mem hx
        have := hd.len.z i hi
        rw [List.getD_eq_getElem?_getD, List.getElem?_eq_getElem hi] at this
        rw [← e]; exact this
      have b4 := HB4.out
      have g := grown_of_below b4
      have hi1 := hd.i1
      exact t3 _ _ _ _ _ _ _ _ _ _ _ _ _ _ _ _ _ _ _ _ _ _ _ _ _ _ _ _ _ _ _ _ _ _ _ _ _ _ _ _ _ _ _ _ _ _ _ _ _ _ _ _ _ _ _ _ _ _ _ _ _ _ _ _ _ _ _ _ _ _ _ _ _ _ _ _ _ _ _ _ _ _ _ _ _ _ _ _ _ _ _ _ _ _ _ _ _ _ _ _ _ _ _ _ _ _ _ _ _ _ _ _ _ _ _ _ _ _ _ _ _ _ _ _ _ _ _ _ _ _ _ _ _ _ _ _ _ _ _ _ _ _ _ _ _ _ _ _ _ _ _ _ _ _ _ _ _ _ _ _ _ _ _ _ _ _ _ _ _ _ _ _ _ _ _ _ _ _ _ _ _ _ _ _ _ _ _ _ _ _ _ _ _ _ _ _ _ _ _ _ _ _ _ _ _ _ _ _ _ _ _ _ _ _ _ _ _ _ _ _ _ _ _ _ _ _ _ _ _ _ _ _ _ _ _ _ _ _ _ _ _ _ _ _ _ _ _ _ _ _ _ _ _ _ _ _ _ _ _ _ _ _ _ _ _ _ _ _ _ _ _ _ _ _ _ _ _ _ _ _ _ _ _ _ _ _ _ _ _ _ _ _ _ _ _ _ _ _ _ _ _ _ _ _ _ _ _ _ _ _ _ _ _ _ _ _ _ _ _ _ _ _ _ _ _ _ _ _ _ _ _ _ _ _ _ _ _ _ _ _ _ _ _ _ _ _ _ _ _ _ _ _ _ _ _ _ _ _ _ _ _ _ _ _ _ _ _ _ _ _ _ _ _ _ _ _ _ _ _ _ _ _ _ _ _ _ _ _ _ _ _ _ _ _ _ _ _ _ _ _ _ _ _ _ _ _ _ _ _ _ _ _ _ _ _ _ _ _ _ _ _ _ _ _ _ _ _ _ _ _ _ _ _ _ _ _ _ _ _ _ _ _ _ _ _ _ _ _ _ _ _ _ _ _ _ _ _ _ _ _ _ _ _ _ _ _ _ _ _ _ _ _ _ _ _ _ _ _ _ _ _ _ _ _ _ _ _ _ _ _ _ _ _ _ _ _ _ _ _ _ _ _ _ _ _ _ _ _ _ _ _ _ _ _ _ _ _ _ _ _ _ _ _ _ _ _ _ _ _ _ _ _ _ _ _ _ _ _ _ _ _ _ _ _ _ _ _ _ _ _ _ _ _ _ _ _ _ _ _ _ _ _ _ _ _ _ _ _ _ (blk_kept g HW.out.2 (by simp)) (blk_kept g HW.out.1 (by simp)) (ZV.below HZ.out b4) hd.len.e hd.len.i hd.len.r hd.len.d hmem HWK.out hd.st ht hpw hd.s (by omega) (HB.out.trans (b4.mono HB.out.size)) (Nat.le_trans HB.out.size b4.size) (Nat.le_refl _)

set_option maxRecDepth 100000 in
set_option maxHeartbeats 2000000 in
theorem twice_any (ends : List Int) (items0 reads0 : List (Int × Int)) (src probe : Int) (t item : Int) (kd tx : Int) (ost : ByteArray) (so : Int) (hs : Bool) (ae : Option Addr) (ce : Nat) (ai : Option Addr) (ci : Nat) (ar : Option Addr) (cr : Nat) (b0 b1 b2 b3 : Bool) (ad : Option Addr) (cd : Nat) (des : List DEnt) (w : World)
    (hZ : ZV w ae ai ar ad ends items0 reads0 des) (hr : ∀ i, i < items0.length → I32 (items0.getD i (0, 0)).1 ∧ I32 (items0.getD i (0, 0)).2) (hit : I32 item) (hsr : I32 src) (wk : ∀ x ∈ des, (Lit.int .i32 x.key).wf = true) (ht : (Lit.int .i32 t).wf = true) (hpw : (Lit.int .i32 probe).wf = true) :
    Calls Try.prog 4 #[zst ae ends.length ce ai items0.length ci ar reads0.length cr b0 b1 b2 b3 ad des.length cd, .agg #[.int .u8 kd, .int .i64 tx, .string ost, .int .i64 so, .bool hs], .int .i32 t, .int .i32 item, .int .i32 src, .int .i32 probe] w fun e w' => e = .returned (.bool true) ∧ Below w.heap.size w w' := by
  go_enter Try.func4, Try.ntmps4
  exact t0 _ _ _ _ _ _ _ _ _ _ _ _ _ _ _ _ _ _ _ _ _ _ _ _ _ _ _ _ _ _ _ _ _ _ _ _ _ _ _ _ _ _ _ _ _ _ _ _ _ _ _ _ _ _ _ _ _ _ _ _ _ _ _ _ _ _ _ _ _ _ _ _ _ _ _ _ _ _ _ _ _ _ _ _ _ _ _ _ _ _ _ _ _ _ _ _ _ _ _ _ _ _ _ _ _ _ _ _ _ _ _ _ _ _ _ _ _ _ _ _ _ _ _ _ _ _ _ _ _ _ _ _ _ _ _ _ _ _ _ _ _ _ _ _ _ _ _ _ _ _ _ _ _ _ _ _ _ _ _ _ _ _ _ _ _ _ _ _ _ _ _ _ _ _ _ _ _ _ _ _ _ _ _ _ _ _ _ _ _ _ _ _ _ _ _ _ _ _ _ _ _ _ _ _ _ _ _ _ _ _ _ _ _ _ _ _ _ _ _ _ _ _ _ _ _ _ _ _ _ _ _ _ _ _ _ _ _ _ _ _ _ _ _ _ _ _ _ _ _ _ _ _ _ _ _ _ _ _ _ _ _ _ _ _ _ _ _ _ _ _ _ _ _ _ _ _ _ _ _ _ _ _ _ _ _ _ _ _ _ _ _ _ _ _ _ _ _ _ _ _ _ _ _ _ _ _ _ _ _ _ _ _ _ _ _ _ _ _ _ _ _ _ _ _ _ _ _ _ _ _ _ _ _ _ _ _ _ _ _ _ _ _ _ _ _ _ _ _ _ _ _ _ _ _ _ _ _ _ _ _ _ _ _ _ _ _ _ _ _ _ _ _ _ _ _ _ _ _ _ _ _ _ _ _ _ _ _ _ _ _ _ _ _ _ _ _ _ _ _ _ _ _ _ _ _ _ _ _ _ _ _ _ _ _ _ _ _ _ _ _ _ _ _ _ _ _ _ _ _ _ _ _ _ _ _ _ _ _ _ _ _ _ _ _ _ _ _ _ _ _ _ _ _ _ _ _ _ _ _ _ _ _ _ _ _ _ _ _ _ _ _ _ _ _ _ _ _ _ _ _ _ _ _ _ _ _ _ _ _ _ _ _ _ _ _ _ _ _ _ _ _ _ _ _ _ _ _ _ _ _ _ _ _ _ _ _ _ _ _ _ _ _ _ _ _ _ _ _ _ _ _ _ _ _ _ _ _ _ _ _ _ _ _ _ _ _ _ _ _ _ _ _ _ _ _ _ _ _ _ _ _ _ _ _ _ _ hZ hr hit hsr wk ht hpw

end Go.Proofs.Qxb6625890a
