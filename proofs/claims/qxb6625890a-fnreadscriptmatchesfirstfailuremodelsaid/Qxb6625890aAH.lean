/-
  Seat b6625890a: the law FnReadTwiceRepeatsOnlyTheDirtyEntry, the classifier is built. Frames written by program.
-/
import Derived.Test.Qxb6625890aAG
namespace Go.Proofs.Qxb6625890a
open Go.RowKit Go.Maps
set_option linter.unusedVariables false
theorem tl4_3 : tl Try.f4 3 = Code.seq (st Try.f4 3) (tl Try.f4 4) := by kernel_rfl
theorem tl4_4 : tl Try.f4 4 = Code.seq (st Try.f4 4) (tl Try.f4 5) := by kernel_rfl
theorem tl4_5 : tl Try.f4 5 = Code.seq (st Try.f4 5) (tl Try.f4 6) := by kernel_rfl
theorem tl4_6 : tl Try.f4 6 = Code.seq (st Try.f4 6) (tl Try.f4 7) := by kernel_rfl

set_option maxRecDepth 100000 in
set_option maxHeartbeats 2000000 in
theorem t5 {w w0 : World} (F : Nat → Prop) (B cb tb db mi N lim : Nat) (vi vr vt : Value) (f : Int → Option Value) (ends : List Int) (o0 : Nat → Option OpC) (items0 reads0 : List (Int × Int)) (dm : Int → Option (List Int)) (src probe : Int) (t : Int) (it : Nat) (kd tx : Int) (ost : ByteArray) (so : Int) (hs : Bool) (bst : Nat) (a2 : Option Addr) (c2 : Nat) (a1 : Option Addr) (c1 : Nat) (bop : Nat) (b0 b1 b2 b3 : Bool) (a4 : Option Addr) (cd : Nat) (des : List DEnt) (a0 : Option Addr) (c0 : Nat) (B1 : Nat) (u0 u1 u8 u9 u10 u11 u12 u14 u15 u16 u17 u18 u19 u20 u21 u22 u23 u24 u25 u26 u27 u28 u29 u30 u31 u32 u33 u34 u35 u36 u37 u38 u39 u40 u41 u42 u43 u44 u45 u46 u47 u48 u49 u50 u51 u52 u53 u54 u55 u56 u57 u58 u59 u60 u61 u62 u63 u64 u65 u66 u67 u68 u69 u70 u71 u72 u73 u74 u75 u76 u77 u78 u79 u80 u81 u82 u83 u84 u85 u86 u87 u88 u89 u90 u91 u92 u93 u94 u95 u96 u97 u98 u99 u100 u101 u102 u103 u104 u105 u106 u107 u108 u109 u110 u111 u112 u113 u114 u115 u116 u117 u118 u119 u120 u121 u122 u123 u124 u125 u126 u127 u128 u129 u130 u131 u132 u133 u134 u135 u136 u137 u138 u139 u140 u141 u142 u143 u144 u145 u146 u147 u148 u149 u150 u151 u152 u153 u154 u155 u156 u157 u158 u159 u160 u161 u162 u163 u164 u165 u166 u167 u168 u169 u170 u171 u172 u173 u174 u175 u176 u177 u178 u179 u180 u181 u182 u183 u184 u185 u186 u187 u188 u189 u190 u191 u192 u193 u194 u195 u196 u197 u198 u199 u200 u201 u202 u203 u204 u205 u206 u207 u208 u209 u210 u211 u212 u213 u214 u215 u216 u217 u218 u219 u220 u221 u222 u223 u224 u225 u226 u227 u228 u229 u230 u231 u232 u233 u234 u235 u236 u237 u238 u239 u240 u241 u242 u243 u244 u245 u246 u247 u248 u249 u250 u251 u252 u253 u254 u255 u256 u257 u258 u259 u260 u261 u262 u263 u264 u265 u266 u267 u268 u269 u270 u271 u272 u273 u274 u275 u276 u277 u278 u279 u280 u281 u282 u283 u284 u285 u286 u287 u288 u289 u290 u291 u292 u293 u294 u295 u296 u297 u298 u299 u300 u301 u302 u303 u304 u305 u306 u307 u308 u309 u310 u311 u312 u313 u314 u315 u316 u317 u318 u319 u320 u321 u322 u323 u324 u325 u326 u327 u328 u329 u330 u331 u332 u333 u334 u335 u336 u337 u338 u339 u340 u341 u342 u343 u344 u345 u346 u347 u348 u349 u350 u351 u352 u353 u354 u355 u356 u357 u358 u359 u360 u361 u362 u363 u364 u365 u366 u367 u368 u369 u370 u371 u372 u373 u374 u375 u376 u377 u378 u379 u380 u381 u382 u383 u384 u385 u386 u387 u388 u389 u390 u391 u392 u393 u394 u395 u396 u397 u398 u399 u400 u401 u402 u403 u404 u405 u406 u407 u408 u409 u410 u411 u412 u413 u414 u415 u416 u417 u418 u419 u420 u421 u422 u423 u424 u425 u426 u427 u428 u429 u430 u431 u432 u433 u434 u435 u436 u437 u438 u439 u440 u441 u442 u443 u444 u445 u446 u447 u448 u449 u450 u451 u452 u453 u454 u455 u456 u457 u458 u459 u460 u461 u462 u463 u464 u465 u466 u467 u468 u469 u470 u471 u472 u473 u474 u475 u476 u477 u478 u479 u480 u481 u482 u483 u484 u485 u486 u487 u488 u489 u490 u491 u492 u493 u494 u495 u496 u497 u498 u499 u500 u501 u502 u503 u504 u505 u506 u507 u508 u509 u510 u511 u512 u513 u514 u515 u516 u517 u518 u519 u520 u521 u522 u523 u524 u525 u526 u527 u528 u529 u530 u531 u532 u533 u534 u535 u536 u537 u538 u539 u540 u541 u542 u543 u544 u545 u546 : Value)
    (h : ClsV w F cb tb db mi N lim vi vr vt f ends o0 items0 reads0 dm) (hF : ∀ k, w.heap.size ≤ k → F k) (hl : lim ≤ 5000000) (hE : ends.length ≤ 1048576) (hW : ∀ i, i < items0.length → (items0.getD i (0, 0)).1 < ends.length) (hR : ∀ i, i < items0.length → (items0.getD i (0, 0)).2 < reads0.length) (ht : (Lit.int .i32 t).wf = true) (hpw : (Lit.int .i32 probe).wf = true) (hsrc : 0 ≤ src → src ≠ t → src < ends.length) (hit0 : it ≤ items0.length) (hb : Below B w0 w) (hBw : B ≤ w.heap.size) (hBB : B ≤ B1) (hsome : ∀ k, k < 4 → (o0 k).isSome = c4 b0 b1 b2 b3 k) (hnest : Nest o0) (k1 : w.cell? ⟨bst, 1, none⟩ = some (.slice a1 items0.length c1)) (k2 : w.cell? ⟨bst, 2, none⟩ = some (.slice a2 reads0.length c2)) (hs1 : Sl w a1 (flat items0)) (hs2 : Sl w a2 (flat reads0)) (hbst : ∀ k, k < 4 → w.cell? ⟨bst, 3 + k, none⟩ = some (.bool (c4 b0 b1 b2 b3 k))) (hbop : w.heap[bop]? = some (.cells (opc kd tx ost so hs).toArray 39 (0, 0))) (hFB : ∀ k, k < B1 → ¬ F k) (hB1 : B1 ≤ w.heap.size) (lst : bst < B1) (lop : bop < B1) (la1 : ∀ x, a1 = some x → x.block < B1) (la2 : ∀ x, a2 = some x → x.block < B1) (hil0 : items0.length ≤ 1048576) (k7 : w.cell? ⟨bst, 7, none⟩ = some (.slice a4 des.length cd)) (hs4 : Sl w a4 (flatD des)) (hde : ∀ i, i < des.length → Sl w (des.getD i d0).ad (ints (des.getD i d0).zs) ∧ ∀ x, (des.getD i d0).ad = some x → x.block < B1) (hdm : dm = dmOf des) (hdl : des.length ≤ 1048576) (k0 : w.cell? ⟨bst, 0, none⟩ = some (.slice a0 ends.length c0)) (hs0 : Sl w a0 (bytes ends)) :
    Code.wp Try.prog (tl Try.f4 5) (QT Try.f4 B w0) ⟨#[u0, u1, .int .i32 t, .int .i32 it, .int .i32 src, .int .i32 probe, .pointer (some ⟨bst, 0, none⟩), .pointer (some ⟨bop, 0, none⟩), u8, u9, u10, u11, u12, .pointer (some ⟨cb, 0, none⟩), u14, u15, u16, u17, u18, u19, u20, u21, u22, u23, u24, u25, u26, u27, u28, u29, u30, u31, u32, u33, u34, u35, u36, u37, u38, u39, u40, u41, u42, u43, u44, u45, u46, u47, u48, u49, u50, u51, u52, u53, u54, u55, u56, u57, u58, u59, u60, u61, u62, u63, u64, u65, u66, u67, u68, u69, u70, u71, u72, u73, u74, u75, u76, u77, u78, u79, u80, u81, u82, u83, u84, u85, u86, u87, u88, u89, u90, u91, u92, u93, u94, u95, u96, u97, u98, u99, u100, u101, u102, u103, u104, u105, u106, u107, u108, u109, u110, u111, u112, u113, u114, u115, u116, u117, u118, u119, u120, u121, u122, u123, u124, u125, u126, u127, u128, u129, u130, u131, u132, u133, u134, u135, u136, u137, u138, u139, u140, u141, u142, u143, u144, u145, u146, u147, u148, u149, u150, u151, u152, u153, u154, u155, u156, u157, u158, u159, u160, u161, u162, u163, u164, u165, u166, u167, u168, u169, u170, u171, u172, u173, u174, u175, u176, u177, u178, u179, u180, u181, u182, u183, u184, u185, u186, u187, u188, u189, u190, u191, u192, u193, u194, u195, u196, u197, u198, u199, u200, u201, u202, u203, u204, u205, u206, u207, u208, u209, u210, u211, u212, u213, u214, u215, u216, u217, u218, u219, u220, u221, u222, u223, u224, u225, u226, u227, u228, u229, u230, u231, u232, u233, u234, u235, u236, u237, u238, u239, u240, u241, u242, u243, u244, u245, u246, u247, u248, u249, u250, u251, u252, u253, u254, u255, u256, u257, u258, u259, u260, u261, u262, u263, u264, u265, u266, u267, u268, u269, u270, u271, u272, u273, u274, u275, u276, u277, u278, u279, u280, u281, u282, u283, u284, u285, u286, u287, u288, u289, u290, u291, u292, u293, u294, u295, u296, u297, u298, u299, u300, u301, u302, u303, u304, u305, u306, u307, u308, u309, u310, u311, u312, u313, u314, u315, u316, u317, u318, u319, u320, u321, u322, u323, u324, u325, u326, u327, u328, u329, u330, u331, u332, u333, u334, u335, u336, u337, u338, u339, u340, u341, u342, u343, u344, u345, u346, u347, u348, u349, u350, u351, u352, u353, u354, u355, u356, u357, u358, u359, u360, u361, u362, u363, u364, u365, u366, u367, u368, u369, u370, u371, u372, u373, u374, u375, u376, u377, u378, u379, u380, u381, u382, u383, u384, u385, u386, u387, u388, u389, u390, u391, u392, u393, u394, u395, u396, u397, u398, u399, u400, u401, u402, u403, u404, u405, u406, u407, u408, u409, u410, u411, u412, u413, u414, u415, u416, u417, u418, u419, u420, u421, u422, u423, u424, u425, u426, u427, u428, u429, u430, u431, u432, u433, u434, u435, u436, u437, u438, u439, u440, u441, u442, u443, u444, u445, u446, u447, u448, u449, u450, u451, u452, u453, u454, u455, u456, u457, u458, u459, u460, u461, u462, u463, u464, u465, u466, u467, u468, u469, u470, u471, u472, u473, u474, u475, u476, u477, u478, u479, u480, u481, u482, u483, u484, u485, u486, u487, u488, u489, u490, u491, u492, u493, u494, u495, u496, u497, u498, u499, u500, u501, u502, u503, u504, u505, u506, u507, u508, u509, u510, u511, u512, u513, u514, u515, u516, u517, u518, u519, u520, u521, u522, u523, u524, u525, u526, u527, u528, u529, u530, u531, u532, u533, u534, u535, u536, u537, u538, u539, u540, u541, u542, u543, u544, u545, u546], []⟩ w := by
  have HALL : Hid _ := And.intro h (And.intro hF (And.intro hW (And.intro hR (And.intro hsrc (And.intro hb (And.intro hsome hnest))))))
  have HST : Hid _ := And.intro k1 (And.intro k2 (And.intro hs1 (And.intro hs2 (And.intro hbst hbop))))
  have HL5 : Hid _ := And.intro hFB (And.intro la1 la2)
  have HD5 : Hid _ := And.intro k7 (And.intro hs4 (And.intro hde (And.intro hdm (And.intro k0 hs0))))
  clear h hF hW hR hsrc hb hsome hnest k1 k2 hs1 hs2 hbst hbop hFB la1 la2 k7 hs4 hde hdm k0 hs0
  rw [tl4_5]
  refine wp_seq_k (fun K hK => ?_)
  conv => arg 2; whnf
  go_wp2_with fail
  have hb1 : Below w.heap.size w (w.alloc (.cells #[.pointer none, .pointer none, .pointer none, .pointer none] 36)) := (Below.refl _ _).alloc (Nat.le_refl _) _
  have hn1 : (w.alloc (.cells #[.pointer none, .pointer none, .pointer none, .pointer none] 36)).heap[w.heap.size]? = some (.cells #[.pointer none, .pointer none, .pointer none, .pointer none] 36 (0, 0)) := heap_alloc_new w _
  have HB1 : Hid _ := hb1
  have HN1 : Hid _ := hn1
  clear hb1 hn1
  obtain ⟨w1, hw1⟩ : ∃ w1, w1 = w.alloc (.cells #[.pointer none, .pointer none, .pointer none, .pointer none] 36) := ⟨_, rfl⟩
  rw [← hw1] at HB1 HN1 ⊢
  clear hw1
  rw [tl4_6]
  refine wp_seq_k (fun K hK => ?_)
  conv => arg 2; whnf
  go_wp2_with fail
  go_loopw [15] (fun i wr => ∃ (k : Nat) (cur : Array Value), k ≤ 4 ∧ i = .int .i64 k ∧ wr.heap[w.heap.size]? = some (.cells cur 36 (0, 0)) ∧ cur.size = 4 ∧ (∀ j, j < k → cur[j]? = some (optr (o0 j))) ∧ Below w.heap.size w wr) (fun i _ => 4 - (intOf i).toNat)
  case atStart => exact ⟨0, _, by omega, rfl, HN1.out, rfl, fun j hj => (by omega), HB1.out⟩
  case round =>
    obtain ⟨k, cur, hk, rfl, hcur, hcs, hcj, hbr⟩ := hrel
    clear HB1 HN1
    have HBR : Hid _ := hbr
    by_cases hlt : k < 4
    · have hlt' : (k : Int) < 4 := by omega
      have hlt0 : (0 : Int) ≤ (k : Int) := by omega
      have hc := outOf_any (ClsV.grown HALL.out.1 hbr) k hlt
      obtain ⟨y0, d1⟩ : ∃ y, wr.cell? ⟨w.heap.size, k, none⟩ = some y := ⟨_, cell_blk hcur (Array.getElem?_eq_getElem (by omega))⟩
      have z1 := frozen_of_row wr w.heap.size k _ _ hcur
      obtain ⟨s1, s2⟩ := set_at (g := fun j => optr (o0 j)) (v := optr (o0 k)) hcs hlt rfl hcj
      have hcur2 := blk_set (i := k) (optr (o0 k)) hcur
      have hb2 : Below w.heap.size w (wr.setCell ⟨w.heap.size, k, none⟩ (optr (o0 k))) := hbr.setCell (Nat.le_refl _) _
      have HC : Hid _ := hc
      have HS12 : Hid _ := And.intro hcur2 (And.intro s1 (And.intro s2 hb2))
      clear hc hcur hcs hcj hbr s1 s2 hcur2 hb2 HALL HST HL5 HD5
      generalize hok : o0 k = ok at *
      go_wp2_with fail
      refine Calls.mono HC.out ?_
      rintro e w3 ⟨rfl, hw3⟩
      have hw3 := hw3.symm
      subst hw3
      clear HC
      cases ok with
      | none =>
        rw [optr_none] at *
        go_wp2_with fail
        go_roundw
        case rel => exact ⟨k + 1, _, by omega, by go_num, HS12.out.1, HS12.out.2.1, HS12.out.2.2.1, HS12.out.2.2.2⟩
        case measure => simp [intOf]; omega
      | some y =>
        rw [optr_some] at *
        go_wp2_with fail
        go_roundw
        case rel => exact ⟨k + 1, _, by omega, by go_num, HS12.out.1, HS12.out.2.1, HS12.out.2.2.1, HS12.out.2.2.2⟩
        case measure => simp [intOf]; omega
    · obtain rfl : k = 4 := by omega
      have HBA : Hid (∀ k, k < 4 → wr.cell? ⟨w.heap.size, k, none⟩ = some (optr (o0 k))) := fun j hj => cell_blk hcur (hcj j hj)
      have HLB : Hid (w.heap.size < wr.heap.size) := (Array.getElem?_eq_some_iff.1 hcur).1
      clear hcur hcs hcj hbr
      go_wp2_with fail
      obtain ⟨h, hF, hW, hR, hsrc, hb, hsome, hnest⟩ := HALL.out
      obtain ⟨k1, k2, hs1, hs2, hbst, hbop⟩ := HST.out
      obtain ⟨hFB, la1, la2⟩ := HL5.out
      obtain ⟨k7, hs4, hde, hdm, k0, hs0⟩ := HD5.out
      have b := HBR.out
      have nf : ∀ k, k < B1 → ¬ FX F w.heap.size wr.heap.size k := fun k hk => FX.old (hFB k hk) (by have := b.size; omega)
      exact t7 _ _ _ _ _ _ _ _ _ _ _ _ _ _ _ _ _ _ _ _ _ _ _ _ _ _ _ _ _ _ _ _ _ _ _ _ _ _ _ _ _ _ _ _ _ _ _ _ _ _ _ _ _ _ _ _ _ _ _ _ _ _ _ _ _ _ _ _ _ _ _ _ _ _ _ _ _ _ _ _ _ _ _ _ _ _ _ _ _ _ _ _ _ _ _ _ _ _ _ _ _ _ _ _ _ _ _ _ _ _ _ _ _ _ _ _ _ _ _ _ _ _ _ _ _ _ _ _ _ _ _ _ _ _ _ _ _ _ _ _ _ _ _ _ _ _ _ _ _ _ _ _ _ _ _ _ _ _ _ _ _ _ _ _ _ _ _ _ _ _ _ _ _ _ _ _ _ _ _ _ _ _ _ _ _ _ _ _ _ _ _ _ _ _ _ _ _ _ _ _ _ _ _ _ _ _ _ _ _ _ _ _ _ _ _ _ _ _ _ _ _ _ _ _ _ _ _ _ _ _ _ _ _ _ _ _ _ _ _ _ _ _ _ _ _ _ _ _ _ _ _ _ _ _ _ _ _ _ _ _ _ _ _ _ _ _ _ _ _ _ _ _ _ _ _ _ _ _ _ _ _ _ _ _ _ _ _ _ _ _ _ _ _ _ _ _ _ _ _ _ _ _ _ _ _ _ _ _ _ _ _ _ _ _ _ _ _ _ _ _ _ _ _ _ _ _ _ _ _ _ _ _ _ _ _ _ _ _ _ _ _ _ _ _ _ _ _ _ _ _ _ _ _ _ _ _ _ _ _ _ _ _ _ _ _ _ _ _ _ _ _ _ _ _ _ _ _ _ _ _ _ _ _ _ _ _ _ _ _ _ _ _ _ _ _ _ _ _ _ _ _ _ _ _ _ _ _ _ _ _ _ _ _ _ _ _ _ _ _ _ _ _ _ _ _ _ _ _ _ _ _ _ _ _ _ _ _ _ _ _ _ _ _ _ _ _ _ _ _ _ _ _ _ _ _ _ _ _ _ _ _ _ _ _ _ _ _ _ _ _ _ _ _ _ _ _ _ _ _ _ _ _ _ _ _ _ _ _ _ _ _ _ _ _ _ _ _ _ _ _ _ _ _ _ _ _ _ _ _ _ _ _ _ _ _ _ _ _ _ _ _ _ _ _ _ _ _ _ _ _ _ _ _ _ _ _ _ _ _ _ _ _ _ _ _ _ _ _ _ _ _ _ _ _ _ _ _ _ _ _ _ _ _ _ _ _ _ _ _ _ _ _ _ _ _ _ _ _ _ _ _ (ClsV.fx h b) FX.new hl hE hW hR ht hpw hsrc hit0 (hb.trans (b.mono hBw)) (Nat.le_trans hBw b.size) (fun k hk => nf k (Nat.lt_of_lt_of_le hk hBB)) hsome hnest (cell_later b k1) (cell_later b k2) (hs1.below b) (hs2.below b) (fun k hk => cell_later b (hbst k hk)) (blk_kept (grown_of_below b) hbop (by simp)) (nf _ lst) (nf _ lop) (fun x hx => nf _ (la1 x hx)) (fun x hx => nf _ (la2 x hx)) HBA.out (FX.mid (Nat.le_refl _) HLB.out) hil0 (cell_later b k7) (hs4.below b) (fun i hi => ⟨(hde i hi).1.below b, fun x hx => nf _ ((hde i hi).2 x hx)⟩) hdm hdl (cell_later b k0) (hs0.below b)

set_option maxRecDepth 100000 in
set_option maxHeartbeats 2000000 in
theorem t4 {w w0 : World} (B C : Nat) (ends : List Int) (items0 reads0 : List (Int × Int)) (src probe : Int) (t : Int) (it : Nat) (kd tx : Int) (ost : ByteArray) (so : Int) (hs : Bool) (bst bop : Nat) (b0 b1 b2 b3 : Bool) (x0 x1 x2 x4 : Value) (deso des : List DEnt) (u0 u1 u8 u9 u10 u11 u12 u13 u14 u15 u16 u17 u18 u19 u20 u21 u22 u23 u24 u25 u26 u27 u28 u29 u30 u31 u32 u33 u34 u35 u36 u37 u38 u39 u40 u41 u42 u43 u44 u45 u46 u47 u48 u49 u50 u51 u52 u53 u54 u55 u56 u57 u58 u59 u60 u61 u62 u63 u64 u65 u66 u67 u68 u69 u70 u71 u72 u73 u74 u75 u76 u77 u78 u79 u80 u81 u82 u83 u84 u85 u86 u87 u88 u89 u90 u91 u92 u93 u94 u95 u96 u97 u98 u99 u100 u101 u102 u103 u104 u105 u106 u107 u108 u109 u110 u111 u112 u113 u114 u115 u116 u117 u118 u119 u120 u121 u122 u123 u124 u125 u126 u127 u128 u129 u130 u131 u132 u133 u134 u135 u136 u137 u138 u139 u140 u141 u142 u143 u144 u145 u146 u147 u148 u149 u150 u151 u152 u153 u154 u155 u156 u157 u158 u159 u160 u161 u162 u163 u164 u165 u166 u167 u168 u169 u170 u171 u172 u173 u174 u175 u176 u177 u178 u179 u180 u181 u182 u183 u184 u185 u186 u187 u188 u189 u190 u191 u192 u193 u194 u195 u196 u197 u198 u199 u200 u201 u202 u203 u204 u205 u206 u207 u208 u209 u210 u211 u212 u213 u214 u215 u216 u217 u218 u219 u220 u221 u222 u223 u224 u225 u226 u227 u228 u229 u230 u231 u232 u233 u234 u235 u236 u237 u238 u239 u240 u241 u242 u243 u244 u245 u246 u247 u248 u249 u250 u251 u252 u253 u254 u255 u256 u257 u258 u259 u260 u261 u262 u263 u264 u265 u266 u267 u268 u269 u270 u271 u272 u273 u274 u275 u276 u277 u278 u279 u280 u281 u282 u283 u284 u285 u286 u287 u288 u289 u290 u291 u292 u293 u294 u295 u296 u297 u298 u299 u300 u301 u302 u303 u304 u305 u306 u307 u308 u309 u310 u311 u312 u313 u314 u315 u316 u317 u318 u319 u320 u321 u322 u323 u324 u325 u326 u327 u328 u329 u330 u331 u332 u333 u334 u335 u336 u337 u338 u339 u340 u341 u342 u343 u344 u345 u346 u347 u348 u349 u350 u351 u352 u353 u354 u355 u356 u357 u358 u359 u360 u361 u362 u363 u364 u365 u366 u367 u368 u369 u370 u371 u372 u373 u374 u375 u376 u377 u378 u379 u380 u381 u382 u383 u384 u385 u386 u387 u388 u389 u390 u391 u392 u393 u394 u395 u396 u397 u398 u399 u400 u401 u402 u403 u404 u405 u406 u407 u408 u409 u410 u411 u412 u413 u414 u415 u416 u417 u418 u419 u420 u421 u422 u423 u424 u425 u426 u427 u428 u429 u430 u431 u432 u433 u434 u435 u436 u437 u438 u439 u440 u441 u442 u443 u444 u445 u446 u447 u448 u449 u450 u451 u452 u453 u454 u455 u456 u457 u458 u459 u460 u461 u462 u463 u464 u465 u466 u467 u468 u469 u470 u471 u472 u473 u474 u475 u476 u477 u478 u479 u480 u481 u482 u483 u484 u485 u486 u487 u488 u489 u490 u491 u492 u493 u494 u495 u496 u497 u498 u499 u500 u501 u502 u503 u504 u505 u506 u507 u508 u509 u510 u511 u512 u513 u514 u515 u516 u517 u518 u519 u520 u521 u522 u523 u524 u525 u526 u527 u528 u529 u530 u531 u532 u533 u534 u535 u536 u537 u538 u539 u540 u541 u542 u543 u544 u545 u546 : Value)
    (hbop : w.heap[bop]? = some (.cells (opc kd tx ost so hs).toArray 39 (0, 0))) (hst : w.heap[bst]? = some (.cells #[x0, x1, x2, .bool b0, .bool b1, .bool b2, .bool b3, x4] 28 (0, 0))) (hC : Copied w C x0 x1 x2 x4 ends items0 reads0 deso des) (l1 : ends.length ≤ 1048576) (l2 : items0.length ≤ 1048576) (l3 : reads0.length ≤ 1048576) (l4 : des.length ≤ 1048576) (l5 : ∀ x ∈ des, x.zs.length ≤ 1048576) (wk : ∀ x ∈ des, (Lit.int .i32 x.key).wf = true) (hok : StOK b0 b1 b2 b3 ends items0 reads0) (ht : (Lit.int .i32 t).wf = true) (hpw : (Lit.int .i32 probe).wf = true) (hsrc : 0 ≤ src → src ≠ t → src < ends.length) (hit0 : it ≤ items0.length) (hb : Below B w0 w) (hBw : B ≤ w.heap.size) :
    Code.wp Try.prog (tl Try.f4 4) (QT Try.f4 B w0) ⟨#[u0, u1, .int .i32 t, .int .i32 it, .int .i32 src, .int .i32 probe, .pointer (some ⟨bst, 0, none⟩), .pointer (some ⟨bop, 0, none⟩), u8, u9, u10, u11, u12, u13, u14, u15, u16, u17, u18, u19, u20, u21, u22, u23, u24, u25, u26, u27, u28, u29, u30, u31, u32, u33, u34, u35, u36, u37, u38, u39, u40, u41, u42, u43, u44, u45, u46, u47, u48, u49, u50, u51, u52, u53, u54, u55, u56, u57, u58, u59, u60, u61, u62, u63, u64, u65, u66, u67, u68, u69, u70, u71, u72, u73, u74, u75, u76, u77, u78, u79, u80, u81, u82, u83, u84, u85, u86, u87, u88, u89, u90, u91, u92, u93, u94, u95, u96, u97, u98, u99, u100, u101, u102, u103, u104, u105, u106, u107, u108, u109, u110, u111, u112, u113, u114, u115, u116, u117, u118, u119, u120, u121, u122, u123, u124, u125, u126, u127, u128, u129, u130, u131, u132, u133, u134, u135, u136, u137, u138, u139, u140, u141, u142, u143, u144, u145, u146, u147, u148, u149, u150, u151, u152, u153, u154, u155, u156, u157, u158, u159, u160, u161, u162, u163, u164, u165, u166, u167, u168, u169, u170, u171, u172, u173, u174, u175, u176, u177, u178, u179, u180, u181, u182, u183, u184, u185, u186, u187, u188, u189, u190, u191, u192, u193, u194, u195, u196, u197, u198, u199, u200, u201, u202, u203, u204, u205, u206, u207, u208, u209, u210, u211, u212, u213, u214, u215, u216, u217, u218, u219, u220, u221, u222, u223, u224, u225, u226, u227, u228, u229, u230, u231, u232, u233, u234, u235, u236, u237, u238, u239, u240, u241, u242, u243, u244, u245, u246, u247, u248, u249, u250, u251, u252, u253, u254, u255, u256, u257, u258, u259, u260, u261, u262, u263, u264, u265, u266, u267, u268, u269, u270, u271, u272, u273, u274, u275, u276, u277, u278, u279, u280, u281, u282, u283, u284, u285, u286, u287, u288, u289, u290, u291, u292, u293, u294, u295, u296, u297, u298, u299, u300, u301, u302, u303, u304, u305, u306, u307, u308, u309, u310, u311, u312, u313, u314, u315, u316, u317, u318, u319, u320, u321, u322, u323, u324, u325, u326, u327, u328, u329, u330, u331, u332, u333, u334, u335, u336, u337, u338, u339, u340, u341, u342, u343, u344, u345, u346, u347, u348, u349, u350, u351, u352, u353, u354, u355, u356, u357, u358, u359, u360, u361, u362, u363, u364, u365, u366, u367, u368, u369, u370, u371, u372, u373, u374, u375, u376, u377, u378, u379, u380, u381, u382, u383, u384, u385, u386, u387, u388, u389, u390, u391, u392, u393, u394, u395, u396, u397, u398, u399, u400, u401, u402, u403, u404, u405, u406, u407, u408, u409, u410, u411, u412, u413, u414, u415, u416, u417, u418, u419, u420, u421, u422, u423, u424, u425, u426, u427, u428, u429, u430, u431, u432, u433, u434, u435, u436, u437, u438, u439, u440, u441, u442, u443, u444, u445, u446, u447, u448, u449, u450, u451, u452, u453, u454, u455, u456, u457, u458, u459, u460, u461, u462, u463, u464, u465, u466, u467, u468, u469, u470, u471, u472, u473, u474, u475, u476, u477, u478, u479, u480, u481, u482, u483, u484, u485, u486, u487, u488, u489, u490, u491, u492, u493, u494, u495, u496, u497, u498, u499, u500, u501, u502, u503, u504, u505, u506, u507, u508, u509, u510, u511, u512, u513, u514, u515, u516, u517, u518, u519, u520, u521, u522, u523, u524, u525, u526, u527, u528, u529, u530, u531, u532, u533, u534, u535, u536, u537, u538, u539, u540, u541, u542, u543, u544, u545, u546], []⟩ w := by
  obtain ⟨a0, q0, rfl⟩ := row_shape hC.e
  obtain ⟨a1, q1, rfl⟩ := row_shape hC.i
  obtain ⟨a2, q2, rfl⟩ := row_shape hC.r
  have hlen := hC.len
  have hCd := hC.d
  rw [← hlen] at hCd
  obtain ⟨a4, q4, rfl⟩ := row_shape hCd
  have k0 : w.cell? ⟨bst, 0, none⟩ = some (.slice a0 ends.length q0) := cell_blk hst rfl
  have k1 : w.cell? ⟨bst, 1, none⟩ = some (.slice a1 items0.length q1) := cell_blk hst rfl
  have k2 : w.cell? ⟨bst, 2, none⟩ = some (.slice a2 reads0.length q2) := cell_blk hst rfl
  have k3 : w.cell? ⟨bst, 3, none⟩ = some (.bool b0) := cell_blk hst rfl
  have k4 : w.cell? ⟨bst, 4, none⟩ = some (.bool b1) := cell_blk hst rfl
  have k5 : w.cell? ⟨bst, 5, none⟩ = some (.bool b2) := cell_blk hst rfl
  have k6 : w.cell? ⟨bst, 6, none⟩ = some (.bool b3) := cell_blk hst rfl
  have k7 : w.cell? ⟨bst, 7, none⟩ = some (.slice a4 des.length q4) := cell_blk hst rfl
  have hde : ∀ i, i < des.length → Sl w (des.getD i d0).ad (ints (des.getD i d0).zs) ∧ ∀ x, (des.getD i d0).ad = some x → x.block < w.heap.size := by
    intro i hi
    have ho := hC.co.own i hi
    refine ⟨sl_of_row ho, fun x hx => ?_⟩
    rw [hx] at ho
    exact (row_ge ho).2
  have hmem : ∀ x ∈ des, ∃ i, i < des.length ∧ des.getD i d0 = x := by
    intro x hx
    obtain ⟨i, hi, e⟩ := List.getElem_of_mem hx
    exact ⟨i, hi, by rw [List.getD_eq_getElem?_getD, List.getElem?_eq_getElem hi]; exact e⟩
  have hZ : ZV w a0 a1 a2 a4 ends items0 reads0 des := ⟨sl_of_row hC.e, sl_of_row hC.i, sl_of_row hC.r, sl_of_row hCd, fun x hx => by
    obtain ⟨i, hi, e⟩ := hmem x hx
    rw [← e]; exact (hde i hi).1⟩
  have hcl := clone_any a0 q0 a1 q1 a2 q2 b0 b1 b2 b3 a4 q4 ends items0 reads0 des w hZ l1 l2 l3 l4 l5
  have HCL : Hid _ := hcl
  have HZ : Hid _ := hZ
  have HK : Hid _ := And.intro k0 (And.intro k1 (And.intro k2 (And.intro k3 (And.intro k4 (And.intro k5 (And.intro k6 k7))))))
  have HDE : Hid _ := hde
  have HCC : Hid _ := hC
  have HOK : Hid _ := hok
  have HSRC : Hid _ := hsrc
  have HB : Hid _ := hb
  have HBOP : Hid _ := hbop
  have HL5 : Hid _ := And.intro l5 wk
  have lst : bst < w.heap.size := (Array.getElem?_eq_some_iff.1 hst).1
  have lop : bop < w.heap.size := (Array.getElem?_eq_some_iff.1 hbop).1
  have la1 : ∀ x, a1 = some x → x.block < w.heap.size := fun x hx => by have := hC.i; rw [hx] at this; exact (row_ge this).2
  have la2 : ∀ x, a2 = some x → x.block < w.heap.size := fun x hx => by have := hC.r; rw [hx] at this; exact (row_ge this).2
  have HLA : Hid _ := And.intro la1 la2
  clear hcl hZ hde hC hCd hok hsrc hb hbop l5 wk hst hmem la1 la2 hlen
  rw [tl4_4]
  refine wp_seq_k (fun K hK => ?_)
  conv => arg 2; whnf
  go_wp2_with fail
  refine Calls.mono HCL.out ?_
  rintro e w2 ⟨v, rfl, y0, y1, y2, y4, des2, rfl, hC2, hb2⟩
  have HC2 : Hid _ := hC2
  have HB2 : Hid _ := hb2
  clear hC2 hb2 HCL k0 k1 k2 k3 k4 k5 k6 k7
  go_wp2_with fail
  refine Calls.mono (build_any _ y0 y1 y2 y4 b0 b1 b2 b3 ends items0 reads0 des des2 w2 HC2.out l1 l2 l3 l4 HL5.out.1 HL5.out.2) ?_
  rintro e w3 ⟨v, rfl, cb, tb, db, mi, N, lim, vi, vr, vt, f, o0, rfl, hV, hlim, hsome, hK⟩
  have HV : Hid _ := hV
  have HKK : Hid _ := hK
  have HSM : Hid _ := hsome
  clear hV hK hsome
  go_wp2_with fail
  have hV := HV.out
  have hK := HKK.out
  have hsome := HSM.out
  obtain ⟨k0, k1, k2, k3, k4, k5, k6, k7⟩ := HK.out
  have hde := HDE.out
  have hok := HOK.out
  have hsrc := HSRC.out
  have hb := HB.out
  have hbop := HBOP.out
  obtain ⟨la1, la2⟩ := HLA.out
  obtain ⟨hs0, hs1, hs2, hs4, _⟩ := HZ.out
  have hge : ∀ k, FV (fun k => w2.heap.size ≤ k) des2 k → w.heap.size ≤ k := by
    rintro k (hk | ⟨i, a, hi, ha, rfl⟩)
    · exact Nat.le_trans HB2.out.size hk
    · have ho := HC2.out.co.own i hi
      rw [ha] at ho
      exact (row_ge ho).1
  have hFF : ∀ g, g < w3.heap.size → FV (fun k => w2.heap.size < k) des2 g → w.heap.size ≤ g := by
    rintro g _ (hk | hk)
    · exact Nat.le_trans HB2.out.size (Nat.le_of_lt hk)
    · exact hge g (Or.inr hk)
  have b23 : Below w.heap.size w2 w3 := (hK.mono hge).below (fun k hk hh => by omega) HB2.out.size
  have b13 : Below w.heap.size w w3 := HB2.out.trans b23
  have hbst : ∀ k, k < 4 → w.cell? ⟨bst, 3 + k, none⟩ = some (.bool (c4 b0 b1 b2 b3 k)) := by
    intro k hk
    match k, hk with
    | 0, _ => exact k3
    | 1, _ => exact k4
    | 2, _ => exact k5
    | 3, _ => exact k6
  exact t5 (fun k => w.heap.size ≤ k) _ _ _ _ _ _ _ _ _ _ _ _ _ _ _ _ _ _ _ _ _ _ _ _ _ _ _ _ _ _ _ _ _ _ _ _ _ _ _ _ w.heap.size _ _ _ _ _ _ _ _ _ _ _ _ _ _ _ _ _ _ _ _ _ _ _ _ _ _ _ _ _ _ _ _ _ _ _ _ _ _ _ _ _ _ _ _ _ _ _ _ _ _ _ _ _ _ _ _ _ _ _ _ _ _ _ _ _ _ _ _ _ _ _ _ _ _ _ _ _ _ _ _ _ _ _ _ _ _ _ _ _ _ _ _ _ _ _ _ _ _ _ _ _ _ _ _ _ _ _ _ _ _ _ _ _ _ _ _ _ _ _ _ _ _ _ _ _ _ _ _ _ _ _ _ _ _ _ _ _ _ _ _ _ _ _ _ _ _ _ _ _ _ _ _ _ _ _ _ _ _ _ _ _ _ _ _ _ _ _ _ _ _ _ _ _ _ _ _ _ _ _ _ _ _ _ _ _ _ _ _ _ _ _ _ _ _ _ _ _ _ _ _ _ _ _ _ _ _ _ _ _ _ _ _ _ _ _ _ _ _ _ _ _ _ _ _ _ _ _ _ _ _ _ _ _ _ _ _ _ _ _ _ _ _ _ _ _ _ _ _ _ _ _ _ _ _ _ _ _ _ _ _ _ _ _ _ _ _ _ _ _ _ _ _ _ _ _ _ _ _ _ _ _ _ _ _ _ _ _ _ _ _ _ _ _ _ _ _ _ _ _ _ _ _ _ _ _ _ _ _ _ _ _ _ _ _ _ _ _ _ _ _ _ _ _ _ _ _ _ _ _ _ _ _ _ _ _ _ _ _ _ _ _ _ _ _ _ _ _ _ _ _ _ _ _ _ _ _ _ _ _ _ _ _ _ _ _ _ _ _ _ _ _ _ _ _ _ _ _ _ _ _ _ _ _ _ _ _ _ _ _ _ _ _ _ _ _ _ _ _ _ _ _ _ _ _ _ _ _ _ _ _ _ _ _ _ _ _ _ _ _ _ _ _ _ _ _ _ _ _ _ _ _ _ _ _ _ _ _ _ _ _ _ _ _ _ _ _ _ _ _ _ _ _ _ _ _ _ _ _ _ _ _ _ _ _ _ _ _ _ _ _ _ _ _ _ _ _ _ _ _ _ _ _ _ _ _ _ _ _ _ _ _ _ _ _ _ _ _ _ _ _ _ _ _ _ _ _ _ _ _ _ _ _ _ _ _ _ _ _ _ _ _ _ _ _ _ _ _ _ _ _ _ _ _ _ _ _ _ _ _ _ (hV.reF hFF) (fun k hk => Nat.le_trans b13.size hk) (by omega) l1 hok.wr hok.lr ht hpw hsrc hit0 (hb.trans (b13.mono hBw)) (Nat.le_trans hBw b13.size) hBw hsome (nest_of hsome hok.n0 hok.n1 hok.n2) (cell_later b13 k1) (cell_later b13 k2) (hs1.below b13) (hs2.below b13) (fun k hk => cell_later b13 (hbst k hk)) (blk_kept (grown_of_below b13) hbop (by simp)) (fun k hk hh => by omega) b13.size lst lop la1 la2 l2 (cell_later b13 k7) (hs4.below b13) (fun i hi => ⟨(hde i hi).1.below b13, (hde i hi).2⟩) rfl l4 (cell_later b13 k0) (hs0.below b13)

end Go.Proofs.Qxb6625890a
