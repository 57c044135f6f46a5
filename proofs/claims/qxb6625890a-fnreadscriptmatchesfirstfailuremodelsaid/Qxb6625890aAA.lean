/-
  Seat b6625890a: the law FnReadTwiceRepeatsOnlyTheDirtyEntry, the items are listed. Frames written by program.
-/
import Derived.Test.Qxb6625890aZ
namespace Go.Proofs.Qxb6625890a
open Go.RowKit Go.Maps
set_option linter.unusedVariables false
theorem tl4_17 : tl Try.f4 17 = Code.seq (st Try.f4 17) (tl Try.f4 18) := by kernel_rfl
theorem tl4_18 : tl Try.f4 18 = Code.seq (st Try.f4 18) (tl Try.f4 19) := by kernel_rfl
theorem tl4_19 : tl Try.f4 19 = Code.seq (st Try.f4 19) (tl Try.f4 20) := by kernel_rfl
theorem tl4_20 : tl Try.f4 20 = Code.seq (st Try.f4 20) (tl Try.f4 21) := by kernel_rfl
theorem tl4_21 : tl Try.f4 21 = Code.seq (st Try.f4 21) (tl Try.f4 22) := by kernel_rfl
theorem tl4_22 : tl Try.f4 22 = Code.seq (st Try.f4 22) (tl Try.f4 23) := by kernel_rfl
theorem tl4_23 : tl Try.f4 23 = Code.seq (st Try.f4 23) (tl Try.f4 24) := by kernel_rfl
theorem tl4_24 : tl Try.f4 24 = Code.seq (st Try.f4 24) (tl Try.f4 25) := by kernel_rfl
theorem tl4_25 : tl Try.f4 25 = Code.seq (st Try.f4 25) (tl Try.f4 26) := by kernel_rfl
theorem tl4_26 : tl Try.f4 26 = Code.seq (st Try.f4 26) (tl Try.f4 27) := by kernel_rfl

set_option maxRecDepth 100000 in
set_option maxHeartbeats 2000000 in
theorem t24 {w w0 : World} (F : Nat → Prop) (B cb tb db mi N lim : Nat) (vi vr vt : Value) (f : Int → Option Value) (ends : List Int) (out : Nat → Option OpC) (items reads : List (Int × Int)) (dm : Int → Option (List Int)) (src probe : Int) (ad1 : Bool) (ba : Nat) (t : Int) (it : Nat) (bh : Nat) (kd tx : Int) (ost : ByteArray) (so : Int) (hs : Bool) (ia : Option Addr) (ic : Nat) (z0 : List Int) (h0 : Bool) (bst : Nat) (ilr : Int) (a2 : Option Addr) (c2 : Nat) (reads0 : List (Int × Int)) (a1 : Option Addr) (c1 : Nat) (items0 : List (Int × Int)) (u0 u1 u7 u8 u9 u10 u11 u12 u14 u15 u16 u18 u19 u22 u26 u27 u28 u30 u31 u32 u33 u34 u35 u36 u37 u38 u39 u40 u41 u42 u43 u44 u45 u46 u47 u48 u49 u50 u51 u52 u53 u54 u55 u56 u57 u58 u59 u60 u61 u62 u63 u64 u65 u66 u67 u68 u69 u70 u71 u72 u73 u74 u75 u76 u77 u78 u79 u80 u81 u82 u83 u84 u85 u86 u87 u88 u89 u90 u91 u92 u93 u94 u95 u96 u97 u98 u99 u100 u101 u102 u103 u104 u105 u106 u107 u108 u109 u110 u111 u112 u113 u114 u115 u116 u117 u118 u119 u120 u121 u122 u123 u124 u125 u126 u127 u128 u129 u130 u131 u132 u133 u134 u135 u136 u137 u138 u139 u140 u141 u142 u143 u144 u145 u146 u147 u148 u149 u150 u151 u152 u153 u154 u155 u156 u157 u158 u159 u160 u161 u162 u163 u164 u165 u166 u167 u168 u169 u170 u171 u172 u173 u174 u175 u176 u177 u178 u179 u180 u181 u182 u183 u184 u185 u186 u187 u188 u189 u190 u191 u192 u193 u194 u195 u196 u197 u198 u199 u200 u201 u202 u203 u204 u205 u206 u207 u208 u209 u210 u211 u212 u213 u214 u215 u216 u217 u218 u219 u220 u221 u222 u223 u224 u225 u226 u227 u228 u229 u230 u231 u232 u233 u234 u235 u236 u237 u238 u239 u240 u241 u242 u243 u244 u245 u246 u247 u248 u249 u250 u251 u252 u253 u254 u255 u256 u257 u258 u259 u260 u261 u262 u263 u264 u265 u266 u267 u268 u269 u270 u271 u272 u273 u274 u275 u276 u277 u278 u279 u280 u281 u282 u283 u284 u285 u286 u287 u288 u289 u290 u291 u292 u293 u294 u295 u296 u297 u298 u299 u300 u301 u302 u303 u304 u305 u306 u307 u308 u309 u310 u311 u312 u313 u314 u315 u316 u317 u318 u319 u320 u321 u322 u323 u324 u325 u326 u327 u328 u329 u330 u331 u332 u333 u334 u335 u336 u337 u338 u339 u340 u341 u342 u343 u344 u345 u346 u347 u348 u349 u350 u351 u352 u353 u354 u355 u356 u357 u358 u359 u360 u361 u362 u363 u364 u365 u366 u367 u368 u369 u370 u371 u372 u373 u374 u375 u376 u377 u378 u379 u380 u381 u382 u383 u384 u385 u386 u387 u388 u389 u390 u391 u392 u393 u394 u395 u396 u397 u398 u399 u400 u401 u402 u403 u404 u405 u406 u407 u408 u409 u410 u411 u412 u413 u414 u415 u416 u417 u418 u419 u420 u421 u422 u423 u424 u425 u426 u427 u428 u429 u430 u431 u432 u433 u434 u435 u436 u437 u438 u439 u440 u441 u442 u443 u444 u445 u446 u447 u448 u449 u450 u451 u452 u453 u454 u455 u456 u457 u458 u459 u460 u461 u462 u463 u464 u465 u466 u467 u468 u469 u470 u471 u472 u473 u474 u475 u476 u477 u478 u479 u480 u481 u482 u483 u484 u485 u486 u487 u488 u489 u490 u491 u492 u493 u494 u495 u496 u497 u498 u499 u500 u501 u502 u503 u504 u505 u506 u507 u508 u509 u510 u511 u512 u513 u514 u515 u516 u517 u518 u519 u520 u521 u522 u523 u524 u525 u526 u527 u528 u529 u530 u531 u532 u533 u534 u535 u536 u537 u538 u539 u540 u541 u542 u543 u544 u545 u546 : Value)
    (h : ClsV w F cb tb db mi N lim vi vr vt f ends out items reads dm) (hba : ∀ k, k < 4 → w.cell? ⟨ba, k, none⟩ = some (optr (out k)))    (nba : ¬ F ba) (nbh : ¬ F bh)  (vba : ba < w.heap.size) (hF : ∀ k, w.heap.size ≤ k → F k) (hl : lim ≤ 6000000) (hE : ends.length ≤ 1048576) (hW : ∀ i, i < items.length → (items.getD i (0, 0)).1 < ends.length) (hR : ∀ i, i < items.length → (items.getD i (0, 0)).2 < reads.length) (ht : (Lit.int .i32 t).wf = true) (hsrc : 0 ≤ src → src ≠ t → src < ends.length) (hag : Again ends out items reads it t src) (had : AdOK ad1 probe t (drt ends src t) (out 0)) (hbh : w.heap[bh]? = some (.cells (opc kd tx ost so hs).toArray 45 (0, 0))) (hi : Sl w ia (ints z0)) (hj0 : (ad1 = true ∧ dm probe = some (z0 ++ [src])) ∨ (ad1 = false ∧ (dm probe).isSome = h0 ∧ (dm probe).getD [] = z0)) (hz0 : z0.length ≤ 100000000) (hzl : ((dm probe).getD []).length ≤ 100000000) (hpw : (Lit.int .i32 probe).wf = true) (hb : Below B w0 w) (hBw : B ≤ w.heap.size) (hBF : ∀ k, k < B → ¬ F k) (k2 : w.cell? ⟨bst, 2, none⟩ = some (.slice a2 reads0.length c2)) (hs2 : Sl w a2 (flat reads0)) (hpre : reads0.length ≤ reads.length ∧ ∀ i, i < reads0.length → reads.getD i (0, 0) = reads0.getD i (0, 0)) (hfr : FirstR (out 3) items reads it t reads0.length ilr) (hpre2 : reads.length ≤ reads0.length + 1) (k1 : w.cell? ⟨bst, 1, none⟩ = some (.slice a1 items0.length c1)) (hs1 : Sl w a1 (flat items0)) (hgi : items.length = (growL items0 it).length ∧ ∀ i, i < items.length → (items.getD i (0, 0)).1 = ((growL items0 it).getD i (0, 0)).1 ∧ (i ≠ it → (items.getD i (0, 0)).2 = ((growL items0 it).getD i (0, 0)).2)) (hit0 : it ≤ items0.length) :
    Code.wp Try.prog (tl Try.f4 24) (QT Try.f4 B w0) ⟨#[u0, u1, .int .i32 t, .int .i32 it, .int .i32 src, .int .i32 probe, .pointer (some ⟨bst, 0, none⟩), u7, u8, u9, u10, u11, u12, .pointer (some ⟨cb, 0, none⟩), u14, u15, u16, .int .i32 ilr, u18, u19, .slice ia z0.length ic, .bool h0, u22, .bool ad1, .pointer (some ⟨bh, 0, none⟩), .pointer (some ⟨ba, 0, none⟩), u26, u27, u28, .int .i64 items.length, u30, u31, u32, u33, u34, u35, u36, u37, u38, u39, u40, u41, u42, u43, u44, u45, u46, u47, u48, u49, u50, u51, u52, u53, u54, u55, u56, u57, u58, u59, u60, u61, u62, u63, u64, u65, u66, u67, u68, u69, u70, u71, u72, u73, u74, u75, u76, u77, u78, u79, u80, u81, u82, u83, u84, u85, u86, u87, u88, u89, u90, u91, u92, u93, u94, u95, u96, u97, u98, u99, u100, u101, u102, u103, u104, u105, u106, u107, u108, u109, u110, u111, u112, u113, u114, u115, u116, u117, u118, u119, u120, u121, u122, u123, u124, u125, u126, u127, u128, u129, u130, u131, u132, u133, u134, u135, u136, u137, u138, u139, u140, u141, u142, u143, u144, u145, u146, u147, u148, u149, u150, u151, u152, u153, u154, u155, u156, u157, u158, u159, u160, u161, u162, u163, u164, u165, u166, u167, u168, u169, u170, u171, u172, u173, u174, u175, u176, u177, u178, u179, u180, u181, u182, u183, u184, u185, u186, u187, u188, u189, u190, u191, u192, u193, u194, u195, u196, u197, u198, u199, u200, u201, u202, u203, u204, u205, u206, u207, u208, u209, u210, u211, u212, u213, u214, u215, u216, u217, u218, u219, u220, u221, u222, u223, u224, u225, u226, u227, u228, u229, u230, u231, u232, u233, u234, u235, u236, u237, u238, u239, u240, u241, u242, u243, u244, u245, u246, u247, u248, u249, u250, u251, u252, u253, u254, u255, u256, u257, u258, u259, u260, u261, u262, u263, u264, u265, u266, u267, u268, u269, u270, u271, u272, u273, u274, u275, u276, u277, u278, u279, u280, u281, u282, u283, u284, u285, u286, u287, u288, u289, u290, u291, u292, u293, u294, u295, u296, u297, u298, u299, u300, u301, u302, u303, u304, u305, u306, u307, u308, u309, u310, u311, u312, u313, u314, u315, u316, u317, u318, u319, u320, u321, u322, u323, u324, u325, u326, u327, u328, u329, u330, u331, u332, u333, u334, u335, u336, u337, u338, u339, u340, u341, u342, u343, u344, u345, u346, u347, u348, u349, u350, u351, u352, u353, u354, u355, u356, u357, u358, u359, u360, u361, u362, u363, u364, u365, u366, u367, u368, u369, u370, u371, u372, u373, u374, u375, u376, u377, u378, u379, u380, u381, u382, u383, u384, u385, u386, u387, u388, u389, u390, u391, u392, u393, u394, u395, u396, u397, u398, u399, u400, u401, u402, u403, u404, u405, u406, u407, u408, u409, u410, u411, u412, u413, u414, u415, u416, u417, u418, u419, u420, u421, u422, u423, u424, u425, u426, u427, u428, u429, u430, u431, u432, u433, u434, u435, u436, u437, u438, u439, u440, u441, u442, u443, u444, u445, u446, u447, u448, u449, u450, u451, u452, u453, u454, u455, u456, u457, u458, u459, u460, u461, u462, u463, u464, u465, u466, u467, u468, u469, u470, u471, u472, u473, u474, u475, u476, u477, u478, u479, u480, u481, u482, u483, u484, u485, u486, u487, u488, u489, u490, u491, u492, u493, u494, u495, u496, u497, u498, u499, u500, u501, u502, u503, u504, u505, u506, u507, u508, u509, u510, u511, u512, u513, u514, u515, u516, u517, u518, u519, u520, u521, u522, u523, u524, u525, u526, u527, u528, u529, u530, u531, u532, u533, u534, u535, u536, u537, u538, u539, u540, u541, u542, u543, u544, u545, u546], []⟩ w := by
  obtain ⟨i0, hi0, hz0', hz1, hz2⟩ := info_parts Try.info21
  have HK1 : Hid _ := k1
  have HS1 : Hid _ := hs1
  have HGI : Hid _ := hgi
  have HP2 : Hid _ := hpre2
  clear k1 hs1 hgi hpre2
  have HV : Hid _ := h
  have HX : Hid _ := hba
  have HF : Hid _ := hF
  have HW : Hid _ := hW
  have HRR : Hid _ := hR
  have HSRC : Hid _ := hsrc
  have HAG : Hid (Again ends out items reads it t src) := hag
  have HAD : Hid (AdOK ad1 probe t (drt ends src t) (out 0)) := had
  have HI : Hid _ := hi
  have HJ : Hid _ := hj0
  have HB : Hid _ := hb
  have HBF : Hid _ := hBF
  have hli := h.li
  have hlr := h.lr
  have HS2 : Hid _ := hs2
  have HFR : Hid (FirstR (out 3) items reads it t reads0.length ilr) := hfr
  have HPRE : Hid _ := hpre
  have HK2 : Hid _ := k2
  have HBH : Hid _ := hbh
  clear hs2 hfr hpre k2 hbh
  clear h hba hF hW hR hsrc hag had hi hj0 hb hBF
  obtain ⟨W, hWW⟩ : ∃ W, W = w.heap.size := ⟨_, rfl⟩
  have HCON : Hid (∀ (wr : World), Below w.heap.size w wr → ∀ k, k < items.length → _) := fun wr hbr k hk => item_any (ClsV.grown HV.out hbr) k hk (by omega)
  rw [tl4_24]
  refine wp_seq_k (fun K hK => ?_)
  conv => arg 2; whnf
  go_wp2_with (at_make; go_must (refine wpList_make_full _ rfl _ _ 51 rfl W 21 i0 (.int .i32 0) 1 Try.underlying51 hi0 hz0' hz1 .i64 .i64 _ _ items.length rfl rfl rfl rfl (by rw [hz2]; omega) (by unfold maxLen; omega) (by omega) ?_; intro w1 hown1 hgrow1))
  have hb1 := below_of_grown hgrow1
  have hs1 := hb1.size
  have HO1 : Hid _ := hown1
  have HB1 : Hid _ := hb1
  clear hown1 hgrow1 hb1
  rw [tl4_25]
  refine wp_seq_k (fun K hK => ?_)
  conv => arg 2; whnf
  go_wp2_with (at_make; go_must (refine wpList_make_full _ rfl _ _ 51 rfl W 21 i0 (.int .i32 0) 1 Try.underlying51 hi0 hz0' hz1 .i64 .i64 _ _ items.length rfl rfl rfl rfl (by rw [hz2]; omega) (by unfold maxLen; omega) (by omega) ?_; intro w2 hown2 hgrow2))
  have hb2 := below_of_grown hgrow2
  have g12 : w.heap.size < w1.heap.size := (row_ge HO1.out).2
  have hownA := row_below HO1.out hb2
  have HO1' : Hid _ := hownA
  have HO2 : Hid _ := hown2
  have HB2 : Hid _ := HB1.out.trans (hb2.mono HB1.out.size)
  clear hown2 hgrow2 hb2 hownA HO1 HB1 hi0 hz0' hz1 hz2
  rw [tl4_26]
  refine wp_seq_k (fun K hK => ?_)
  conv => arg 2; whnf
  go_wp2_with fail
  go_loopw [33] (fun i wr => ∃ (k : Nat) (xs ys : List Value), k ≤ items.length ∧ i = .int .i64 k ∧ wr.ownsRow W 21 1 (.slice (some ⟨w.heap.size, 0, none⟩) items.length items.length) items.length xs ∧ wr.ownsRow W 21 1 (.slice (some ⟨w1.heap.size, 0, none⟩) items.length items.length) items.length ys ∧ (∀ j, j < k → xs[j]? = (ints (items.map Prod.fst))[j]?) ∧ (∀ j, j < k → ys[j]? = (ints (items.map Prod.snd))[j]?) ∧ Below w.heap.size w wr) (fun i _ => items.length - (intOf i).toNat)
  case atStart => exact ⟨0, _, _, Nat.zero_le _, rfl, HO1'.out, HO2.out, fun j hj => (by omega), fun j hj => (by omega), HB2.out⟩
  case round =>
    obtain ⟨k, xs, ys, hk, rfl, hx1, hy1, hxs, hys, hbr⟩ := hrel
    have HBR : Hid _ := hbr
    clear HO1' HO2 HB2
    by_cases hlt : k < items.length
    · have hlt' : (k : Int) < (items.length : Int) := by omega
      have hlt0 : (0 : Int) ≤ (k : Int) := by omega
      have hc := HCON.out wr hbr k hlt
      have hxl := hx1.1
      have hyl := hy1.1
      obtain ⟨m1, m2⟩ := map_at hlt
      have F1 := fill_at (xs := xs) (by omega) m1 hxs
      have F2 := fill_at (xs := ys) (by omega) m2 hys
      have HC : Hid _ := hc
      have HR1 : Hid _ := hx1
      have HR2 : Hid _ := hy1
      have HF1 : Hid _ := F1
      have HF2 : Hid _ := F2
      clear hc hx1 hy1 hxs hys F1 F2 m1 m2 hbr HCON HV HX HF HW HRR HSRC HAG HAD HI HJ HBF HS2 HFR HPRE HK2 HBH nba nbh vba HK1 HS1 HGI HP2
      generalize items.getD k (0, 0) = p at *
      obtain ⟨q1, q2⟩ := p
      go_wp2_with fail
      refine Calls.mono HC.out ?_
      rintro e w3 ⟨rfl, hb3⟩
      have r1 := row_below HR1.out hb3
      have r2 := row_below HR2.out hb3
      obtain ⟨y1, c1⟩ := row_one r1 hlt
      obtain ⟨y2, c2⟩ := row_one r2 hlt
      have z1 := r1.frozenAt k
      have z2 := r2.frozenAt k
      have hs := grown_setCell' (w := w3) w.heap.size k (.int .i32 q1)
      have s1 := (r1.stored k (.int .i32 q1)).1
      have s2 := row_kept r2 hs (fun g hg => by cases hg; simp; omega)
      have hs' := grown_setCell' (w := w3.setCell ⟨w.heap.size, k, none⟩ (.int .i32 q1)) w1.heap.size k (.int .i32 q2)
      have s3 := row_kept s1 hs' (fun g hg => by cases hg; simp; omega)
      have s4 := (s2.stored k (.int .i32 q2)).1
      have hbb : Below w.heap.size w ((w3.setCell ⟨w.heap.size, k, none⟩ (.int .i32 q1)).setCell ⟨w1.heap.size, k, none⟩ (.int .i32 q2)) := ((HBR.out.trans (hb3.mono HBR.out.size)).setCell (Nat.le_refl _) _).setCell (by show w.heap.size ≤ w1.heap.size; omega) _
      have G1 : Hid _ := s3
      have G2 : Hid _ := s4
      have G3 : Hid _ := hbb
      have n12 : w.heap.size ≠ w1.heap.size := by omega
      clear r1 r2 hs s1 s2 hs' s3 s4 hbb hb3 HR1 HR2 HC
      go_wp2_with fail
      go_roundw
      case rel => exact ⟨k + 1, _, _, by omega, by go_num, G1.out, G2.out, HF1.out, HF2.out, G3.out⟩
      case measure => simp [intOf]; omega
    · obtain rfl : k = items.length := by omega
      have hxl := hx1.1
      have hyl := hy1.1
      have e1 : xs = ints (items.map Prod.fst) := fill_eq (by simp [ints]; omega) (fun j hj => hxs j (by simpa [ints] using hj))
      have e2 : ys = ints (items.map Prod.snd) := fill_eq (by simp [ints]; omega) (fun j hj => hys j (by simpa [ints] using hj))
      rw [e1] at hx1
      rw [e2] at hy1
      have HSA : Hid _ := And.intro (sl_of_row hx1) (sl_of_row hy1)
      have lt1 := (row_ge hx1).2
      have lt2 := (row_ge hy1).2
      have HL1 : Hid _ := And.intro lt1 lt2
      clear hbr hx1 hy1 hxs hys e1 e2 hxl hyl HCON lt1 lt2
      go_wp2_with fail
      exact t27 _ _ _ _ _ _ _ _ _ _ _ _ _ _ _ _ _ _ _ _ _ _ _ _ _ _ _ _ _ _ _ _ _ _ _ _ _ _ _ _ _ _ _ _ _ _ _ _ _ _ _ _ _ _ _ _ _ _ _ _ _ _ _ _ _ _ _ _ _ _ _ _ _ _ _ _ _ _ _ _ _ _ _ _ _ _ _ _ _ _ _ _ _ _ _ _ _ _ _ _ _ _ _ _ _ _ _ _ _ _ _ _ _ _ _ _ _ _ _ _ _ _ _ _ _ _ _ _ _ _ _ _ _ _ _ _ _ _ _ _ _ _ _ _ _ _ _ _ _ _ _ _ _ _ _ _ _ _ _ _ _ _ _ _ _ _ _ _ _ _ _ _ _ _ _ _ _ _ _ _ _ _ _ _ _ _ _ _ _ _ _ _ _ _ _ _ _ _ _ _ _ _ _ _ _ _ _ _ _ _ _ _ _ _ _ _ _ _ _ _ _ _ _ _ _ _ _ _ _ _ _ _ _ _ _ _ _ _ _ _ _ _ _ _ _ _ _ _ _ _ _ _ _ _ _ _ _ _ _ _ _ _ _ _ _ _ _ _ _ _ _ _ _ _ _ _ _ _ _ _ _ _ _ _ _ _ _ _ _ _ _ _ _ _ _ _ _ _ _ _ _ _ _ _ _ _ _ _ _ _ _ _ _ _ _ _ _ _ _ _ _ _ _ _ _ _ _ _ _ _ _ _ _ _ _ _ _ _ _ _ _ _ _ _ _ _ _ _ _ _ _ _ _ _ _ _ _ _ _ _ _ _ _ _ _ _ _ _ _ _ _ _ _ _ _ _ _ _ _ _ _ _ _ _ _ _ _ _ _ _ _ _ _ _ _ _ _ _ _ _ _ _ _ _ _ _ _ _ _ _ _ _ _ _ _ _ _ _ _ _ _ _ _ _ _ _ _ _ _ _ _ _ _ _ _ _ _ _ _ _ _ _ _ _ _ _ _ _ _ _ _ _ _ _ _ _ _ _ _ _ _ _ _ _ _ _ _ _ _ _ _ _ _ _ _ _ _ _ _ _ _ _ _ _ _ _ _ _ _ _ _ _ _ _ _ _ _ _ _ _ _ _ _ _ _ _ _ _ _ _ _ _ _ _ _ _ _ _ _ _ _ _ _ _ _ _ _ _ _ _ _ _ _ _ _ _ _ _ _ _ _ _ _ _ _ _ _ _ _ _ _ _ _ _ _ _ _ _ _ _ _ _ _ _ _ _ _ _ _ _ _ _ _ _ _ _ _ (ClsV.fx HV.out HBR.out) (fun k hk => cell_later HBR.out (HX.out k hk)) HSA.out.1 HSA.out.2 (fun x hx => by cases hx; exact FX.mid (Nat.le_refl _) HL1.out.1) (fun x hx => by cases hx; exact FX.mid (Nat.le_of_lt g12) HL1.out.2) (FX.old nba (Nat.lt_of_lt_of_le vba (Below.size HBR.out))) (FX.old nbh (Nat.lt_of_lt_of_le (Array.getElem?_eq_some_iff.1 HBH.out).1 (Below.size HBR.out))) (fun x hx => by cases hx; exact HL1.out.1) (fun x hx => by cases hx; exact HL1.out.2) (Nat.lt_of_lt_of_le vba (Below.size HBR.out)) FX.new hl hE HW.out HRR.out ht HSRC.out HAG.out HAD.out (blk_kept (grown_of_below HBR.out) HBH.out (by simp)) (Sl.below HI.out HBR.out) HJ.out hz0 hzl hpw (HB.out.trans (Below.mono HBR.out hBw)) (Nat.le_trans hBw (Below.size HBR.out)) (fun k hk => FX.old (HBF.out k hk) (Nat.lt_of_lt_of_le hk (Nat.le_trans hBw (Below.size HBR.out)))) (cell_later HBR.out HK2.out) (Sl.below HS2.out HBR.out) HPRE.out HFR.out HP2.out (cell_later HBR.out HK1.out) (Sl.below HS1.out HBR.out) HGI.out hit0

end Go.Proofs.Qxb6625890a
