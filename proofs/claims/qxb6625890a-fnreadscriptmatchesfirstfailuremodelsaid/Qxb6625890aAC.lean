/-
  Seat b6625890a: the law FnReadTwiceRepeatsOnlyTheDirtyEntry, the classes left by the first read. Frames written by program.
-/
import Derived.Test.Qxb6625890aAB
import Derived.Test.Qxb6625890aAD
namespace Go.Proofs.Qxb6625890a
open Go.RowKit Go.Maps
set_option linter.unusedVariables false
attribute [local go_sem] neq35

theorem set_at {cur : Array Value} {k : Nat} {v : Value} {g : Nat → Value} (hs : cur.size = 4) (hk : k < 4) (hv : v = g k) (h : ∀ j, j < k → cur[j]? = some (g j)) : (cur.setIfInBounds k v).size = 4 ∧ ∀ j, j < k + 1 → (cur.setIfInBounds k v)[j]? = some (g j) := by
  refine ⟨by simpa using hs, fun j hj => ?_⟩
  rw [Array.getElem?_setIfInBounds]
  by_cases e : k = j
  · subst e; rw [if_pos rfl, if_pos (by omega), hv]
  · rw [if_neg e]; exact h j (by omega)

set_option maxRecDepth 100000 in
set_option maxHeartbeats 2000000 in
theorem t18 {w w0 : World} (F : Nat → Prop) (B cb tb db mi N lim : Nat) (vi vr vt : Value) (f : Int → Option Value) (ends : List Int) (out : Nat → Option OpC) (items reads : List (Int × Int)) (dm : Int → Option (List Int)) (src probe : Int) (ad1 : Bool) (t : Int) (it : Nat) (bh : Nat) (kd tx : Int) (ost : ByteArray) (so : Int) (hs : Bool) (ia : Option Addr) (ic : Nat) (z0 : List Int) (h0 : Bool) (bst : Nat) (ilr : Int) (a2 : Option Addr) (c2 : Nat) (reads0 : List (Int × Int)) (a1 : Option Addr) (c1 : Nat) (items0 : List (Int × Int)) (bop bf : Nat) (cf dr b0 b1 b2 b3 : Bool) (o0 : Nat → Option OpC) (u0 u1 u8 u9 u10 u11 u12 u15 u16 u22 u25 u26 u27 u28 u29 u30 u31 u32 u33 u34 u35 u36 u37 u38 u39 u40 u41 u42 u43 u44 u45 u46 u47 u48 u49 u50 u51 u52 u53 u54 u55 u56 u57 u58 u59 u60 u61 u62 u63 u64 u65 u66 u67 u68 u69 u70 u71 u72 u73 u74 u75 u76 u77 u78 u79 u80 u81 u82 u83 u84 u85 u86 u87 u88 u89 u90 u91 u92 u93 u94 u95 u96 u97 u98 u99 u100 u101 u102 u103 u104 u105 u106 u107 u108 u109 u110 u111 u112 u113 u114 u115 u116 u117 u118 u119 u120 u121 u122 u123 u124 u125 u126 u127 u128 u129 u130 u131 u132 u133 u134 u135 u136 u137 u138 u139 u140 u141 u142 u143 u144 u145 u146 u147 u148 u149 u150 u151 u152 u153 u154 u155 u156 u157 u158 u159 u160 u161 u162 u163 u164 u165 u166 u167 u168 u169 u170 u171 u172 u173 u174 u175 u176 u177 u178 u179 u180 u181 u182 u183 u184 u185 u186 u187 u188 u189 u190 u191 u192 u193 u194 u195 u196 u197 u198 u199 u200 u201 u202 u203 u204 u205 u206 u207 u208 u209 u210 u211 u212 u213 u214 u215 u216 u217 u218 u219 u220 u221 u222 u223 u224 u225 u226 u227 u228 u229 u230 u231 u232 u233 u234 u235 u236 u237 u238 u239 u240 u241 u242 u243 u244 u245 u246 u247 u248 u249 u250 u251 u252 u253 u254 u255 u256 u257 u258 u259 u260 u261 u262 u263 u264 u265 u266 u267 u268 u269 u270 u271 u272 u273 u274 u275 u276 u277 u278 u279 u280 u281 u282 u283 u284 u285 u286 u287 u288 u289 u290 u291 u292 u293 u294 u295 u296 u297 u298 u299 u300 u301 u302 u303 u304 u305 u306 u307 u308 u309 u310 u311 u312 u313 u314 u315 u316 u317 u318 u319 u320 u321 u322 u323 u324 u325 u326 u327 u328 u329 u330 u331 u332 u333 u334 u335 u336 u337 u338 u339 u340 u341 u342 u343 u344 u345 u346 u347 u348 u349 u350 u351 u352 u353 u354 u355 u356 u357 u358 u359 u360 u361 u362 u363 u364 u365 u366 u367 u368 u369 u370 u371 u372 u373 u374 u375 u376 u377 u378 u379 u380 u381 u382 u383 u384 u385 u386 u387 u388 u389 u390 u391 u392 u393 u394 u395 u396 u397 u398 u399 u400 u401 u402 u403 u404 u405 u406 u407 u408 u409 u410 u411 u412 u413 u414 u415 u416 u417 u418 u419 u420 u421 u422 u423 u424 u425 u426 u427 u428 u429 u430 u431 u432 u433 u434 u435 u436 u437 u438 u439 u440 u441 u442 u443 u444 u445 u446 u447 u448 u449 u450 u451 u452 u453 u454 u455 u456 u457 u458 u459 u460 u461 u462 u463 u464 u465 u466 u467 u468 u469 u470 u471 u472 u473 u474 u475 u476 u477 u478 u479 u480 u481 u482 u483 u484 u485 u486 u487 u488 u489 u490 u491 u492 u493 u494 u495 u496 u497 u498 u499 u500 u501 u502 u503 u504 u505 u506 u507 u508 u509 u510 u511 u512 u513 u514 u515 u516 u517 u518 u519 u520 u521 u522 u523 u524 u525 u526 u527 u528 u529 u530 u531 u532 u533 u534 u535 u536 u537 u538 u539 u540 u541 u542 u543 u544 u545 u546 : Value)
    (h : ClsV w F cb tb db mi N lim vi vr vt f ends out items reads dm)     (nbh : ¬ F bh)   (hF : ∀ k, w.heap.size ≤ k → F k) (hl : lim ≤ 6000000) (hE : ends.length ≤ 1048576) (hW : ∀ i, i < items.length → (items.getD i (0, 0)).1 < ends.length) (hR : ∀ i, i < items.length → (items.getD i (0, 0)).2 < reads.length) (ht : (Lit.int .i32 t).wf = true) (hsrc : 0 ≤ src → src ≠ t → src < ends.length) (hag : Again ends out items reads it t src) (had : AdOK ad1 probe t (drt ends src t) (out 0)) (hbh : w.heap[bh]? = some (.cells (opc kd tx ost so hs).toArray 45 (0, 0))) (hi : Sl w ia (ints z0)) (hj0 : (ad1 = true ∧ dm probe = some (z0 ++ [src])) ∨ (ad1 = false ∧ (dm probe).isSome = h0 ∧ (dm probe).getD [] = z0)) (hz0 : z0.length ≤ 100000000) (hzl : ((dm probe).getD []).length ≤ 100000000) (hpw : (Lit.int .i32 probe).wf = true) (hb : Below B w0 w) (hBw : B ≤ w.heap.size) (hBF : ∀ k, k < B → ¬ F k) (k2 : w.cell? ⟨bst, 2, none⟩ = some (.slice a2 reads0.length c2)) (hs2 : Sl w a2 (flat reads0)) (hpre : reads0.length ≤ reads.length ∧ ∀ i, i < reads0.length → reads.getD i (0, 0) = reads0.getD i (0, 0)) (hfr : FirstR (out 3) items reads it t reads0.length ilr) (hpre2 : reads.length ≤ reads0.length + 1) (k1 : w.cell? ⟨bst, 1, none⟩ = some (.slice a1 items0.length c1)) (hs1 : Sl w a1 (flat items0)) (hgi : items.length = (growL items0 it).length ∧ ∀ i, i < items.length → (items.getD i (0, 0)).1 = ((growL items0 it).getD i (0, 0)).1 ∧ (i ≠ it → (items.getD i (0, 0)).2 = ((growL items0 it).getD i (0, 0)).2)) (hit0 : it ≤ items0.length) (hbf : ∀ k, k < 4 → w.cell? ⟨bf, k, none⟩ = some (optr (o0 k))) (hbst : ∀ k, k < 4 → w.cell? ⟨bst, 3 + k, none⟩ = some (.bool (c4 b0 b1 b2 b3 k))) (hbop : w.heap[bop]? = some (.cells (opc kd tx ost so hs).toArray 39 (0, 0))) (hout : OutR b0 b1 b2 b3 cf dr (opc kd tx ost so hs) o0 out) :
    Code.wp Try.prog (tl Try.f4 18) (QT Try.f4 B w0) ⟨#[u0, u1, .int .i32 t, .int .i32 it, .int .i32 src, .int .i32 probe, .pointer (some ⟨bst, 0, none⟩), .pointer (some ⟨bop, 0, none⟩), u8, u9, u10, u11, u12, .pointer (some ⟨cb, 0, none⟩), .pointer (some ⟨bf, 0, none⟩), u15, u16, .int .i32 ilr, .bool cf, .bool dr, .slice ia z0.length ic, .bool h0, u22, .bool ad1, .pointer (some ⟨bh, 0, none⟩), u25, u26, u27, u28, u29, u30, u31, u32, u33, u34, u35, u36, u37, u38, u39, u40, u41, u42, u43, u44, u45, u46, u47, u48, u49, u50, u51, u52, u53, u54, u55, u56, u57, u58, u59, u60, u61, u62, u63, u64, u65, u66, u67, u68, u69, u70, u71, u72, u73, u74, u75, u76, u77, u78, u79, u80, u81, u82, u83, u84, u85, u86, u87, u88, u89, u90, u91, u92, u93, u94, u95, u96, u97, u98, u99, u100, u101, u102, u103, u104, u105, u106, u107, u108, u109, u110, u111, u112, u113, u114, u115, u116, u117, u118, u119, u120, u121, u122, u123, u124, u125, u126, u127, u128, u129, u130, u131, u132, u133, u134, u135, u136, u137, u138, u139, u140, u141, u142, u143, u144, u145, u146, u147, u148, u149, u150, u151, u152, u153, u154, u155, u156, u157, u158, u159, u160, u161, u162, u163, u164, u165, u166, u167, u168, u169, u170, u171, u172, u173, u174, u175, u176, u177, u178, u179, u180, u181, u182, u183, u184, u185, u186, u187, u188, u189, u190, u191, u192, u193, u194, u195, u196, u197, u198, u199, u200, u201, u202, u203, u204, u205, u206, u207, u208, u209, u210, u211, u212, u213, u214, u215, u216, u217, u218, u219, u220, u221, u222, u223, u224, u225, u226, u227, u228, u229, u230, u231, u232, u233, u234, u235, u236, u237, u238, u239, u240, u241, u242, u243, u244, u245, u246, u247, u248, u249, u250, u251, u252, u253, u254, u255, u256, u257, u258, u259, u260, u261, u262, u263, u264, u265, u266, u267, u268, u269, u270, u271, u272, u273, u274, u275, u276, u277, u278, u279, u280, u281, u282, u283, u284, u285, u286, u287, u288, u289, u290, u291, u292, u293, u294, u295, u296, u297, u298, u299, u300, u301, u302, u303, u304, u305, u306, u307, u308, u309, u310, u311, u312, u313, u314, u315, u316, u317, u318, u319, u320, u321, u322, u323, u324, u325, u326, u327, u328, u329, u330, u331, u332, u333, u334, u335, u336, u337, u338, u339, u340, u341, u342, u343, u344, u345, u346, u347, u348, u349, u350, u351, u352, u353, u354, u355, u356, u357, u358, u359, u360, u361, u362, u363, u364, u365, u366, u367, u368, u369, u370, u371, u372, u373, u374, u375, u376, u377, u378, u379, u380, u381, u382, u383, u384, u385, u386, u387, u388, u389, u390, u391, u392, u393, u394, u395, u396, u397, u398, u399, u400, u401, u402, u403, u404, u405, u406, u407, u408, u409, u410, u411, u412, u413, u414, u415, u416, u417, u418, u419, u420, u421, u422, u423, u424, u425, u426, u427, u428, u429, u430, u431, u432, u433, u434, u435, u436, u437, u438, u439, u440, u441, u442, u443, u444, u445, u446, u447, u448, u449, u450, u451, u452, u453, u454, u455, u456, u457, u458, u459, u460, u461, u462, u463, u464, u465, u466, u467, u468, u469, u470, u471, u472, u473, u474, u475, u476, u477, u478, u479, u480, u481, u482, u483, u484, u485, u486, u487, u488, u489, u490, u491, u492, u493, u494, u495, u496, u497, u498, u499, u500, u501, u502, u503, u504, u505, u506, u507, u508, u509, u510, u511, u512, u513, u514, u515, u516, u517, u518, u519, u520, u521, u522, u523, u524, u525, u526, u527, u528, u529, u530, u531, u532, u533, u534, u535, u536, u537, u538, u539, u540, u541, u542, u543, u544, u545, u546], []⟩ w := by
  have HK1 : Hid _ := k1
  have HS1 : Hid _ := hs1
  have HGI : Hid _ := hgi
  have HP2 : Hid _ := hpre2
  clear k1 hs1 hgi hpre2
  have HV : Hid _ := h
  have HF : Hid _ := hF
  have HW : Hid _ := hW
  have HRR : Hid _ := hR
  have HSRC : Hid _ := hsrc
  have HAG : Hid (Again ends out items reads it t src) := hag
  have HAD : Hid (AdOK ad1 probe t (drt ends src t) (out 0)) := had
  have HI : Hid _ := hi
  have HJ : Hid _ := hj0
  have HB : Hid _ := hb
  have HBF : Hid _ := hBF
  have hli := h.li
  have hlr := h.lr
  have HS2 : Hid _ := hs2
  have HFR : Hid (FirstR (out 3) items reads it t reads0.length ilr) := hfr
  have HPRE : Hid _ := hpre
  have HK2 : Hid _ := k2
  have HBH : Hid _ := hbh
  clear hs2 hfr hpre k2 hbh
  clear h hF hW hR hsrc hag had hi hj0 hb hBF
  have HBF0 : Hid _ := hbf
  have HBST : Hid _ := hbst
  have HBOP : Hid _ := hbop
  have HOUT : Hid (OutR b0 b1 b2 b3 cf dr (opc kd tx ost so hs) o0 out) := hout
  clear hbf hbst hbop hout
  rw [tl4_18]
  refine wp_seq_k (fun K hK => ?_)
  conv => arg 2; whnf
  go_wp2_with fail
  have hb1 : Below w.heap.size w (w.alloc (.cells #[.pointer none, .pointer none, .pointer none, .pointer none] 36)) := (Below.refl _ _).alloc (Nat.le_refl _) _
  have hn1 : (w.alloc (.cells #[.pointer none, .pointer none, .pointer none, .pointer none] 36)).heap[w.heap.size]? = some (.cells #[.pointer none, .pointer none, .pointer none, .pointer none] 36 (0, 0)) := heap_alloc_new w _
  have HB1 : Hid _ := hb1
  have HN1 : Hid _ := hn1
  clear hb1 hn1
  obtain ⟨w1, hw1⟩ : ∃ w1, w1 = w.alloc (.cells #[.pointer none, .pointer none, .pointer none, .pointer none] 36) := ⟨_, rfl⟩
  rw [← hw1] at HB1 HN1 ⊢
  clear hw1
  rw [tl4_19]
  refine wp_seq_k (fun K hK => ?_)
  conv => arg 2; whnf
  go_wp2_with fail
  go_loopw [26] (fun i wr => ∃ (k : Nat) (cur : Array Value), k ≤ 4 ∧ i = .int .i64 k ∧ wr.heap[w.heap.size]? = some (.cells cur 36 (0, 0)) ∧ cur.size = 4 ∧ (∀ j, j < k → cur[j]? = some (optr (out j))) ∧ Below w.heap.size w wr) (fun i _ => 4 - (intOf i).toNat)
  case atStart => exact ⟨0, _, by omega, rfl, HN1.out, rfl, fun j hj => (by omega), HB1.out⟩
  case round =>
    obtain ⟨k, cur, hk, rfl, hcur, hcs, hcj, hbr⟩ := hrel
    clear HB1 HN1
    have HBR : Hid _ := hbr
    by_cases hlt : k < 4
    · have hlt' : (k : Int) < 4 := by omega
      have hlt0 : (0 : Int) ≤ (k : Int) := by omega
      have hc := outOf_any (ClsV.grown HV.out hbr) k hlt
      obtain ⟨y0, d1⟩ : ∃ y, wr.cell? ⟨w.heap.size, k, none⟩ = some y := ⟨_, cell_blk hcur (Array.getElem?_eq_getElem (by omega))⟩
      have z1 := frozen_of_row wr w.heap.size k _ _ hcur
      obtain ⟨s1, s2⟩ := set_at (g := fun j => optr (out j)) (v := optr (out k)) hcs hlt rfl hcj
      have hcur2 := blk_set (i := k) (optr (out k)) hcur
      have hb2 : Below w.heap.size w (wr.setCell ⟨w.heap.size, k, none⟩ (optr (out k))) := hbr.setCell (Nat.le_refl _) _
      have a1 := cell_later hb2 (HBST.out k hlt)
      have a2 := cell_later hb2 (HBF0.out k hlt)
      have hop := blk_kept (grown_of_below hb2) HBOP.out (by simp)
      have p0 : (wr.setCell ⟨w.heap.size, k, none⟩ (optr (out k))).cell? ⟨bop, 0, none⟩ = some (.int .u8 kd) := cell_blk hop rfl
      have p1 : (wr.setCell ⟨w.heap.size, k, none⟩ (optr (out k))).cell? ⟨bop, 1, none⟩ = some (.int .i64 tx) := cell_blk hop rfl
      have p2 : (wr.setCell ⟨w.heap.size, k, none⟩ (optr (out k))).cell? ⟨bop, 2, none⟩ = some (.string ost) := cell_blk hop rfl
      have p3 : (wr.setCell ⟨w.heap.size, k, none⟩ (optr (out k))).cell? ⟨bop, 3, none⟩ = some (.int .i64 so) := cell_blk hop rfl
      have p4 : (wr.setCell ⟨w.heap.size, k, none⟩ (optr (out k))).cell? ⟨bop, 4, none⟩ = some (.bool hs) := cell_blk hop rfl
      have hops := (ClsV.grown HV.out hb2).ops k
      have HC : Hid _ := hc
      have HS12 : Hid _ := And.intro hcur2 (And.intro s1 s2)
      have HB2 : Hid _ := hb2
      have HOP : Hid _ := hops
      have HO := HOUT.out k hlt
      have HOO : Hid _ := HO
      generalize hck : c4 b0 b1 b2 b3 k = ck at *
      clear hc hcur hcs hcj hbr s1 s2 hcur2 hb2 hop hops HO
      generalize hok : out k = ok at *
      go_wp2_with fail
      refine Calls.mono HC.out ?_
      rintro e w3 ⟨rfl, hw3⟩
      have hw3 := hw3.symm
      subst hw3
      clear HC
      cases ok with
      | none =>
        clear HV HF HW HRR HSRC HAG HAD HI HJ HBF HS2 HFR HPRE HK2 HBH nbh HK1 HS1 HGI HP2 HBF0 HBST HBOP HOUT
        rw [optr_none] at *
        go_upto_region 36 with fail
        generalize hwx : wr.setCell ⟨w.heap.size, k, none⟩ (Value.pointer none) = wx at *
        cases ck with
        | true => exact absurd rfl (HOO.out.1 rfl).2
        | false =>
          have hwt : wantB cf dr k = false := by
            cases hw : wantB cf dr k with
            | false => rfl
            | true => obtain ⟨b, hb⟩ := (HOO.out.2 rfl).2 hw; cases hb
          have HWT : Hid _ := hwt
          clear hwt HOO HOP
          have hk4 : k = 0 ∨ k = 1 ∨ k = 2 ∨ k = 3 := by omega
          rcases hk4 with rfl | rfl | rfl | rfl
          · clear HWT
            go_wp2_with fail
            go_roundw
            case rel => exact ⟨1, _, by omega, by go_num, HS12.out.1, HS12.out.2.1, HS12.out.2.2, HB2.out⟩
            case measure => simp [intOf]
          · cases dr with
            | true => exact absurd HWT.out (by cases cf <;> decide)
            | false =>
              clear HWT
              go_wp2_with fail
              go_roundw
              case rel => exact ⟨2, _, by omega, by go_num, HS12.out.1, HS12.out.2.1, HS12.out.2.2, HB2.out⟩
              case measure => simp [intOf]
          · cases dr with
            | true => exact absurd HWT.out (by cases cf <;> decide)
            | false =>
              cases cf with
              | true => exact absurd HWT.out (by decide)
              | false =>
                clear HWT
                go_wp2_with fail
                go_roundw
                case rel => exact ⟨3, _, by omega, by go_num, HS12.out.1, HS12.out.2.1, HS12.out.2.2, HB2.out⟩
                case measure => simp [intOf]
          · cases dr with
            | true => exact absurd HWT.out (by cases cf <;> decide)
            | false =>
              cases cf with
              | true => exact absurd HWT.out (by decide)
              | false =>
                clear HWT
                go_wp2_with fail
                go_roundw
                case rel => exact ⟨4, _, by omega, by go_num, HS12.out.1, HS12.out.2.1, HS12.out.2.2, HB2.out⟩
                case measure => simp [intOf]
      | some y =>
        clear HV HF HW HRR HSRC HAG HAD HI HJ HBF HS2 HFR HPRE HK2 HBH nbh HK1 HS1 HGI HP2 HBF0 HBST HBOP HOUT
        rw [optr_some] at *
        go_upto_region 36 with fail
        generalize hwx : wr.setCell ⟨w.heap.size, k, none⟩ (Value.pointer (some ⟨y.1, 0, none⟩)) = wx at *
        cases ck with
        | true =>
          have e0 := (HOO.out.1 rfl).1
          rw [← e0, optr_some] at a2
          clear HOO HOP e0
          go_wp2_with fail
          go_roundw
          case rel => exact ⟨k + 1, _, by omega, by go_num, HS12.out.1, HS12.out.2.1, HS12.out.2.2, HB2.out⟩
          case measure => simp [intOf]; omega
        | false =>
          have hwt : wantB cf dr k = true := by
            cases hw : wantB cf dr k with
            | true => rfl
            | false => exact absurd ((HOO.out.2 rfl).1 hw) (by simp)
          obtain ⟨b, hb⟩ := (HOO.out.2 rfl).2 hwt
          cases hb
          have hg := HOP.out b _ rfl
          have q0 : wx.cell? ⟨b, 0, none⟩ = some (.int .u8 kd) := cell_blk hg rfl
          have q1 : wx.cell? ⟨b, 1, none⟩ = some (.int .i64 tx) := cell_blk hg rfl
          have q2 : wx.cell? ⟨b, 2, none⟩ = some (.string ost) := cell_blk hg rfl
          have q3 : wx.cell? ⟨b, 3, none⟩ = some (.int .i64 so) := cell_blk hg rfl
          have q4 : wx.cell? ⟨b, 4, none⟩ = some (.bool hs) := cell_blk hg rfl
          have HWT : Hid _ := hwt
          clear hwt HOO HOP hg
          have hk4 : k = 0 ∨ k = 1 ∨ k = 2 ∨ k = 3 := by omega
          rcases hk4 with rfl | rfl | rfl | rfl
          · exact absurd HWT.out (by cases cf <;> cases dr <;> decide)
          · cases dr with
            | false => exact absurd HWT.out (by cases cf <;> decide)
            | true =>
              clear HWT
              go_wp2_with fail
              refine wp_shade2 (fun KK hKK => ?_)
              have HKK : Hid _ := hKK
              clear hKK
              go_region_held3 (fun w' => w'.cell? ⟨b, 0, none⟩ = some (.int .u8 kd) ∧ w'.cell? ⟨b, 1, none⟩ = some (.int .i64 tx) ∧ w'.cell? ⟨b, 2, none⟩ = some (.string ost) ∧ w'.cell? ⟨b, 3, none⟩ = some (.int .i64 so) ∧ w'.cell? ⟨b, 4, none⟩ = some (.bool hs) ∧ w'.cell? ⟨bop, 0, none⟩ = some (.int .u8 kd) ∧ w'.cell? ⟨bop, 1, none⟩ = some (.int .i64 tx) ∧ w'.cell? ⟨bop, 2, none⟩ = some (.string ost) ∧ w'.cell? ⟨bop, 3, none⟩ = some (.int .i64 so) ∧ w'.cell? ⟨bop, 4, none⟩ = some (.bool hs))
                (first | go_keep | (exact ⟨cell_later hb3 q0, cell_later hb3 q1, cell_later hb3 q2, cell_later hb3 q3, cell_later hb3 q4, cell_later hb3 p0, cell_later hb3 p1, cell_later hb3 p2, cell_later hb3 p3, cell_later hb3 p4⟩))
                ((go_at_call 12; refine Calls.mono (sameOp_any kd tx ost so hs _) ?_; rintro e w3 ⟨rfl, hb3⟩))
              refine HKK.out _ _ ?_
              clear HKK KK
              have HB3 : Hid _ := hb3
              clear hb3 p0 p1 p2 p3 p4 q0 q1 q2 q3 q4
              go_wp2_with fail
              go_roundw
              case rel => exact ⟨1 + 1, _, by omega, by go_num, blk_kept (grown_of_below HB3.out) HS12.out.1 (by simp), HS12.out.2.1, HS12.out.2.2, (Below.drew HB2.out).trans (HB3.out.mono (Below.size (Below.drew HB2.out)))⟩
              case measure => simp [intOf]
          · cases dr with
            | true =>
              clear HWT
              go_wp2_with fail
              refine wp_shade2 (fun KK hKK => ?_)
              have HKK : Hid _ := hKK
              clear hKK
              go_region_held3 (fun w' => w'.cell? ⟨b, 0, none⟩ = some (.int .u8 kd) ∧ w'.cell? ⟨b, 1, none⟩ = some (.int .i64 tx) ∧ w'.cell? ⟨b, 2, none⟩ = some (.string ost) ∧ w'.cell? ⟨b, 3, none⟩ = some (.int .i64 so) ∧ w'.cell? ⟨b, 4, none⟩ = some (.bool hs) ∧ w'.cell? ⟨bop, 0, none⟩ = some (.int .u8 kd) ∧ w'.cell? ⟨bop, 1, none⟩ = some (.int .i64 tx) ∧ w'.cell? ⟨bop, 2, none⟩ = some (.string ost) ∧ w'.cell? ⟨bop, 3, none⟩ = some (.int .i64 so) ∧ w'.cell? ⟨bop, 4, none⟩ = some (.bool hs))
                (first | go_keep | (exact ⟨cell_later hb3 q0, cell_later hb3 q1, cell_later hb3 q2, cell_later hb3 q3, cell_later hb3 q4, cell_later hb3 p0, cell_later hb3 p1, cell_later hb3 p2, cell_later hb3 p3, cell_later hb3 p4⟩))
                ((go_at_call 12; refine Calls.mono (sameOp_any kd tx ost so hs _) ?_; rintro e w3 ⟨rfl, hb3⟩))
              refine HKK.out _ _ ?_
              clear HKK KK
              have HB3 : Hid _ := hb3
              clear hb3 p0 p1 p2 p3 p4 q0 q1 q2 q3 q4
              go_wp2_with fail
              go_roundw
              case rel => exact ⟨2 + 1, _, by omega, by go_num, blk_kept (grown_of_below HB3.out) HS12.out.1 (by simp), HS12.out.2.1, HS12.out.2.2, (Below.drew HB2.out).trans (HB3.out.mono (Below.size (Below.drew HB2.out)))⟩
              case measure => simp [intOf]
            | false =>
              cases cf with
              | false => exact absurd HWT.out (by decide)
              | true =>
                clear HWT
                go_wp2_with fail
                refine wp_shade2 (fun KK hKK => ?_)
                have HKK : Hid _ := hKK
                clear hKK
                go_region_held3 (fun w' => w'.cell? ⟨b, 0, none⟩ = some (.int .u8 kd) ∧ w'.cell? ⟨b, 1, none⟩ = some (.int .i64 tx) ∧ w'.cell? ⟨b, 2, none⟩ = some (.string ost) ∧ w'.cell? ⟨b, 3, none⟩ = some (.int .i64 so) ∧ w'.cell? ⟨b, 4, none⟩ = some (.bool hs) ∧ w'.cell? ⟨bop, 0, none⟩ = some (.int .u8 kd) ∧ w'.cell? ⟨bop, 1, none⟩ = some (.int .i64 tx) ∧ w'.cell? ⟨bop, 2, none⟩ = some (.string ost) ∧ w'.cell? ⟨bop, 3, none⟩ = some (.int .i64 so) ∧ w'.cell? ⟨bop, 4, none⟩ = some (.bool hs))
                  (first | go_keep | (exact ⟨cell_later hb3 q0, cell_later hb3 q1, cell_later hb3 q2, cell_later hb3 q3, cell_later hb3 q4, cell_later hb3 p0, cell_later hb3 p1, cell_later hb3 p2, cell_later hb3 p3, cell_later hb3 p4⟩))
                  ((go_at_call 12; refine Calls.mono (sameOp_any kd tx ost so hs _) ?_; rintro e w3 ⟨rfl, hb3⟩))
                refine HKK.out _ _ ?_
                clear HKK KK
                have HB3 : Hid _ := hb3
                clear hb3 p0 p1 p2 p3 p4 q0 q1 q2 q3 q4
                go_wp2_with fail
                go_roundw
                case rel => exact ⟨2 + 1, _, by omega, by go_num, blk_kept (grown_of_below HB3.out) HS12.out.1 (by simp), HS12.out.2.1, HS12.out.2.2, (Below.drew HB2.out).trans (HB3.out.mono (Below.size (Below.drew HB2.out)))⟩
                case measure => simp [intOf]
          · cases dr with
            | true =>
              clear HWT
              go_wp2_with fail
              refine wp_shade2 (fun KK hKK => ?_)
              have HKK : Hid _ := hKK
              clear hKK
              go_region_held3 (fun w' => w'.cell? ⟨b, 0, none⟩ = some (.int .u8 kd) ∧ w'.cell? ⟨b, 1, none⟩ = some (.int .i64 tx) ∧ w'.cell? ⟨b, 2, none⟩ = some (.string ost) ∧ w'.cell? ⟨b, 3, none⟩ = some (.int .i64 so) ∧ w'.cell? ⟨b, 4, none⟩ = some (.bool hs) ∧ w'.cell? ⟨bop, 0, none⟩ = some (.int .u8 kd) ∧ w'.cell? ⟨bop, 1, none⟩ = some (.int .i64 tx) ∧ w'.cell? ⟨bop, 2, none⟩ = some (.string ost) ∧ w'.cell? ⟨bop, 3, none⟩ = some (.int .i64 so) ∧ w'.cell? ⟨bop, 4, none⟩ = some (.bool hs))
                (first | go_keep | (exact ⟨cell_later hb3 q0, cell_later hb3 q1, cell_later hb3 q2, cell_later hb3 q3, cell_later hb3 q4, cell_later hb3 p0, cell_later hb3 p1, cell_later hb3 p2, cell_later hb3 p3, cell_later hb3 p4⟩))
                ((go_at_call 12; refine Calls.mono (sameOp_any kd tx ost so hs _) ?_; rintro e w3 ⟨rfl, hb3⟩))
              refine HKK.out _ _ ?_
              clear HKK KK
              have HB3 : Hid _ := hb3
              clear hb3 p0 p1 p2 p3 p4 q0 q1 q2 q3 q4
              go_wp2_with fail
              go_roundw
              case rel => exact ⟨3 + 1, _, by omega, by go_num, blk_kept (grown_of_below HB3.out) HS12.out.1 (by simp), HS12.out.2.1, HS12.out.2.2, (Below.drew HB2.out).trans (HB3.out.mono (Below.size (Below.drew HB2.out)))⟩
              case measure => simp [intOf]
            | false =>
              cases cf with
              | false => exact absurd HWT.out (by decide)
              | true =>
                clear HWT
                go_wp2_with fail
                refine wp_shade2 (fun KK hKK => ?_)
                have HKK : Hid _ := hKK
                clear hKK
                go_region_held3 (fun w' => w'.cell? ⟨b, 0, none⟩ = some (.int .u8 kd) ∧ w'.cell? ⟨b, 1, none⟩ = some (.int .i64 tx) ∧ w'.cell? ⟨b, 2, none⟩ = some (.string ost) ∧ w'.cell? ⟨b, 3, none⟩ = some (.int .i64 so) ∧ w'.cell? ⟨b, 4, none⟩ = some (.bool hs) ∧ w'.cell? ⟨bop, 0, none⟩ = some (.int .u8 kd) ∧ w'.cell? ⟨bop, 1, none⟩ = some (.int .i64 tx) ∧ w'.cell? ⟨bop, 2, none⟩ = some (.string ost) ∧ w'.cell? ⟨bop, 3, none⟩ = some (.int .i64 so) ∧ w'.cell? ⟨bop, 4, none⟩ = some (.bool hs))
                  (first | go_keep | (exact ⟨cell_later hb3 q0, cell_later hb3 q1, cell_later hb3 q2, cell_later hb3 q3, cell_later hb3 q4, cell_later hb3 p0, cell_later hb3 p1, cell_later hb3 p2, cell_later hb3 p3, cell_later hb3 p4⟩))
                  ((go_at_call 12; refine Calls.mono (sameOp_any kd tx ost so hs _) ?_; rintro e w3 ⟨rfl, hb3⟩))
                refine HKK.out _ _ ?_
                clear HKK KK
                have HB3 : Hid _ := hb3
                clear hb3 p0 p1 p2 p3 p4 q0 q1 q2 q3 q4
                go_wp2_with fail
                go_roundw
                case rel => exact ⟨3 + 1, _, by omega, by go_num, blk_kept (grown_of_below HB3.out) HS12.out.1 (by simp), HS12.out.2.1, HS12.out.2.2, (Below.drew HB2.out).trans (HB3.out.mono (Below.size (Below.drew HB2.out)))⟩
                case measure => simp [intOf]
    · obtain rfl : k = 4 := by omega
      have HBA : Hid (∀ k, k < 4 → wr.cell? ⟨w.heap.size, k, none⟩ = some (optr (out k))) := fun j hj => cell_blk hcur (hcj j hj)
      have HLB : Hid (w.heap.size < wr.heap.size) := (Array.getElem?_eq_some_iff.1 hcur).1
      clear hcur hcs hcj hbr HBF0 HBST HBOP HOUT
      go_wp2_with fail
      exact t20 _ _ _ _ _ _ _ _ _ _ _ _ _ _ _ _ _ _ _ _ _ _ _ _ _ _ _ _ _ _ _ _ _ _ _ _ _ _ _ _ _ _ _ _ _ _ _ _ _ _ _ _ _ _ _ _ _ _ _ _ _ _ _ _ _ _ _ _ _ _ _ _ _ _ _ _ _ _ _ _ _ _ _ _ _ _ _ _ _ _ _ _ _ _ _ _ _ _ _ _ _ _ _ _ _ _ _ _ _ _ _ _ _ _ _ _ _ _ _ _ _ _ _ _ _ _ _ _ _ _ _ _ _ _ _ _ _ _ _ _ _ _ _ _ _ _ _ _ _ _ _ _ _ _ _ _ _ _ _ _ _ _ _ _ _ _ _ _ _ _ _ _ _ _ _ _ _ _ _ _ _ _ _ _ _ _ _ _ _ _ _ _ _ _ _ _ _ _ _ _ _ _ _ _ _ _ _ _ _ _ _ _ _ _ _ _ _ _ _ _ _ _ _ _ _ _ _ _ _ _ _ _ _ _ _ _ _ _ _ _ _ _ _ _ _ _ _ _ _ _ _ _ _ _ _ _ _ _ _ _ _ _ _ _ _ _ _ _ _ _ _ _ _ _ _ _ _ _ _ _ _ _ _ _ _ _ _ _ _ _ _ _ _ _ _ _ _ _ _ _ _ _ _ _ _ _ _ _ _ _ _ _ _ _ _ _ _ _ _ _ _ _ _ _ _ _ _ _ _ _ _ _ _ _ _ _ _ _ _ _ _ _ _ _ _ _ _ _ _ _ _ _ _ _ _ _ _ _ _ _ _ _ _ _ _ _ _ _ _ _ _ _ _ _ _ _ _ _ _ _ _ _ _ _ _ _ _ _ _ _ _ _ _ _ _ _ _ _ _ _ _ _ _ _ _ _ _ _ _ _ _ _ _ _ _ _ _ _ _ _ _ _ _ _ _ _ _ _ _ _ _ _ _ _ _ _ _ _ _ _ _ _ _ _ _ _ _ _ _ _ _ _ _ _ _ _ _ _ _ _ _ _ _ _ _ _ _ _ _ _ _ _ _ _ _ _ _ _ _ _ _ _ _ _ _ _ _ _ _ _ _ _ _ _ _ _ _ _ _ _ _ _ _ _ _ _ _ _ _ _ _ _ _ _ _ _ _ _ _ _ _ _ _ _ _ _ _ _ _ _ _ _ _ _ _ _ _ _ _ _ _ _ _ _ _ _ _ _ _ _ _ _ _ _ _ _ _ _ _ _ _ _ _ _ _ _ _ _ _ _ _ _ _ _ _ _ (ClsV.fx HV.out HBR.out) HBA.out (FX.mid (Nat.le_refl _) HLB.out) (FX.old nbh (Nat.lt_of_lt_of_le (Array.getElem?_eq_some_iff.1 HBH.out).1 (Below.size HBR.out))) HLB.out FX.new hl hE HW.out HRR.out ht HSRC.out HAG.out HAD.out (blk_kept (grown_of_below HBR.out) HBH.out (by simp)) (Sl.below HI.out HBR.out) HJ.out hz0 hzl hpw (HB.out.trans (Below.mono HBR.out hBw)) (Nat.le_trans hBw (Below.size HBR.out)) (fun k hk => FX.old (HBF.out k hk) (Nat.lt_of_lt_of_le hk (Nat.le_trans hBw (Below.size HBR.out)))) (cell_later HBR.out HK2.out) (Sl.below HS2.out HBR.out) HPRE.out HFR.out HP2.out (cell_later HBR.out HK1.out) (Sl.below HS1.out HBR.out) HGI.out hit0

end Go.Proofs.Qxb6625890a
