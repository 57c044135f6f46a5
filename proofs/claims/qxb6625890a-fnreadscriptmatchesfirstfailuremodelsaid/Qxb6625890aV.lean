/-
  Seat b6625890a: the law FnReadTwiceRepeatsOnlyTheDirtyEntry, what the first read left. Frames written by program.
-/
import Derived.Test.Qxb6625890aU
namespace Go.Proofs.Qxb6625890a
open Go.RowKit Go.Maps
set_option linter.unusedVariables false

/-- What the law asks of the newest read behind the first read. -/
def FirstR (o3 : Option OpC) (items reads : List (Int × Int)) (it : Nat) (t : Int) (nr0 : Nat) (ilr : Int) : Prop :=
  (o3 = none ∧ ∃ r : Nat, (items.getD it (0, 0)).2 = r ∧ r < reads.length ∧ (reads.getD r (0, 0)).1 = t ∧ ((reads.length = nr0 + 1 ∧ (reads.getD nr0 (0, 0)).2 = ilr ∧ r = nr0) ∨ (reads.length = nr0 ∧ ilr = r))) ∨
  (o3 ≠ none ∧ reads.length = nr0 ∧ (items.getD it (0, 0)).2 = ilr)
theorem tl4_28 : tl Try.f4 28 = Code.seq (st Try.f4 28) (tl Try.f4 29) := by kernel_rfl
theorem tl4_29 : tl Try.f4 29 = Code.seq (st Try.f4 29) (tl Try.f4 30) := by kernel_rfl
theorem tl4_30 : tl Try.f4 30 = Code.seq (st Try.f4 30) (tl Try.f4 31) := by kernel_rfl
theorem tl4_31 : tl Try.f4 31 = Code.seq (st Try.f4 31) (tl Try.f4 32) := by kernel_rfl
theorem tl4_32 : tl Try.f4 32 = Code.seq (st Try.f4 32) (tl Try.f4 33) := by kernel_rfl
theorem tl4_33 : tl Try.f4 33 = Code.seq (st Try.f4 33) (tl Try.f4 34) := by kernel_rfl
theorem tl4_34 : tl Try.f4 34 = Code.seq (st Try.f4 34) (tl Try.f4 35) := by kernel_rfl

set_option maxRecDepth 100000 in
set_option maxHeartbeats 2000000 in
theorem t34 {w w0 : World} (F : Nat → Prop) (B cb tb db mi N lim : Nat) (vi vr vt : Value) (f : Int → Option Value) (ends : List Int) (out : Nat → Option OpC) (items reads : List (Int × Int)) (dm : Int → Option (List Int)) (src probe : Int) (ad1 : Bool) (ta : Option Addr) (tc : Nat) (pa : Option Addr) (pc : Nat) (wa : Option Addr) (wc : Nat) (la : Option Addr) (lc : Nat) (ba : Nat) (t : Int) (it : Nat) (bh : Nat) (kd tx : Int) (ost : ByteArray) (so : Int) (hs : Bool) (ia : Option Addr) (ic : Nat) (z0 : List Int) (h0 : Bool) (bst : Nat) (ilr : Int) (a2 : Option Addr) (nr0 c2 : Nat) (u0 u1 u7 u8 u9 u10 u11 u12 u14 u15 u16 u18 u19 u22 u26 u27 u28 u30 u33 u34 u35 u36 u37 u38 u42 u43 u44 u45 u46 u47 u48 u49 u50 u51 u52 u53 u54 u55 u56 u57 u58 u59 u60 u61 u62 u63 u64 u65 u66 u67 u68 u69 u70 u71 u72 u73 u74 u75 u76 u77 u78 u79 u80 u81 u82 u83 u84 u85 u86 u87 u88 u89 u90 u91 u92 u93 u94 u95 u96 u97 u98 u99 u100 u101 u102 u103 u104 u105 u106 u107 u108 u109 u110 u111 u112 u113 u114 u115 u116 u117 u118 u119 u120 u121 u122 u123 u124 u125 u126 u127 u128 u129 u130 u131 u132 u133 u134 u135 u136 u137 u138 u139 u140 u141 u142 u143 u144 u145 u146 u147 u148 u149 u150 u151 u152 u153 u154 u155 u156 u157 u158 u159 u160 u161 u162 u163 u164 u165 u166 u167 u168 u169 u170 u171 u172 u173 u174 u175 u176 u177 u178 u179 u180 u181 u182 u183 u184 u185 u186 u187 u188 u189 u190 u191 u192 u193 u194 u195 u196 u197 u198 u199 u200 u201 u202 u203 u204 u205 u206 u207 u208 u209 u210 u211 u212 u213 u214 u215 u216 u217 u218 u219 u220 u221 u222 u223 u224 u225 u226 u227 u228 u229 u230 u231 u232 u233 u234 u235 u236 u237 u238 u239 u240 u241 u242 u243 u244 u245 u246 u247 u248 u249 u250 u251 u252 u253 u254 u255 u256 u257 u258 u259 u260 u261 u262 u263 u264 u265 u266 u267 u268 u269 u270 u271 u272 u273 u274 u275 u276 u277 u278 u279 u280 u281 u282 u283 u284 u285 u286 u287 u288 u289 u290 u291 u292 u293 u294 u295 u296 u297 u298 u299 u300 u301 u302 u303 u304 u305 u306 u307 u308 u309 u310 u311 u312 u313 u314 u315 u316 u317 u318 u319 u320 u321 u322 u323 u324 u325 u326 u327 u328 u329 u330 u331 u332 u333 u334 u335 u336 u337 u338 u339 u340 u341 u342 u343 u344 u345 u346 u347 u348 u349 u350 u351 u352 u353 u354 u355 u356 u357 u358 u359 u360 u361 u362 u363 u364 u365 u366 u367 u368 u369 u370 u371 u372 u373 u374 u375 u376 u377 u378 u379 u380 u381 u382 u383 u384 u385 u386 u387 u388 u389 u390 u391 u392 u393 u394 u395 u396 u397 u398 u399 u400 u401 u402 u403 u404 u405 u406 u407 u408 u409 u410 u411 u412 u413 u414 u415 u416 u417 u418 u419 u420 u421 u422 u423 u424 u425 u426 u427 u428 u429 u430 u431 u432 u433 u434 u435 u436 u437 u438 u439 u440 u441 u442 u443 u444 u445 u446 u447 u448 u449 u450 u451 u452 u453 u454 u455 u456 u457 u458 u459 u460 u461 u462 u463 u464 u465 u466 u467 u468 u469 u470 u471 u472 u473 u474 u475 u476 u477 u478 u479 u480 u481 u482 u483 u484 u485 u486 u487 u488 u489 u490 u491 u492 u493 u494 u495 u496 u497 u498 u499 u500 u501 u502 u503 u504 u505 u506 u507 u508 u509 u510 u511 u512 u513 u514 u515 u516 u517 u518 u519 u520 u521 u522 u523 u524 u525 u526 u527 u528 u529 u530 u531 u532 u533 u534 u535 u536 u537 u538 u539 u540 u541 u542 u543 u544 u545 u546 : Value)
    (h : ClsV w F cb tb db mi N lim vi vr vt f ends out items reads dm) (hba : ∀ k, k < 4 → w.cell? ⟨ba, k, none⟩ = some (optr (out k))) (hwa : Sl w wa (ints (items.map Prod.fst))) (hla : Sl w la (ints (items.map Prod.snd))) (hx : Sl w ta (ints (reads.map Prod.fst)) ∧ Sl w pa (ints (reads.map Prod.snd))) (nw : ∀ x, wa = some x → ¬ F x.block) (nl : ∀ x, la = some x → ¬ F x.block) (nt : ∀ x, ta = some x → ¬ F x.block) (np : ∀ x, pa = some x → ¬ F x.block) (nba : ¬ F ba) (nbh : ¬ F bh) (vw : ∀ x, wa = some x → x.block < w.heap.size) (vl : ∀ x, la = some x → x.block < w.heap.size) (vt' : ∀ x, ta = some x → x.block < w.heap.size) (vp : ∀ x, pa = some x → x.block < w.heap.size) (vba : ba < w.heap.size) (hF : ∀ k, w.heap.size ≤ k → F k) (hl : lim ≤ 6000000) (hE : ends.length ≤ 1048576) (hW : ∀ i, i < items.length → (items.getD i (0, 0)).1 < ends.length) (hR : ∀ i, i < items.length → (items.getD i (0, 0)).2 < reads.length) (ht : (Lit.int .i32 t).wf = true) (hsrc : 0 ≤ src → src ≠ t → src < ends.length) (hag : Again ends out items reads it t src) (had : AdOK ad1 probe t (drt ends src t) (out 0)) (hbh : w.heap[bh]? = some (.cells (opc kd tx ost so hs).toArray 45 (0, 0))) (hi : Sl w ia (ints z0)) (hj0 : (ad1 = true ∧ dm probe = some (z0 ++ [src])) ∨ (ad1 = false ∧ (dm probe).isSome = h0 ∧ (dm probe).getD [] = z0)) (hz0 : z0.length ≤ 100000000) (hzl : ((dm probe).getD []).length ≤ 100000000) (hpw : (Lit.int .i32 probe).wf = true) (hb : Below B w0 w) (hBw : B ≤ w.heap.size) (hBF : ∀ k, k < B → ¬ F k) (k2 : w.cell? ⟨bst, 2, none⟩ = some (.slice a2 nr0 c2)) (hfr : FirstR (out 3) items reads it t nr0 ilr) :
    Code.wp Try.prog (tl Try.f4 34) (QT Try.f4 B w0) ⟨#[u0, u1, .int .i32 t, .int .i32 it, .int .i32 src, .int .i32 probe, .pointer (some ⟨bst, 0, none⟩), u7, u8, u9, u10, u11, u12, .pointer (some ⟨cb, 0, none⟩), u14, u15, u16, .int .i32 ilr, u18, u19, .slice ia z0.length ic, .bool h0, u22, .bool ad1, .pointer (some ⟨bh, 0, none⟩), .pointer (some ⟨ba, 0, none⟩), u26, u27, u28, .int .i64 items.length, u30, .slice wa items.length wc, .slice la items.length lc, u33, u34, u35, u36, u37, u38, .int .i64 reads.length, .slice ta reads.length tc, .slice pa reads.length pc, u42, u43, u44, u45, u46, u47, u48, u49, u50, u51, u52, u53, u54, u55, u56, u57, u58, u59, u60, u61, u62, u63, u64, u65, u66, u67, u68, u69, u70, u71, u72, u73, u74, u75, u76, u77, u78, u79, u80, u81, u82, u83, u84, u85, u86, u87, u88, u89, u90, u91, u92, u93, u94, u95, u96, u97, u98, u99, u100, u101, u102, u103, u104, u105, u106, u107, u108, u109, u110, u111, u112, u113, u114, u115, u116, u117, u118, u119, u120, u121, u122, u123, u124, u125, u126, u127, u128, u129, u130, u131, u132, u133, u134, u135, u136, u137, u138, u139, u140, u141, u142, u143, u144, u145, u146, u147, u148, u149, u150, u151, u152, u153, u154, u155, u156, u157, u158, u159, u160, u161, u162, u163, u164, u165, u166, u167, u168, u169, u170, u171, u172, u173, u174, u175, u176, u177, u178, u179, u180, u181, u182, u183, u184, u185, u186, u187, u188, u189, u190, u191, u192, u193, u194, u195, u196, u197, u198, u199, u200, u201, u202, u203, u204, u205, u206, u207, u208, u209, u210, u211, u212, u213, u214, u215, u216, u217, u218, u219, u220, u221, u222, u223, u224, u225, u226, u227, u228, u229, u230, u231, u232, u233, u234, u235, u236, u237, u238, u239, u240, u241, u242, u243, u244, u245, u246, u247, u248, u249, u250, u251, u252, u253, u254, u255, u256, u257, u258, u259, u260, u261, u262, u263, u264, u265, u266, u267, u268, u269, u270, u271, u272, u273, u274, u275, u276, u277, u278, u279, u280, u281, u282, u283, u284, u285, u286, u287, u288, u289, u290, u291, u292, u293, u294, u295, u296, u297, u298, u299, u300, u301, u302, u303, u304, u305, u306, u307, u308, u309, u310, u311, u312, u313, u314, u315, u316, u317, u318, u319, u320, u321, u322, u323, u324, u325, u326, u327, u328, u329, u330, u331, u332, u333, u334, u335, u336, u337, u338, u339, u340, u341, u342, u343, u344, u345, u346, u347, u348, u349, u350, u351, u352, u353, u354, u355, u356, u357, u358, u359, u360, u361, u362, u363, u364, u365, u366, u367, u368, u369, u370, u371, u372, u373, u374, u375, u376, u377, u378, u379, u380, u381, u382, u383, u384, u385, u386, u387, u388, u389, u390, u391, u392, u393, u394, u395, u396, u397, u398, u399, u400, u401, u402, u403, u404, u405, u406, u407, u408, u409, u410, u411, u412, u413, u414, u415, u416, u417, u418, u419, u420, u421, u422, u423, u424, u425, u426, u427, u428, u429, u430, u431, u432, u433, u434, u435, u436, u437, u438, u439, u440, u441, u442, u443, u444, u445, u446, u447, u448, u449, u450, u451, u452, u453, u454, u455, u456, u457, u458, u459, u460, u461, u462, u463, u464, u465, u466, u467, u468, u469, u470, u471, u472, u473, u474, u475, u476, u477, u478, u479, u480, u481, u482, u483, u484, u485, u486, u487, u488, u489, u490, u491, u492, u493, u494, u495, u496, u497, u498, u499, u500, u501, u502, u503, u504, u505, u506, u507, u508, u509, u510, u511, u512, u513, u514, u515, u516, u517, u518, u519, u520, u521, u522, u523, u524, u525, u526, u527, u528, u529, u530, u531, u532, u533, u534, u535, u536, u537, u538, u539, u540, u541, u542, u543, u544, u545, u546], []⟩ w := by
  have hitl := hag.lt
  have hitl' : (it : Int) < (items.length : Int) := by omega
  have hit0 : (0 : Int) ≤ (it : Int) := by omega
  have hb3 := hba 3 (by omega)
  obtain ⟨_, ⟨xl, ol, el, al⟩⟩ := pair_cell hwa hla hitl
  subst el
  have HV : Hid _ := h
  have HX : Hid _ := And.intro hba (And.intro hwa (And.intro hla hx))
  have HF : Hid _ := hF
  have HW : Hid _ := hW
  have HRR : Hid _ := hR
  have HSRC : Hid _ := hsrc
  have HAG : Hid (Again ends out items reads it t src) := hag
  have HAD : Hid (AdOK ad1 probe t (drt ends src t) (out 0)) := had
  have HI : Hid _ := hi
  have HJ : Hid _ := hj0
  have HB : Hid _ := hb
  have HBF : Hid _ := hBF
  have hli := h.li
  have hlr := h.lr
  clear h hba hwa hla hx hF hW hR hsrc hag had hi hj0 hb hBF
  rcases hfr with ⟨ho, r, hr, hrl, hrt, hcase⟩ | ⟨ho, hlen, hr⟩
  · rw [ho, optr_none] at hb3
    rw [hr] at al
    have hrl' : (r : Int) < (reads.length : Int) := by omega
    have hr0 : (0 : Int) ≤ (r : Int) := by omega
    obtain ⟨⟨xt, ot, et, at1⟩, _⟩ := pair_cell HX.out.2.2.2.1 HX.out.2.2.2.2 hrl
    rw [hrt] at at1
    subst et
    rcases hcase with ⟨hl1, hp1, hr1⟩ | ⟨hl1, hp1⟩
    · obtain ⟨_, ⟨xp, op, ep, ap⟩⟩ := pair_cell HX.out.2.2.2.1 HX.out.2.2.2.2 (show nr0 < reads.length by omega)
      rw [hp1] at ap
      subst ep
      subst hr1
      have q1 : (r : Int) + 1 = (reads.length : Int) := by omega
      have q3 : (reads.length : Int) - 1 = (r : Int) := by omega
      clear ho hr hrt hl1 hp1
      rw [tl4_34]
      refine wp_seq_k (fun K hK => ?_)
      conv => arg 2; whnf
      go_wp2_with fail
      exact t35 _ _ _ _ _ _ _ _ _ _ _ _ _ _ _ _ _ _ _ _ _ _ _ _ _ _ _ _ _ _ _ _ _ _ _ _ _ _ _ _ _ _ _ _ _ _ _ _ _ _ _ _ _ _ _ _ _ _ _ _ _ _ _ _ _ _ _ _ _ _ _ _ _ _ _ _ _ _ _ _ _ _ _ _ _ _ _ _ _ _ _ _ _ _ _ _ _ _ _ _ _ _ _ _ _ _ _ _ _ _ _ _ _ _ _ _ _ _ _ _ _ _ _ _ _ _ _ _ _ _ _ _ _ _ _ _ _ _ _ _ _ _ _ _ _ _ _ _ _ _ _ _ _ _ _ _ _ _ _ _ _ _ _ _ _ _ _ _ _ _ _ _ _ _ _ _ _ _ _ _ _ _ _ _ _ _ _ _ _ _ _ _ _ _ _ _ _ _ _ _ _ _ _ _ _ _ _ _ _ _ _ _ _ _ _ _ _ _ _ _ _ _ _ _ _ _ _ _ _ _ _ _ _ _ _ _ _ _ _ _ _ _ _ _ _ _ _ _ _ _ _ _ _ _ _ _ _ _ _ _ _ _ _ _ _ _ _ _ _ _ _ _ _ _ _ _ _ _ _ _ _ _ _ _ _ _ _ _ _ _ _ _ _ _ _ _ _ _ _ _ _ _ _ _ _ _ _ _ _ _ _ _ _ _ _ _ _ _ _ _ _ _ _ _ _ _ _ _ _ _ _ _ _ _ _ _ _ _ _ _ _ _ _ _ _ _ _ _ _ _ _ _ _ _ _ _ _ _ _ _ _ _ _ _ _ _ _ _ _ _ _ _ _ _ _ _ _ _ _ _ _ _ _ _ _ _ _ _ _ _ _ _ _ _ _ _ _ _ _ _ _ _ _ _ _ _ _ _ _ _ _ _ _ _ _ _ _ _ _ _ _ _ _ _ _ _ _ _ _ _ _ _ _ _ _ _ _ _ _ _ _ _ _ _ _ _ _ _ _ _ _ _ _ _ _ _ _ _ _ _ _ _ _ _ _ _ _ _ _ _ _ _ _ _ _ _ _ _ _ _ _ _ _ _ _ _ _ _ _ _ _ _ _ _ _ _ _ _ _ _ _ _ _ _ _ _ _ _ _ _ _ _ _ _ _ _ _ _ _ _ _ _ _ _ _ _ _ _ _ _ _ _ _ _ _ _ _ _ _ _ _ _ _ _ _ _ _ _ _ _ _ _ _ _ _ _ _ _ _ _ _ _ _ _ _ _ _ _ _ _ _ _ HV.out HX.out.1 HX.out.2.1 HX.out.2.2.1 HX.out.2.2.2 nw nl nt np nba nbh vw vl vt' vp vba HF.out hl hE HW.out HRR.out ht HSRC.out HAG.out HAD.out hbh HI.out HJ.out hz0 hzl hpw HB.out hBw HBF.out
    · subst hp1
      subst hl1
      clear ho hr hrt
      rw [tl4_34]
      refine wp_seq_k (fun K hK => ?_)
      conv => arg 2; whnf
      go_wp2_with fail
      exact t35 _ _ _ _ _ _ _ _ _ _ _ _ _ _ _ _ _ _ _ _ _ _ _ _ _ _ _ _ _ _ _ _ _ _ _ _ _ _ _ _ _ _ _ _ _ _ _ _ _ _ _ _ _ _ _ _ _ _ _ _ _ _ _ _ _ _ _ _ _ _ _ _ _ _ _ _ _ _ _ _ _ _ _ _ _ _ _ _ _ _ _ _ _ _ _ _ _ _ _ _ _ _ _ _ _ _ _ _ _ _ _ _ _ _ _ _ _ _ _ _ _ _ _ _ _ _ _ _ _ _ _ _ _ _ _ _ _ _ _ _ _ _ _ _ _ _ _ _ _ _ _ _ _ _ _ _ _ _ _ _ _ _ _ _ _ _ _ _ _ _ _ _ _ _ _ _ _ _ _ _ _ _ _ _ _ _ _ _ _ _ _ _ _ _ _ _ _ _ _ _ _ _ _ _ _ _ _ _ _ _ _ _ _ _ _ _ _ _ _ _ _ _ _ _ _ _ _ _ _ _ _ _ _ _ _ _ _ _ _ _ _ _ _ _ _ _ _ _ _ _ _ _ _ _ _ _ _ _ _ _ _ _ _ _ _ _ _ _ _ _ _ _ _ _ _ _ _ _ _ _ _ _ _ _ _ _ _ _ _ _ _ _ _ _ _ _ _ _ _ _ _ _ _ _ _ _ _ _ _ _ _ _ _ _ _ _ _ _ _ _ _ _ _ _ _ _ _ _ _ _ _ _ _ _ _ _ _ _ _ _ _ _ _ _ _ _ _ _ _ _ _ _ _ _ _ _ _ _ _ _ _ _ _ _ _ _ _ _ _ _ _ _ _ _ _ _ _ _ _ _ _ _ _ _ _ _ _ _ _ _ _ _ _ _ _ _ _ _ _ _ _ _ _ _ _ _ _ _ _ _ _ _ _ _ _ _ _ _ _ _ _ _ _ _ _ _ _ _ _ _ _ _ _ _ _ _ _ _ _ _ _ _ _ _ _ _ _ _ _ _ _ _ _ _ _ _ _ _ _ _ _ _ _ _ _ _ _ _ _ _ _ _ _ _ _ _ _ _ _ _ _ _ _ _ _ _ _ _ _ _ _ _ _ _ _ _ _ _ _ _ _ _ _ _ _ _ _ _ _ _ _ _ _ _ _ _ _ _ _ _ _ _ _ _ _ _ _ _ _ _ _ _ _ _ _ _ _ _ _ _ _ _ _ _ _ _ _ _ _ _ _ _ _ _ _ _ _ _ _ _ _ _ _ _ _ _ _ _ _ _ _ _ HV.out HX.out.1 HX.out.2.1 HX.out.2.2.1 HX.out.2.2.2 nw nl nt np nba nbh vw vl vt' vp vba HF.out hl hE HW.out HRR.out ht HSRC.out HAG.out HAD.out hbh HI.out HJ.out hz0 hzl hpw HB.out hBw HBF.out
  · subst hlen
    rw [hr] at al
    cases ho3 : out 3 with
    | none => exact absurd ho3 ho
    | some y =>
      rw [ho3, optr_some] at hb3
      clear ho hr ho3
      rw [tl4_34]
      refine wp_seq_k (fun K hK => ?_)
      conv => arg 2; whnf
      go_wp2_with fail
      exact t35 _ _ _ _ _ _ _ _ _ _ _ _ _ _ _ _ _ _ _ _ _ _ _ _ _ _ _ _ _ _ _ _ _ _ _ _ _ _ _ _ _ _ _ _ _ _ _ _ _ _ _ _ _ _ _ _ _ _ _ _ _ _ _ _ _ _ _ _ _ _ _ _ _ _ _ _ _ _ _ _ _ _ _ _ _ _ _ _ _ _ _ _ _ _ _ _ _ _ _ _ _ _ _ _ _ _ _ _ _ _ _ _ _ _ _ _ _ _ _ _ _ _ _ _ _ _ _ _ _ _ _ _ _ _ _ _ _ _ _ _ _ _ _ _ _ _ _ _ _ _ _ _ _ _ _ _ _ _ _ _ _ _ _ _ _ _ _ _ _ _ _ _ _ _ _ _ _ _ _ _ _ _ _ _ _ _ _ _ _ _ _ _ _ _ _ _ _ _ _ _ _ _ _ _ _ _ _ _ _ _ _ _ _ _ _ _ _ _ _ _ _ _ _ _ _ _ _ _ _ _ _ _ _ _ _ _ _ _ _ _ _ _ _ _ _ _ _ _ _ _ _ _ _ _ _ _ _ _ _ _ _ _ _ _ _ _ _ _ _ _ _ _ _ _ _ _ _ _ _ _ _ _ _ _ _ _ _ _ _ _ _ _ _ _ _ _ _ _ _ _ _ _ _ _ _ _ _ _ _ _ _ _ _ _ _ _ _ _ _ _ _ _ _ _ _ _ _ _ _ _ _ _ _ _ _ _ _ _ _ _ _ _ _ _ _ _ _ _ _ _ _ _ _ _ _ _ _ _ _ _ _ _ _ _ _ _ _ _ _ _ _ _ _ _ _ _ _ _ _ _ _ _ _ _ _ _ _ _ _ _ _ _ _ _ _ _ _ _ _ _ _ _ _ _ _ _ _ _ _ _ _ _ _ _ _ _ _ _ _ _ _ _ _ _ _ _ _ _ _ _ _ _ _ _ _ _ _ _ _ _ _ _ _ _ _ _ _ _ _ _ _ _ _ _ _ _ _ _ _ _ _ _ _ _ _ _ _ _ _ _ _ _ _ _ _ _ _ _ _ _ _ _ _ _ _ _ _ _ _ _ _ _ _ _ _ _ _ _ _ _ _ _ _ _ _ _ _ _ _ _ _ _ _ _ _ _ _ _ _ _ _ _ _ _ _ _ _ _ _ _ _ _ _ _ _ _ _ _ _ _ _ _ _ _ _ _ _ _ _ _ _ _ _ _ _ _ _ _ _ _ _ _ _ _ _ _ _ _ _ _ _ _ HV.out HX.out.1 HX.out.2.1 HX.out.2.2.1 HX.out.2.2.2 nw nl nt np nba nbh vw vl vt' vp vba HF.out hl hE HW.out HRR.out ht HSRC.out HAG.out HAD.out hbh HI.out HJ.out hz0 hzl hpw HB.out hBw HBF.out

end Go.Proofs.Qxb6625890a
