/-
  Seat b6625890a: the law FnReadTwiceRepeatsOnlyTheDirtyEntry, the first read. Frames written by program.
-/
import Derived.Test.Qxb6625890aAC
namespace Go.Proofs.Qxb6625890a
open Go.RowKit Go.Maps
set_option linter.unusedVariables false

theorem ClsV.dm_len {w : World} {F : Nat → Prop} {cb tb db mi N lim : Nat} {vi vr vt : Value} {f : Int → Option Value} {ends : List Int} {out : Nat → Option OpC} {items reads : List (Int × Int)} {dm : Int → Option (List Int)} (h : ClsV w F cb tb db mi N lim vi vr vt f ends out items reads dm) (k : Int) : ((dm k).getD []).length ≤ lim := by
  cases hf : f k with
  | none => rw [h.non k hf]; exact Nat.zero_le _
  | some v =>
    obtain ⟨zs, h1, _, h3⟩ := h.grp k v hf
    rw [h1]; exact h3
theorem keep_old {F : Nat → Prop} {w w2 w3 : World} (b12 : Below w.heap.size w w2) (hK : KeepF (FX F w.heap.size w2.heap.size) w2 w3) {b j : Nat} {v : Value} (hn : ¬ F b) (h : w.cell? ⟨b, j, none⟩ = some v) : w3.cell? ⟨b, j, none⟩ = some v :=
  hK.cell (FX.old hn (Nat.lt_of_lt_of_le (World.block_lt_of_cell? w _ h) b12.size)) (cell_later b12 h)
theorem keep_sl {F : Nat → Prop} {w w2 w3 : World} (b12 : Below w.heap.size w w2) (hK : KeepF (FX F w.heap.size w2.heap.size) w2 w3) {a : Option Addr} {cs : List Value} (hn : ∀ x, a = some x → ¬ F x.block) (h : Sl w a cs) : Sl w3 a cs := by
  intro hne
  obtain ⟨b, off, rfl, hc⟩ := h hne
  refine ⟨b, off, rfl, fun i hi => ?_⟩
  have h1 := hc i hi
  rw [List.getElem?_eq_getElem hi] at h1 ⊢
  exact keep_old b12 hK (hn ⟨b, off, none⟩ rfl) h1
theorem keep_blk {F : Nat → Prop} {w w2 w3 : World} (b12 : Below w.heap.size w w2) (hK : KeepF (FX F w.heap.size w2.heap.size) w2 w3) {b : Nat} {c : Array Value} {e : TypeId} {fr : Nat × Nat} (hn : ¬ F b) (h : w.heap[b]? = some (.cells c e fr)) : w3.heap[b]? = some (.cells c e fr) := by
  have hlt := (Array.getElem?_eq_some_iff.1 h).1
  exact (hK.block b (Nat.lt_of_lt_of_le hlt b12.size) (FX.old hn (Nat.lt_of_lt_of_le hlt b12.size))).trans (blk_kept (grown_of_below b12) h (by simp))
theorem tl4_16 : tl Try.f4 16 = Code.seq (st Try.f4 16) (tl Try.f4 17) := by kernel_rfl

set_option maxRecDepth 100000 in
set_option maxHeartbeats 2000000 in
theorem t16 {w w0 : World} (F : Nat → Prop) (B cb tb db mi N lim : Nat) (vi vr vt : Value) (f : Int → Option Value) (ends : List Int) (o0 : Nat → Option OpC) (items0 reads0 : List (Int × Int)) (dm : Int → Option (List Int)) (src probe : Int) (ad1 : Bool) (t : Int) (it : Nat) (kd tx : Int) (ost : ByteArray) (so : Int) (hs : Bool) (ia : Option Addr) (ic : Nat) (z0 : List Int) (h0 : Bool) (bst : Nat) (ilr : Int) (a2 : Option Addr) (c2 : Nat) (a1 : Option Addr) (c1 : Nat) (bop bf : Nat) (cf dr b0 b1 b2 b3 : Bool) (u0 u1 u8 u9 u10 u11 u12 u15 u16 u22 u24 u25 u26 u27 u28 u29 u30 u31 u32 u33 u34 u35 u36 u37 u38 u39 u40 u41 u42 u43 u44 u45 u46 u47 u48 u49 u50 u51 u52 u53 u54 u55 u56 u57 u58 u59 u60 u61 u62 u63 u64 u65 u66 u67 u68 u69 u70 u71 u72 u73 u74 u75 u76 u77 u78 u79 u80 u81 u82 u83 u84 u85 u86 u87 u88 u89 u90 u91 u92 u93 u94 u95 u96 u97 u98 u99 u100 u101 u102 u103 u104 u105 u106 u107 u108 u109 u110 u111 u112 u113 u114 u115 u116 u117 u118 u119 u120 u121 u122 u123 u124 u125 u126 u127 u128 u129 u130 u131 u132 u133 u134 u135 u136 u137 u138 u139 u140 u141 u142 u143 u144 u145 u146 u147 u148 u149 u150 u151 u152 u153 u154 u155 u156 u157 u158 u159 u160 u161 u162 u163 u164 u165 u166 u167 u168 u169 u170 u171 u172 u173 u174 u175 u176 u177 u178 u179 u180 u181 u182 u183 u184 u185 u186 u187 u188 u189 u190 u191 u192 u193 u194 u195 u196 u197 u198 u199 u200 u201 u202 u203 u204 u205 u206 u207 u208 u209 u210 u211 u212 u213 u214 u215 u216 u217 u218 u219 u220 u221 u222 u223 u224 u225 u226 u227 u228 u229 u230 u231 u232 u233 u234 u235 u236 u237 u238 u239 u240 u241 u242 u243 u244 u245 u246 u247 u248 u249 u250 u251 u252 u253 u254 u255 u256 u257 u258 u259 u260 u261 u262 u263 u264 u265 u266 u267 u268 u269 u270 u271 u272 u273 u274 u275 u276 u277 u278 u279 u280 u281 u282 u283 u284 u285 u286 u287 u288 u289 u290 u291 u292 u293 u294 u295 u296 u297 u298 u299 u300 u301 u302 u303 u304 u305 u306 u307 u308 u309 u310 u311 u312 u313 u314 u315 u316 u317 u318 u319 u320 u321 u322 u323 u324 u325 u326 u327 u328 u329 u330 u331 u332 u333 u334 u335 u336 u337 u338 u339 u340 u341 u342 u343 u344 u345 u346 u347 u348 u349 u350 u351 u352 u353 u354 u355 u356 u357 u358 u359 u360 u361 u362 u363 u364 u365 u366 u367 u368 u369 u370 u371 u372 u373 u374 u375 u376 u377 u378 u379 u380 u381 u382 u383 u384 u385 u386 u387 u388 u389 u390 u391 u392 u393 u394 u395 u396 u397 u398 u399 u400 u401 u402 u403 u404 u405 u406 u407 u408 u409 u410 u411 u412 u413 u414 u415 u416 u417 u418 u419 u420 u421 u422 u423 u424 u425 u426 u427 u428 u429 u430 u431 u432 u433 u434 u435 u436 u437 u438 u439 u440 u441 u442 u443 u444 u445 u446 u447 u448 u449 u450 u451 u452 u453 u454 u455 u456 u457 u458 u459 u460 u461 u462 u463 u464 u465 u466 u467 u468 u469 u470 u471 u472 u473 u474 u475 u476 u477 u478 u479 u480 u481 u482 u483 u484 u485 u486 u487 u488 u489 u490 u491 u492 u493 u494 u495 u496 u497 u498 u499 u500 u501 u502 u503 u504 u505 u506 u507 u508 u509 u510 u511 u512 u513 u514 u515 u516 u517 u518 u519 u520 u521 u522 u523 u524 u525 u526 u527 u528 u529 u530 u531 u532 u533 u534 u535 u536 u537 u538 u539 u540 u541 u542 u543 u544 u545 u546 : Value)
    (h : ClsV w F cb tb db mi N lim vi vr vt f ends o0 items0 reads0 dm) (hF : ∀ k, w.heap.size ≤ k → F k) (hl : lim ≤ 5000000) (hE : ends.length ≤ 1048576) (hW : ∀ i, i < items0.length → (items0.getD i (0, 0)).1 < ends.length) (hR : ∀ i, i < items0.length → (items0.getD i (0, 0)).2 < reads0.length) (ht : (Lit.int .i32 t).wf = true) (hpw : (Lit.int .i32 probe).wf = true) (hsrc : 0 ≤ src → src ≠ t → src < ends.length) (hit0 : it ≤ items0.length) (hb : Below B w0 w) (hBw : B ≤ w.heap.size) (hBF : ∀ k, k < B → ¬ F k) (hsome : ∀ k, k < 4 → (o0 k).isSome = c4 b0 b1 b2 b3 k) (hnest : Nest o0) (k1 : w.cell? ⟨bst, 1, none⟩ = some (.slice a1 items0.length c1)) (k2 : w.cell? ⟨bst, 2, none⟩ = some (.slice a2 reads0.length c2)) (hs1 : Sl w a1 (flat items0)) (hs2 : Sl w a2 (flat reads0)) (hbst : ∀ k, k < 4 → w.cell? ⟨bst, 3 + k, none⟩ = some (.bool (c4 b0 b1 b2 b3 k))) (hbop : w.heap[bop]? = some (.cells (opc kd tx ost so hs).toArray 39 (0, 0))) (nbst : ¬ F bst) (nbop : ¬ F bop) (na1 : ∀ x, a1 = some x → ¬ F x.block) (na2 : ∀ x, a2 = some x → ¬ F x.block) (hbf : ∀ k, k < 4 → w.cell? ⟨bf, k, none⟩ = some (optr (o0 k))) (nbf : ¬ F bf) (hcf : cf = conf ends ((growL items0 it).getD it (0, 0)).1 t) (hdr : dr = drt ends src t) (hilr : ilr = ((growL items0 it).getD it (0, 0)).2) (hi : Sl w ia (ints z0)) (nia : ∀ x, ia = some x → ¬ F x.block) (hz : (dm probe).getD [] = z0) (hh0 : (dm probe).isSome = h0) (had0 : ad1 = (decide (probe = t) && dr && !b0)) :
    Code.wp Try.prog (tl Try.f4 16) (QT Try.f4 B w0) ⟨#[u0, u1, .int .i32 t, .int .i32 it, .int .i32 src, .int .i32 probe, .pointer (some ⟨bst, 0, none⟩), .pointer (some ⟨bop, 0, none⟩), u8, u9, u10, u11, u12, .pointer (some ⟨cb, 0, none⟩), .pointer (some ⟨bf, 0, none⟩), u15, u16, .int .i32 ilr, .bool cf, .bool dr, .slice ia z0.length ic, .bool h0, u22, .bool ad1, u24, u25, u26, u27, u28, u29, u30, u31, u32, u33, u34, u35, u36, u37, u38, u39, u40, u41, u42, u43, u44, u45, u46, u47, u48, u49, u50, u51, u52, u53, u54, u55, u56, u57, u58, u59, u60, u61, u62, u63, u64, u65, u66, u67, u68, u69, u70, u71, u72, u73, u74, u75, u76, u77, u78, u79, u80, u81, u82, u83, u84, u85, u86, u87, u88, u89, u90, u91, u92, u93, u94, u95, u96, u97, u98, u99, u100, u101, u102, u103, u104, u105, u106, u107, u108, u109, u110, u111, u112, u113, u114, u115, u116, u117, u118, u119, u120, u121, u122, u123, u124, u125, u126, u127, u128, u129, u130, u131, u132, u133, u134, u135, u136, u137, u138, u139, u140, u141, u142, u143, u144, u145, u146, u147, u148, u149, u150, u151, u152, u153, u154, u155, u156, u157, u158, u159, u160, u161, u162, u163, u164, u165, u166, u167, u168, u169, u170, u171, u172, u173, u174, u175, u176, u177, u178, u179, u180, u181, u182, u183, u184, u185, u186, u187, u188, u189, u190, u191, u192, u193, u194, u195, u196, u197, u198, u199, u200, u201, u202, u203, u204, u205, u206, u207, u208, u209, u210, u211, u212, u213, u214, u215, u216, u217, u218, u219, u220, u221, u222, u223, u224, u225, u226, u227, u228, u229, u230, u231, u232, u233, u234, u235, u236, u237, u238, u239, u240, u241, u242, u243, u244, u245, u246, u247, u248, u249, u250, u251, u252, u253, u254, u255, u256, u257, u258, u259, u260, u261, u262, u263, u264, u265, u266, u267, u268, u269, u270, u271, u272, u273, u274, u275, u276, u277, u278, u279, u280, u281, u282, u283, u284, u285, u286, u287, u288, u289, u290, u291, u292, u293, u294, u295, u296, u297, u298, u299, u300, u301, u302, u303, u304, u305, u306, u307, u308, u309, u310, u311, u312, u313, u314, u315, u316, u317, u318, u319, u320, u321, u322, u323, u324, u325, u326, u327, u328, u329, u330, u331, u332, u333, u334, u335, u336, u337, u338, u339, u340, u341, u342, u343, u344, u345, u346, u347, u348, u349, u350, u351, u352, u353, u354, u355, u356, u357, u358, u359, u360, u361, u362, u363, u364, u365, u366, u367, u368, u369, u370, u371, u372, u373, u374, u375, u376, u377, u378, u379, u380, u381, u382, u383, u384, u385, u386, u387, u388, u389, u390, u391, u392, u393, u394, u395, u396, u397, u398, u399, u400, u401, u402, u403, u404, u405, u406, u407, u408, u409, u410, u411, u412, u413, u414, u415, u416, u417, u418, u419, u420, u421, u422, u423, u424, u425, u426, u427, u428, u429, u430, u431, u432, u433, u434, u435, u436, u437, u438, u439, u440, u441, u442, u443, u444, u445, u446, u447, u448, u449, u450, u451, u452, u453, u454, u455, u456, u457, u458, u459, u460, u461, u462, u463, u464, u465, u466, u467, u468, u469, u470, u471, u472, u473, u474, u475, u476, u477, u478, u479, u480, u481, u482, u483, u484, u485, u486, u487, u488, u489, u490, u491, u492, u493, u494, u495, u496, u497, u498, u499, u500, u501, u502, u503, u504, u505, u506, u507, u508, u509, u510, u511, u512, u513, u514, u515, u516, u517, u518, u519, u520, u521, u522, u523, u524, u525, u526, u527, u528, u529, u530, u531, u532, u533, u534, u535, u536, u537, u538, u539, u540, u541, u542, u543, u544, u545, u546], []⟩ w := by
  have p0 : w.cell? ⟨bop, 0, none⟩ = some (.int .u8 kd) := cell_blk hbop rfl
  have p1 : w.cell? ⟨bop, 1, none⟩ = some (.int .i64 tx) := cell_blk hbop rfl
  have p2 : w.cell? ⟨bop, 2, none⟩ = some (.string ost) := cell_blk hbop rfl
  have p3 : w.cell? ⟨bop, 3, none⟩ = some (.int .i64 so) := cell_blk hbop rfl
  have p4 : w.cell? ⟨bop, 4, none⟩ = some (.bool hs) := cell_blk hbop rfl
  have HALL : Hid _ := And.intro h (And.intro hF (And.intro hW (And.intro hR (And.intro hsrc (And.intro hb (And.intro hBF (And.intro hsome hnest)))))))
  have HST : Hid _ := And.intro k1 (And.intro k2 (And.intro hs1 (And.intro hs2 (And.intro hbst hbop))))
  have HNS : Hid _ := And.intro nbst (And.intro nbop (And.intro na1 na2))
  have HBFF : Hid _ := And.intro hbf nbf
  have HEQ : Hid _ := And.intro hcf (And.intro hdr hilr)
  have HID : Hid _ := And.intro hi (And.intro nia (And.intro hz hh0))
  have HAD0 : Hid _ := had0
  clear had0
  clear h hF hW hR hsrc hb hBF hsome hnest k1 k2 hs1 hs2 hbst hbop nbst nbop na1 na2 hbf nbf hcf hdr hilr hi nia hz hh0
  rw [tl4_16]
  refine wp_seq_k (fun K hK => ?_)
  conv => arg 2; whnf
  go_wp2_with fail
  refine Calls.mono (histOp_any kd tx ost so hs _) ?_
  rintro e w1 ⟨rfl, hb1⟩
  have HB1 : Hid _ := hb1
  clear hb1 p0 p1 p2 p3 p4
  go_wp2_with fail
  obtain ⟨w2, hw2⟩ : ∃ w2, w2 = w1.alloc (.cells #[.int .u8 kd, .int .i64 tx, .string ost, .int .i64 so, .bool hs] 45) := ⟨_, rfl⟩
  have b12 : Below w.heap.size w w2 := by rw [hw2]; exact Below.alloc HB1.out (Below.size HB1.out) _
  have hbh : w2.heap[w1.heap.size]? = some (.cells (opc kd tx ost so hs).toArray 45 (0, 0)) := by rw [hw2]; exact heap_alloc_new w1 _
  rw [← hw2]
  clear hw2
  have k0 : w2.cell? ⟨w1.heap.size, 0, none⟩ = some (.int .u8 kd) := cell_blk hbh rfl
  have k1 : w2.cell? ⟨w1.heap.size, 1, none⟩ = some (.int .i64 tx) := cell_blk hbh rfl
  have k2 : w2.cell? ⟨w1.heap.size, 2, none⟩ = some (.string ost) := cell_blk hbh rfl
  have k3 : w2.cell? ⟨w1.heap.size, 3, none⟩ = some (.int .i64 so) := cell_blk hbh rfl
  have k4 : w2.cell? ⟨w1.heap.size, 4, none⟩ = some (.bool hs) := cell_blk hbh rfl
  have hcall := zzread_any (w0 := w) (ClsV.fx HALL.out.1 b12) FX.new (by omega) hE it hit0 HALL.out.2.2.1 HALL.out.2.2.2.1 t src ht HALL.out.2.2.2.2.1 kd tx ost so hs
  have HC : Hid _ := hcall
  have HB12 : Hid _ := b12
  have HBH : Hid _ := hbh
  clear hcall b12 hbh
  rw [tl4_17]
  refine wp_seq_k (fun K hK => ?_)
  conv => arg 2; whnf
  go_wp2_with fail
  refine Calls.mono HC.out ?_
  rintro e w3 ⟨rfl, hpost⟩
  have HP : Hid _ := hpost
  clear hpost HC k0 k1 k2 k3 k4
  go_wp2_with fail
  obtain ⟨out1, out', hm, hd, ⟨tb', db', mi', N', vi', vr', vt', f', hV⟩, hK⟩ := HP.out
  obtain ⟨h, hF, hW, hR, hsrc, hb, hBF, hsome, hnest⟩ := HALL.out
  obtain ⟨k1, k2, hs1, hs2, hbst, hbop⟩ := HST.out
  obtain ⟨nbst, nbop, na1, na2⟩ := HNS.out
  obtain ⟨hbf, nbf⟩ := HBFF.out
  obtain ⟨hcf, hdr, hilr⟩ := HEQ.out
  obtain ⟨hi, nia, hz, hh0⟩ := HID.out
  have b12 := HB12.out
  have hone := one_read hnest hit0 hW hR hm hd
  have hso := step_out hnest hm hd
  have hsz : w1.heap.size < w2.heap.size := (Array.getElem?_eq_some_iff.1 HBH.out).1
  have nbh : ¬ FX F w.heap.size w2.heap.size w1.heap.size := FX.mid HB1.out.size hsz
  have hF3 : ∀ k, w3.heap.size ≤ k → FX F w.heap.size w2.heap.size k := fun k hk => FX.new k (Nat.le_trans hK.size hk)
  have hbh3 : w3.heap[w1.heap.size]? = some (.cells (opc kd tx ost so hs).toArray 45 (0, 0)) := (hK.block _ hsz nbh).trans HBH.out
  have hBF3 : ∀ k, k < B → ¬ FX F w.heap.size w2.heap.size k := fun k hk => FX.old (hBF k hk) (by have := b12.size; omega)
  have hB2 : B ≤ w2.heap.size := Nat.le_trans hBw b12.size
  have hb3 : Below B w0 w3 := (hb.trans (b12.mono hBw)).trans (hK.below hBF3 hB2)
  have had1 : AdOK ad1 probe t (drt ends src t) (o0 0) := by
    have h0 : (o0 0).isSome = b0 := hsome 0 (by omega)
    unfold AdOK
    rw [HAD0.out, hdr]
    subst h0
    cases o0 0 <;> simp
  have e0 : out' 0 = o0 0 := by
    by_cases e : o0 0 = none
    · rw [e]; exact ((hso.1 0 (by omega)).2 e).1 rfl
    · exact (hso.1 0 (by omega)).1 e
  have had : AdOK ad1 probe t (drt ends src t) (out' 0) := by rw [e0]; exact had1
  have hj0 := dirty_again (dm := dm) (src := src) (show AdOK ad1 probe t (drt ends src t) (out1 0) by rw [hso.2]; exact had1)
  rw [hz, hh0] at hj0
  have hz0 : z0.length ≤ 100000000 := by rw [← hz]; exact Nat.le_trans (h.dm_len probe) (by omega)
  have hzl := Nat.le_trans (hV.dm_len probe) (show lim + 3 ≤ 100000000 by omega)
  have hfr := hone.fr
  rw [← hilr] at hfr
  have hout : OutR b0 b1 b2 b3 cf dr (opc kd tx ost so hs) o0 out' := by rw [hcf, hdr]; exact OutR.of hsome hnest hm hd
  exact t18 _ _ _ _ _ _ _ _ _ _ _ _ _ _ _ _ _ _ _ _ _ _ _ _ _ _ _ _ _ _ _ _ _ _ _ _ _ _ _ _ _ _ _ _ _ _ _ _ _ _ _ _ _ _ _ _ _ _ _ _ _ _ _ _ _ _ _ _ _ _ _ _ _ _ _ _ _ _ _ _ _ _ _ _ _ _ _ _ _ _ _ _ _ _ _ _ _ _ _ _ _ _ _ _ _ _ _ _ _ _ _ _ _ _ _ _ _ _ _ _ _ _ _ _ _ _ _ _ _ _ _ _ _ _ _ _ _ _ _ _ _ _ _ _ _ _ _ _ _ _ _ _ _ _ _ _ _ _ _ _ _ _ _ _ _ _ _ _ _ _ _ _ _ _ _ _ _ _ _ _ _ _ _ _ _ _ _ _ _ _ _ _ _ _ _ _ _ _ _ _ _ _ _ _ _ _ _ _ _ _ _ _ _ _ _ _ _ _ _ _ _ _ _ _ _ _ _ _ _ _ _ _ _ _ _ _ _ _ _ _ _ _ _ _ _ _ _ _ _ _ _ _ _ _ _ _ _ _ _ _ _ _ _ _ _ _ _ _ _ _ _ _ _ _ _ _ _ _ _ _ _ _ _ _ _ _ _ _ _ _ _ _ _ _ _ _ _ _ _ _ _ _ _ _ _ _ _ _ _ _ _ _ _ _ _ _ _ _ _ _ _ _ _ _ _ _ _ _ _ _ _ _ _ _ _ _ _ _ _ _ _ _ _ _ _ _ _ _ _ _ _ _ _ _ _ _ _ _ _ _ _ _ _ _ _ _ _ _ _ _ _ _ _ _ _ _ _ _ _ _ _ _ _ _ _ _ _ _ _ _ _ _ _ _ _ _ _ _ _ _ _ _ _ _ _ _ _ _ _ _ _ _ _ _ _ _ _ _ _ _ _ _ _ _ _ _ _ _ _ _ _ _ _ _ _ _ _ _ _ _ _ _ _ _ _ _ _ _ _ _ _ _ _ _ _ _ _ _ _ _ _ _ _ _ _ _ _ _ _ _ _ _ _ _ _ _ _ _ _ _ _ _ _ _ _ _ _ _ _ _ _ _ _ _ _ _ _ _ _ _ _ _ _ _ _ _ _ _ _ _ _ _ _ _ _ _ _ _ _ _ _ _ _ _ _ _ _ _ _ _ _ _ _ _ _ _ _ _ _ _ _ _ _ _ _ _ _ _ _ _ _ _ _ _ _ _ _ _ _ _ _ _ _ _ _ _ _ _ _ _ _ _ _ _ _ _ _ _ _ _ _ hV nbh hF3 (by omega) hE hone.W hone.R ht hsrc hone.ag had hbh3 (keep_sl b12 hK nia hi) hj0 hz0 hzl hpw hb3 (Nat.le_trans hB2 hK.size) hBF3 (keep_old b12 hK nbst k2) (keep_sl b12 hK na2 hs2) hone.pre hfr hone.pre2 (keep_old b12 hK nbst k1) (keep_sl b12 hK na1 hs1) hone.gi hit0 (fun k hk => keep_old b12 hK nbf (hbf k hk)) (fun k hk => keep_old b12 hK nbst (hbst k hk)) (keep_blk b12 hK nbop hbop) hout

end Go.Proofs.Qxb6625890a
