/-
  Seat b6625890a: the law FnReadTwiceRepeatsOnlyTheDirtyEntry, from the first probe of dirty to the second read. Frames written by program.
-/
import Derived.Test.Qxb6625890aT
namespace Go.Proofs.Qxb6625890a
open Go.RowKit Go.Maps
set_option linter.unusedVariables false

theorem KeepF.sl {F : Nat → Prop} {w w' : World} (h : KeepF F w w') {a : Option Addr} {cs : List Value} (hs : Sl w a cs) (hn : ∀ x, a = some x → ¬ F x.block) : Sl w' a cs := by
  intro hne
  obtain ⟨b, off, rfl, hc⟩ := hs hne
  refine ⟨b, off, rfl, fun i hi => ?_⟩
  have h1 := hc i hi
  rw [List.getElem?_eq_getElem hi] at h1 ⊢
  exact h.cell (hn _ rfl) h1

/-- The read changes nothing of the four pointers, the items, the reads. -/
structure Again (ends : List Int) (out : Nat → Option OpC) (items reads : List (Int × Int)) (it : Nat) (t src : Int) : Prop where
  lt : it < items.length
  cf : out 2 = none → conf ends (items.getD it (0, 0)).1 t = false
  dr : drt ends src t = true → out 1 ≠ none
  fr : out 3 = none → fresh items reads it t = false
theorem read_again {F : Nat → Prop} {cb lim : Nat} {ends : List Int} {out : Nat → Option OpC} {items reads : List (Int × Int)} {dm : Int → Option (List Int)} {it : Nat} {t src : Int} {x : List Value} {w w' : World}
    (h : ReadPost F cb lim ends out items reads dm it t src x w w') (ha : Again ends out items reads it t src) :
    RdP F cb lim ends out items reads (if drt ends src t = true ∧ out 0 = none then dirtyAdd dm t src else dm) w w' := by
  obtain ⟨out1, out', hm, hd, hp⟩ := h
  have hg : growL items it = items := by unfold growL; rw [if_neg (by have := ha.lt; omega)]
  rw [hg] at hm hp
  have e1 : out1 = out := by
    rcases hm with ⟨h2, hb, _⟩ | ⟨_, h2⟩
    · rw [ha.cf h2] at hb; cases hb
    · exact h2
  subst e1
  have e2 : out' = out1 := by
    rcases hd with ⟨hb, hf⟩ | ⟨_, h2⟩
    · rcases hf with ⟨_, h2⟩ | ⟨h1, _⟩
      · exact h2
      · exact absurd h1 (ha.dr hb)
    · exact h2
  subst e2
  have e3 : ¬ (out' 3 = none ∧ fresh items reads it t = true) := fun hh => by rw [ha.fr hh.1] at hh; cases hh.2
  unfold stepI stepR at hp
  rw [if_neg e3, if_neg e3] at hp
  exact hp
def AdOK (ad1 : Bool) (probe t : Int) (d : Bool) (o0 : Option OpC) : Prop := ad1 = true ↔ (probe = t ∧ d = true ∧ o0 = none)
theorem dirty_again {dm : Int → Option (List Int)} {probe t src : Int} {d : Bool} {o0 : Option OpC} {ad1 : Bool} (had : AdOK ad1 probe t d o0) :
    (ad1 = true ∧ (if d = true ∧ o0 = none then dirtyAdd dm t src else dm) probe = some ((dm probe).getD [] ++ [src])) ∨ (ad1 = false ∧ ((if d = true ∧ o0 = none then dirtyAdd dm t src else dm) probe).isSome = (dm probe).isSome ∧ ((if d = true ∧ o0 = none then dirtyAdd dm t src else dm) probe).getD [] = (dm probe).getD []) := by
  cases ha : ad1 with
  | true =>
    obtain ⟨h1, h2, h3⟩ := had.1 ha
    refine Or.inl ⟨rfl, ?_⟩
    rw [if_pos ⟨h2, h3⟩]
    unfold dirtyAdd dirtyAt
    rw [if_pos h1, h1]
  | false =>
    refine Or.inr ⟨rfl, ?_⟩
    by_cases hc : d = true ∧ o0 = none
    · rw [if_pos hc]
      have hne : probe ≠ t := fun e => by rw [had.2 ⟨e, hc.1, hc.2⟩] at ha; cases ha
      unfold dirtyAdd
      rw [if_neg hne]
      exact ⟨rfl, rfl⟩
    · rw [if_neg hc]
      exact ⟨rfl, rfl⟩

/-- F without the blocks from a up to b. -/
def FX (F : Nat → Prop) (a b : Nat) : Nat → Prop := fun k => (F k ∧ k < a) ∨ b ≤ k
theorem ClsV.fx {w w2 : World} {F : Nat → Prop} {cb tb db mi N lim : Nat} {vi vr vt : Value} {f : Int → Option Value} {ends : List Int} {out : Nat → Option OpC} {items reads : List (Int × Int)} {dm : Int → Option (List Int)}
    (h : ClsV w F cb tb db mi N lim vi vr vt f ends out items reads dm) (hb : Below w.heap.size w w2) : ClsV w2 (FX F w.heap.size w2.heap.size) cb tb db mi N lim vi vr vt f ends out items reads dm :=
  (h.reF (fun g hg hf => Or.inl ⟨hf, hg⟩)).grown hb
theorem FX.new {F : Nat → Prop} {a b : Nat} : ∀ k, b ≤ k → FX F a b k := fun k hk => Or.inr hk
theorem FX.old {F : Nat → Prop} {a b k : Nat} (hn : ¬ F k) (hk : k < b) : ¬ FX F a b k := fun h => h.elim (fun h => hn h.1) (fun h => by omega)
theorem FX.mid {F : Nat → Prop} {a b k : Nat} (h1 : a ≤ k) (h2 : k < b) : ¬ FX F a b k := fun h => h.elim (fun h => by omega) (fun h => by omega)
theorem FX.sl {w : World} {F : Nat → Prop} {a : Option Addr} {b : Nat} (hn : ∀ x, a = some x → ¬ F x.block) (hl : ∀ x, a = some x → x.block < w.heap.size) (hb : w.heap.size ≤ b) : ∀ x, a = some x → ¬ FX F w.heap.size b x.block := fun x hx => FX.old (hn x hx) (Nat.lt_of_lt_of_le (hl x hx) hb)
theorem tl4_35 : tl Try.f4 35 = Code.seq (st Try.f4 35) (tl Try.f4 36) := by kernel_rfl
theorem tl4_36 : tl Try.f4 36 = Code.seq (st Try.f4 36) (tl Try.f4 37) := by kernel_rfl
theorem tl4_37 : tl Try.f4 37 = Code.seq (st Try.f4 37) (tl Try.f4 38) := by kernel_rfl
theorem tl4_38 : tl Try.f4 38 = Code.seq (st Try.f4 38) (tl Try.f4 39) := by kernel_rfl

set_option maxRecDepth 100000 in
set_option maxHeartbeats 2000000 in
theorem t38 {w w0 : World} (F : Nat → Prop) (B cb tb db mi N lim : Nat) (vi vr vt : Value) (f : Int → Option Value) (ends : List Int) (out : Nat → Option OpC) (items reads : List (Int × Int)) (dm : Int → Option (List Int)) (src probe : Int) (ad1 : Bool) (da : Option Addr) (dc : Nat) (ta : Option Addr) (tc : Nat) (pa : Option Addr) (pc : Nat) (wa : Option Addr) (wc : Nat) (la : Option Addr) (lc : Nat) (ba : Nat) (t : Int) (it : Nat) (bh : Nat) (kd tx : Int) (ost : ByteArray) (so : Int) (hs : Bool) (hA : Bool) (zsA : List Int) (u0 u1 u6 u7 u8 u9 u10 u11 u12 u14 u15 u16 u17 u18 u19 u20 u21 u22 u26 u27 u28 u30 u33 u34 u35 u36 u37 u38 u42 u43 u44 u45 u46 u47 u50 u51 u52 u53 u54 u55 u56 u57 u58 u59 u60 u61 u62 u63 u64 u65 u66 u67 u68 u69 u70 u71 u72 u73 u74 u75 u76 u77 u78 u79 u80 u81 u82 u83 u84 u85 u86 u87 u88 u89 u90 u91 u92 u93 u94 u95 u96 u97 u98 u99 u100 u101 u102 u103 u104 u105 u106 u107 u108 u109 u110 u111 u112 u113 u114 u115 u116 u117 u118 u119 u120 u121 u122 u123 u124 u125 u126 u127 u128 u129 u130 u131 u132 u133 u134 u135 u136 u137 u138 u139 u140 u141 u142 u143 u144 u145 u146 u147 u148 u149 u150 u151 u152 u153 u154 u155 u156 u157 u158 u159 u160 u161 u162 u163 u164 u165 u166 u167 u168 u169 u170 u171 u172 u173 u174 u175 u176 u177 u178 u179 u180 u181 u182 u183 u184 u185 u186 u187 u188 u189 u190 u191 u192 u193 u194 u195 u196 u197 u198 u199 u200 u201 u202 u203 u204 u205 u206 u207 u208 u209 u210 u211 u212 u213 u214 u215 u216 u217 u218 u219 u220 u221 u222 u223 u224 u225 u226 u227 u228 u229 u230 u231 u232 u233 u234 u235 u236 u237 u238 u239 u240 u241 u242 u243 u244 u245 u246 u247 u248 u249 u250 u251 u252 u253 u254 u255 u256 u257 u258 u259 u260 u261 u262 u263 u264 u265 u266 u267 u268 u269 u270 u271 u272 u273 u274 u275 u276 u277 u278 u279 u280 u281 u282 u283 u284 u285 u286 u287 u288 u289 u290 u291 u292 u293 u294 u295 u296 u297 u298 u299 u300 u301 u302 u303 u304 u305 u306 u307 u308 u309 u310 u311 u312 u313 u314 u315 u316 u317 u318 u319 u320 u321 u322 u323 u324 u325 u326 u327 u328 u329 u330 u331 u332 u333 u334 u335 u336 u337 u338 u339 u340 u341 u342 u343 u344 u345 u346 u347 u348 u349 u350 u351 u352 u353 u354 u355 u356 u357 u358 u359 u360 u361 u362 u363 u364 u365 u366 u367 u368 u369 u370 u371 u372 u373 u374 u375 u376 u377 u378 u379 u380 u381 u382 u383 u384 u385 u386 u387 u388 u389 u390 u391 u392 u393 u394 u395 u396 u397 u398 u399 u400 u401 u402 u403 u404 u405 u406 u407 u408 u409 u410 u411 u412 u413 u414 u415 u416 u417 u418 u419 u420 u421 u422 u423 u424 u425 u426 u427 u428 u429 u430 u431 u432 u433 u434 u435 u436 u437 u438 u439 u440 u441 u442 u443 u444 u445 u446 u447 u448 u449 u450 u451 u452 u453 u454 u455 u456 u457 u458 u459 u460 u461 u462 u463 u464 u465 u466 u467 u468 u469 u470 u471 u472 u473 u474 u475 u476 u477 u478 u479 u480 u481 u482 u483 u484 u485 u486 u487 u488 u489 u490 u491 u492 u493 u494 u495 u496 u497 u498 u499 u500 u501 u502 u503 u504 u505 u506 u507 u508 u509 u510 u511 u512 u513 u514 u515 u516 u517 u518 u519 u520 u521 u522 u523 u524 u525 u526 u527 u528 u529 u530 u531 u532 u533 u534 u535 u536 u537 u538 u539 u540 u541 u542 u543 u544 u545 u546 : Value)
    (h : ClsV w F cb tb db mi N lim vi vr vt f ends out items reads dm) (hhA : (dm probe).isSome = hA) (hzA : (dm probe).getD [] = zsA) (hba : ∀ k, k < 4 → w.cell? ⟨ba, k, none⟩ = some (optr (out k))) (hwa : Sl w wa (ints (items.map Prod.fst))) (hla : Sl w la (ints (items.map Prod.snd))) (hx : Sl w ta (ints (reads.map Prod.fst)) ∧ Sl w pa (ints (reads.map Prod.snd))) (nw : ∀ x, wa = some x → ¬ F x.block) (nl : ∀ x, la = some x → ¬ F x.block) (nt : ∀ x, ta = some x → ¬ F x.block) (np : ∀ x, pa = some x → ¬ F x.block) (nba : ¬ F ba) (nbh : ¬ F bh) (hF : ∀ k, w.heap.size ≤ k → F k) (hl : lim ≤ 6000000) (hE : ends.length ≤ 1048576) (hW : ∀ i, i < items.length → (items.getD i (0, 0)).1 < ends.length) (hR : ∀ i, i < items.length → (items.getD i (0, 0)).2 < reads.length) (ht : (Lit.int .i32 t).wf = true) (hsrc : 0 ≤ src → src ≠ t → src < ends.length) (hag : Again ends out items reads it t src) (had : AdOK ad1 probe t (drt ends src t) (out 0)) (hbh : w.heap[bh]? = some (.cells (opc kd tx ost so hs).toArray 45 (0, 0))) (hd : Sl w da (ints ((dm probe).getD []))) (nd : ∀ x, da = some x → ¬ F x.block) (hzl : ((dm probe).getD []).length ≤ 100000000) (hpw : (Lit.int .i32 probe).wf = true) (hb : Below B w0 w) (hBw : B ≤ w.heap.size) (hBF : ∀ k, k < B → ¬ F k) :
    Code.wp Try.prog (tl Try.f4 38) (QT Try.f4 B w0) ⟨#[u0, u1, .int .i32 t, .int .i32 it, .int .i32 src, .int .i32 probe, u6, u7, u8, u9, u10, u11, u12, .pointer (some ⟨cb, 0, none⟩), u14, u15, u16, u17, u18, u19, u20, u21, u22, .bool ad1, .pointer (some ⟨bh, 0, none⟩), .pointer (some ⟨ba, 0, none⟩), u26, u27, u28, .int .i64 items.length, u30, .slice wa items.length wc, .slice la items.length lc, u33, u34, u35, u36, u37, u38, .int .i64 reads.length, .slice ta reads.length tc, .slice pa reads.length pc, u42, u43, u44, u45, u46, u47, .bool hA, .slice da zsA.length dc, u50, u51, u52, u53, u54, u55, u56, u57, u58, u59, u60, u61, u62, u63, u64, u65, u66, u67, u68, u69, u70, u71, u72, u73, u74, u75, u76, u77, u78, u79, u80, u81, u82, u83, u84, u85, u86, u87, u88, u89, u90, u91, u92, u93, u94, u95, u96, u97, u98, u99, u100, u101, u102, u103, u104, u105, u106, u107, u108, u109, u110, u111, u112, u113, u114, u115, u116, u117, u118, u119, u120, u121, u122, u123, u124, u125, u126, u127, u128, u129, u130, u131, u132, u133, u134, u135, u136, u137, u138, u139, u140, u141, u142, u143, u144, u145, u146, u147, u148, u149, u150, u151, u152, u153, u154, u155, u156, u157, u158, u159, u160, u161, u162, u163, u164, u165, u166, u167, u168, u169, u170, u171, u172, u173, u174, u175, u176, u177, u178, u179, u180, u181, u182, u183, u184, u185, u186, u187, u188, u189, u190, u191, u192, u193, u194, u195, u196, u197, u198, u199, u200, u201, u202, u203, u204, u205, u206, u207, u208, u209, u210, u211, u212, u213, u214, u215, u216, u217, u218, u219, u220, u221, u222, u223, u224, u225, u226, u227, u228, u229, u230, u231, u232, u233, u234, u235, u236, u237, u238, u239, u240, u241, u242, u243, u244, u245, u246, u247, u248, u249, u250, u251, u252, u253, u254, u255, u256, u257, u258, u259, u260, u261, u262, u263, u264, u265, u266, u267, u268, u269, u270, u271, u272, u273, u274, u275, u276, u277, u278, u279, u280, u281, u282, u283, u284, u285, u286, u287, u288, u289, u290, u291, u292, u293, u294, u295, u296, u297, u298, u299, u300, u301, u302, u303, u304, u305, u306, u307, u308, u309, u310, u311, u312, u313, u314, u315, u316, u317, u318, u319, u320, u321, u322, u323, u324, u325, u326, u327, u328, u329, u330, u331, u332, u333, u334, u335, u336, u337, u338, u339, u340, u341, u342, u343, u344, u345, u346, u347, u348, u349, u350, u351, u352, u353, u354, u355, u356, u357, u358, u359, u360, u361, u362, u363, u364, u365, u366, u367, u368, u369, u370, u371, u372, u373, u374, u375, u376, u377, u378, u379, u380, u381, u382, u383, u384, u385, u386, u387, u388, u389, u390, u391, u392, u393, u394, u395, u396, u397, u398, u399, u400, u401, u402, u403, u404, u405, u406, u407, u408, u409, u410, u411, u412, u413, u414, u415, u416, u417, u418, u419, u420, u421, u422, u423, u424, u425, u426, u427, u428, u429, u430, u431, u432, u433, u434, u435, u436, u437, u438, u439, u440, u441, u442, u443, u444, u445, u446, u447, u448, u449, u450, u451, u452, u453, u454, u455, u456, u457, u458, u459, u460, u461, u462, u463, u464, u465, u466, u467, u468, u469, u470, u471, u472, u473, u474, u475, u476, u477, u478, u479, u480, u481, u482, u483, u484, u485, u486, u487, u488, u489, u490, u491, u492, u493, u494, u495, u496, u497, u498, u499, u500, u501, u502, u503, u504, u505, u506, u507, u508, u509, u510, u511, u512, u513, u514, u515, u516, u517, u518, u519, u520, u521, u522, u523, u524, u525, u526, u527, u528, u529, u530, u531, u532, u533, u534, u535, u536, u537, u538, u539, u540, u541, u542, u543, u544, u545, u546], []⟩ w := by
  subst hhA
  subst hzA
  have k0 : w.cell? ⟨bh, 0, none⟩ = some (.int .u8 kd) := cell_blk hbh rfl
  have k1 : w.cell? ⟨bh, 1, none⟩ = some (.int .i64 tx) := cell_blk hbh rfl
  have k2 : w.cell? ⟨bh, 2, none⟩ = some (.string ost) := cell_blk hbh rfl
  have k3 : w.cell? ⟨bh, 3, none⟩ = some (.int .i64 so) := cell_blk hbh rfl
  have k4 : w.cell? ⟨bh, 4, none⟩ = some (.bool hs) := cell_blk hbh rfl
  have hcall := zzread_any (w0 := w) h hF (by omega) hE it (Nat.le_of_lt hag.lt) hW hR t src ht hsrc kd tx ost so hs
  have HC : Hid _ := hcall
  have HX : Hid _ := And.intro hba (And.intro hwa (And.intro hla (And.intro hx.1 (And.intro hx.2 hd))))
  have HB : Hid _ := hb
  have HAG : Hid _ := hag
  have hlm : lim + 3 ≤ 6000003 := by omega
  clear hcall h hba hwa hla hx hd hb hag hW hR hsrc hF
  rw [tl4_38]
  refine wp_seq_k (fun K hK => ?_)
  conv => arg 2; whnf
  go_wp2_with fail
  refine Calls.mono HC.out ?_
  rintro e w2 ⟨rfl, hpost⟩
  obtain ⟨⟨tb', db', mi', N', vi', vr', vt', f', hV⟩, hK⟩ := read_again hpost HAG.out
  have hKB : Below B w w2 := hK.below hBF hBw
  have HV : Hid _ := hV
  have HK : Hid _ := hK
  have HKB : Hid _ := hKB
  clear hpost hV hK hKB HC k0 k1 k2 k3 k4 hbh
  go_wp2_with fail
  have hV := HV.out
  have hK := HK.out
  have hKB := HKB.out
  exact t39 _ _ _ _ _ _ _ _ _ _ _ _ _ _ _ _ _ _ _ _ _ _ _ _ _ _ _ _ _ _ _ _ _ _ _ _ _ _ _ _ _ _ _ _ _ _ _ _ _ _ _ _ _ _ _ _ _ _ _ _ _ _ _ _ _ _ _ _ _ _ _ _ _ _ _ _ _ _ _ _ _ _ _ _ _ _ _ _ _ _ _ _ _ _ _ _ _ _ _ _ _ _ _ _ _ _ _ _ _ _ _ _ _ _ _ _ _ _ _ _ _ _ _ _ _ _ _ _ _ _ _ _ _ _ _ _ _ _ _ _ _ _ _ _ _ _ _ _ _ _ _ _ _ _ _ _ _ _ _ _ _ _ _ _ _ _ _ _ _ _ _ _ _ _ _ _ _ _ _ _ _ _ _ _ _ _ _ _ _ _ _ _ _ _ _ _ _ _ _ _ _ _ _ _ _ _ _ _ _ _ _ _ _ _ _ _ _ _ _ _ _ _ _ _ _ _ _ _ _ _ _ _ _ _ _ _ _ _ _ _ _ _ _ _ _ _ _ _ _ _ _ _ _ _ _ _ _ _ _ _ _ _ _ _ _ _ _ _ _ _ _ _ _ _ _ _ _ _ _ _ _ _ _ _ _ _ _ _ _ _ _ _ _ _ _ _ _ _ _ _ _ _ _ _ _ _ _ _ _ _ _ _ _ _ _ _ _ _ _ _ _ _ _ _ _ _ _ _ _ _ _ _ _ _ _ _ _ _ _ _ _ _ _ _ _ _ _ _ _ _ _ _ _ _ _ _ _ _ _ _ _ _ _ _ _ _ _ _ _ _ _ _ _ _ _ _ _ _ _ _ _ _ _ _ _ _ _ _ _ _ _ _ _ _ _ _ _ _ _ _ _ _ _ _ _ _ _ _ _ _ _ _ _ _ _ _ _ _ _ _ _ _ _ _ _ _ _ _ _ _ _ _ _ _ _ _ _ _ _ _ _ _ _ _ _ _ _ _ _ _ _ _ _ _ _ _ _ _ _ _ _ _ _ _ _ _ _ _ _ _ _ _ _ _ _ _ _ _ _ _ _ _ _ _ _ _ _ _ _ _ _ _ _ _ _ _ _ _ _ _ _ _ _ _ _ _ _ _ _ _ _ _ _ _ _ _ _ _ _ _ _ _ _ _ _ _ _ _ _ _ _ _ _ _ _ _ _ _ _ _ _ _ _ _ _ _ _ _ _ _ _ _ _ _ _ _ _ _ _ _ _ _ _ _ _ _ _ hV (Nat.le_trans hlm (by omega)) (fun k hk => hK.cell nba (HX.out.1 k hk)) (hK.sl HX.out.2.1 nw) (hK.sl HX.out.2.2.1 nl) ⟨hK.sl HX.out.2.2.2.1 nt, hK.sl HX.out.2.2.2.2.1 np⟩ (hK.sl HX.out.2.2.2.2.2 nd) hzl hpw (dirty_again had) (HB.out.trans hKB) (Nat.le_trans hBw hK.size)

set_option maxRecDepth 100000 in
set_option maxHeartbeats 2000000 in
theorem t35 {w w0 : World} (F : Nat → Prop) (B cb tb db mi N lim : Nat) (vi vr vt : Value) (f : Int → Option Value) (ends : List Int) (out : Nat → Option OpC) (items reads : List (Int × Int)) (dm : Int → Option (List Int)) (src probe : Int) (ad1 : Bool) (ta : Option Addr) (tc : Nat) (pa : Option Addr) (pc : Nat) (wa : Option Addr) (wc : Nat) (la : Option Addr) (lc : Nat) (ba : Nat) (t : Int) (it : Nat) (bh : Nat) (kd tx : Int) (ost : ByteArray) (so : Int) (hs : Bool) (ia : Option Addr) (ic : Nat) (z0 : List Int) (h0 : Bool) (u0 u1 u6 u7 u8 u9 u10 u11 u12 u14 u15 u16 u17 u18 u19 u22 u26 u27 u28 u30 u33 u34 u35 u36 u37 u38 u42 u43 u44 u45 u46 u47 u48 u49 u50 u51 u52 u53 u54 u55 u56 u57 u58 u59 u60 u61 u62 u63 u64 u65 u66 u67 u68 u69 u70 u71 u72 u73 u74 u75 u76 u77 u78 u79 u80 u81 u82 u83 u84 u85 u86 u87 u88 u89 u90 u91 u92 u93 u94 u95 u96 u97 u98 u99 u100 u101 u102 u103 u104 u105 u106 u107 u108 u109 u110 u111 u112 u113 u114 u115 u116 u117 u118 u119 u120 u121 u122 u123 u124 u125 u126 u127 u128 u129 u130 u131 u132 u133 u134 u135 u136 u137 u138 u139 u140 u141 u142 u143 u144 u145 u146 u147 u148 u149 u150 u151 u152 u153 u154 u155 u156 u157 u158 u159 u160 u161 u162 u163 u164 u165 u166 u167 u168 u169 u170 u171 u172 u173 u174 u175 u176 u177 u178 u179 u180 u181 u182 u183 u184 u185 u186 u187 u188 u189 u190 u191 u192 u193 u194 u195 u196 u197 u198 u199 u200 u201 u202 u203 u204 u205 u206 u207 u208 u209 u210 u211 u212 u213 u214 u215 u216 u217 u218 u219 u220 u221 u222 u223 u224 u225 u226 u227 u228 u229 u230 u231 u232 u233 u234 u235 u236 u237 u238 u239 u240 u241 u242 u243 u244 u245 u246 u247 u248 u249 u250 u251 u252 u253 u254 u255 u256 u257 u258 u259 u260 u261 u262 u263 u264 u265 u266 u267 u268 u269 u270 u271 u272 u273 u274 u275 u276 u277 u278 u279 u280 u281 u282 u283 u284 u285 u286 u287 u288 u289 u290 u291 u292 u293 u294 u295 u296 u297 u298 u299 u300 u301 u302 u303 u304 u305 u306 u307 u308 u309 u310 u311 u312 u313 u314 u315 u316 u317 u318 u319 u320 u321 u322 u323 u324 u325 u326 u327 u328 u329 u330 u331 u332 u333 u334 u335 u336 u337 u338 u339 u340 u341 u342 u343 u344 u345 u346 u347 u348 u349 u350 u351 u352 u353 u354 u355 u356 u357 u358 u359 u360 u361 u362 u363 u364 u365 u366 u367 u368 u369 u370 u371 u372 u373 u374 u375 u376 u377 u378 u379 u380 u381 u382 u383 u384 u385 u386 u387 u388 u389 u390 u391 u392 u393 u394 u395 u396 u397 u398 u399 u400 u401 u402 u403 u404 u405 u406 u407 u408 u409 u410 u411 u412 u413 u414 u415 u416 u417 u418 u419 u420 u421 u422 u423 u424 u425 u426 u427 u428 u429 u430 u431 u432 u433 u434 u435 u436 u437 u438 u439 u440 u441 u442 u443 u444 u445 u446 u447 u448 u449 u450 u451 u452 u453 u454 u455 u456 u457 u458 u459 u460 u461 u462 u463 u464 u465 u466 u467 u468 u469 u470 u471 u472 u473 u474 u475 u476 u477 u478 u479 u480 u481 u482 u483 u484 u485 u486 u487 u488 u489 u490 u491 u492 u493 u494 u495 u496 u497 u498 u499 u500 u501 u502 u503 u504 u505 u506 u507 u508 u509 u510 u511 u512 u513 u514 u515 u516 u517 u518 u519 u520 u521 u522 u523 u524 u525 u526 u527 u528 u529 u530 u531 u532 u533 u534 u535 u536 u537 u538 u539 u540 u541 u542 u543 u544 u545 u546 : Value)
    (h : ClsV w F cb tb db mi N lim vi vr vt f ends out items reads dm) (hba : ∀ k, k < 4 → w.cell? ⟨ba, k, none⟩ = some (optr (out k))) (hwa : Sl w wa (ints (items.map Prod.fst))) (hla : Sl w la (ints (items.map Prod.snd))) (hx : Sl w ta (ints (reads.map Prod.fst)) ∧ Sl w pa (ints (reads.map Prod.snd))) (nw : ∀ x, wa = some x → ¬ F x.block) (nl : ∀ x, la = some x → ¬ F x.block) (nt : ∀ x, ta = some x → ¬ F x.block) (np : ∀ x, pa = some x → ¬ F x.block) (nba : ¬ F ba) (nbh : ¬ F bh) (vw : ∀ x, wa = some x → x.block < w.heap.size) (vl : ∀ x, la = some x → x.block < w.heap.size) (vt' : ∀ x, ta = some x → x.block < w.heap.size) (vp : ∀ x, pa = some x → x.block < w.heap.size) (vba : ba < w.heap.size) (hF : ∀ k, w.heap.size ≤ k → F k) (hl : lim ≤ 6000000) (hE : ends.length ≤ 1048576) (hW : ∀ i, i < items.length → (items.getD i (0, 0)).1 < ends.length) (hR : ∀ i, i < items.length → (items.getD i (0, 0)).2 < reads.length) (ht : (Lit.int .i32 t).wf = true) (hsrc : 0 ≤ src → src ≠ t → src < ends.length) (hag : Again ends out items reads it t src) (had : AdOK ad1 probe t (drt ends src t) (out 0)) (hbh : w.heap[bh]? = some (.cells (opc kd tx ost so hs).toArray 45 (0, 0))) (hi : Sl w ia (ints z0)) (hj0 : (ad1 = true ∧ dm probe = some (z0 ++ [src])) ∨ (ad1 = false ∧ (dm probe).isSome = h0 ∧ (dm probe).getD [] = z0)) (hz0 : z0.length ≤ 100000000) (hzl : ((dm probe).getD []).length ≤ 100000000) (hpw : (Lit.int .i32 probe).wf = true) (hb : Below B w0 w) (hBw : B ≤ w.heap.size) (hBF : ∀ k, k < B → ¬ F k) :
    Code.wp Try.prog (tl Try.f4 35) (QT Try.f4 B w0) ⟨#[u0, u1, .int .i32 t, .int .i32 it, .int .i32 src, .int .i32 probe, u6, u7, u8, u9, u10, u11, u12, .pointer (some ⟨cb, 0, none⟩), u14, u15, u16, u17, u18, u19, .slice ia z0.length ic, .bool h0, u22, .bool ad1, .pointer (some ⟨bh, 0, none⟩), .pointer (some ⟨ba, 0, none⟩), u26, u27, u28, .int .i64 items.length, u30, .slice wa items.length wc, .slice la items.length lc, u33, u34, u35, u36, u37, u38, .int .i64 reads.length, .slice ta reads.length tc, .slice pa reads.length pc, u42, u43, u44, u45, u46, u47, u48, u49, u50, u51, u52, u53, u54, u55, u56, u57, u58, u59, u60, u61, u62, u63, u64, u65, u66, u67, u68, u69, u70, u71, u72, u73, u74, u75, u76, u77, u78, u79, u80, u81, u82, u83, u84, u85, u86, u87, u88, u89, u90, u91, u92, u93, u94, u95, u96, u97, u98, u99, u100, u101, u102, u103, u104, u105, u106, u107, u108, u109, u110, u111, u112, u113, u114, u115, u116, u117, u118, u119, u120, u121, u122, u123, u124, u125, u126, u127, u128, u129, u130, u131, u132, u133, u134, u135, u136, u137, u138, u139, u140, u141, u142, u143, u144, u145, u146, u147, u148, u149, u150, u151, u152, u153, u154, u155, u156, u157, u158, u159, u160, u161, u162, u163, u164, u165, u166, u167, u168, u169, u170, u171, u172, u173, u174, u175, u176, u177, u178, u179, u180, u181, u182, u183, u184, u185, u186, u187, u188, u189, u190, u191, u192, u193, u194, u195, u196, u197, u198, u199, u200, u201, u202, u203, u204, u205, u206, u207, u208, u209, u210, u211, u212, u213, u214, u215, u216, u217, u218, u219, u220, u221, u222, u223, u224, u225, u226, u227, u228, u229, u230, u231, u232, u233, u234, u235, u236, u237, u238, u239, u240, u241, u242, u243, u244, u245, u246, u247, u248, u249, u250, u251, u252, u253, u254, u255, u256, u257, u258, u259, u260, u261, u262, u263, u264, u265, u266, u267, u268, u269, u270, u271, u272, u273, u274, u275, u276, u277, u278, u279, u280, u281, u282, u283, u284, u285, u286, u287, u288, u289, u290, u291, u292, u293, u294, u295, u296, u297, u298, u299, u300, u301, u302, u303, u304, u305, u306, u307, u308, u309, u310, u311, u312, u313, u314, u315, u316, u317, u318, u319, u320, u321, u322, u323, u324, u325, u326, u327, u328, u329, u330, u331, u332, u333, u334, u335, u336, u337, u338, u339, u340, u341, u342, u343, u344, u345, u346, u347, u348, u349, u350, u351, u352, u353, u354, u355, u356, u357, u358, u359, u360, u361, u362, u363, u364, u365, u366, u367, u368, u369, u370, u371, u372, u373, u374, u375, u376, u377, u378, u379, u380, u381, u382, u383, u384, u385, u386, u387, u388, u389, u390, u391, u392, u393, u394, u395, u396, u397, u398, u399, u400, u401, u402, u403, u404, u405, u406, u407, u408, u409, u410, u411, u412, u413, u414, u415, u416, u417, u418, u419, u420, u421, u422, u423, u424, u425, u426, u427, u428, u429, u430, u431, u432, u433, u434, u435, u436, u437, u438, u439, u440, u441, u442, u443, u444, u445, u446, u447, u448, u449, u450, u451, u452, u453, u454, u455, u456, u457, u458, u459, u460, u461, u462, u463, u464, u465, u466, u467, u468, u469, u470, u471, u472, u473, u474, u475, u476, u477, u478, u479, u480, u481, u482, u483, u484, u485, u486, u487, u488, u489, u490, u491, u492, u493, u494, u495, u496, u497, u498, u499, u500, u501, u502, u503, u504, u505, u506, u507, u508, u509, u510, u511, u512, u513, u514, u515, u516, u517, u518, u519, u520, u521, u522, u523, u524, u525, u526, u527, u528, u529, u530, u531, u532, u533, u534, u535, u536, u537, u538, u539, u540, u541, u542, u543, u544, u545, u546], []⟩ w := by
  have hcall := dirtyAt_any h probe hpw
  have vbh : bh < w.heap.size := (Array.getElem?_eq_some_iff.1 hbh).1
  have hgot : ∃ o cp, (f probe).getD (.slice none 0 0) = .slice o ((dm probe).getD []).length cp ∧ Sl w o (ints ((dm probe).getD [])) ∧ (f probe).isSome = (dm probe).isSome := by
    cases hf : f probe with
    | none =>
      have := h.non probe hf
      exact ⟨none, 0, by rw [this]; rfl, by rw [this]; exact Sl.nil _ _, by rw [this]; rfl⟩
    | some v =>
      obtain ⟨zs, h1, h2, _⟩ := h.grp probe v hf
      obtain ⟨o, cp, rfl⟩ := row_shape h2
      exact ⟨o, cp, by rw [h1]; rfl, by rw [h1]; exact sl_of_row h2, by rw [h1]; rfl⟩
  obtain ⟨o, cp, e1, hsl, e3⟩ := hgot
  rw [e1, e3] at hcall
  have hcp := copyInts_any o cp ((dm probe).getD []) w hsl (by omega)
  have HCALL : Hid _ := hcall
  have HCP : Hid _ := hcp
  have HV : Hid _ := h
  have HJ : Hid _ := hj0
  have HB : Hid _ := hb
  have HI : Hid _ := hi
  have HX : Hid _ := And.intro hba (And.intro hwa (And.intro hla (And.intro hx.1 hx.2)))
  have HAD : Hid (AdOK ad1 probe t (drt ends src t) (out 0)) := had
  clear had
  clear hcall hcp h hj0 hb hi hba hwa hla hx e1 e3 hsl
  generalize hzA : (dm probe).getD [] = zA at *
  generalize hhA : (dm probe).isSome = hasA at *
  rw [tl4_35]
  refine wp_seq_k (fun K hK => ?_)
  conv => arg 2; whnf
  go_wp2_with fail
  refine Calls.mono HCALL.out ?_
  rintro e w1 ⟨rfl, hw1⟩
  have hw1 := hw1.symm
  subst hw1
  clear HCALL
  go_wp2_with fail
  rw [tl4_36]
  refine wp_seq_k (fun K hK => ?_)
  conv => arg 2; whnf
  go_wp2_with fail
  refine Calls.mono HCP.out ?_
  rintro e w2 ⟨o2, cp2, rfl, hown, hb2⟩
  have HOWN : Hid _ := hown
  have HB2 : Hid _ := hb2
  clear hown hb2 HCP
  go_wp2_with fail
  rw [tl4_37]
  refine wp_seq_k (fun K hK => ?_)
  conv => arg 2; whnf
  rcases HJ.out with ⟨rfl, h1⟩ | ⟨rfl, h1, h2⟩
  · have hgot : zA = z0 ++ [src] := by rw [← hzA, h1]; rfl
    have hhas : hasA = true := by rw [← hhA, h1]; rfl
    subst hhas
    have hc2 := isAppend_add o2 cp2 zA ia ic z0 h0 src w2 (sl_of_row HOWN.out) (Sl.below HI.out HB2.out) hz0 hgot
    clear hgot h1 HJ
    have HC2 : Hid _ := hc2
    clear hc2
    go_wp2_with fail
    refine Calls.mono HC2.out ?_
    rintro e w3 ⟨rfl, hb3⟩
    have hb13 := HB2.out.trans (hb3.mono HB2.out.size)
    have HB13 : Hid _ := hb13
    have HV3 : Hid _ := HV.out.fx hb13
    have HD3 : Hid _ := (sl_of_row HOWN.out).below hb3
    have HN3 : Hid (∀ x, o2 = some x → ¬ FX F w.heap.size w3.heap.size x.block) := fun x hx => by
      have := HOWN.out
      rw [hx] at this
      have h2 := row_ge this
      exact FX.mid h2.1 (Nat.lt_of_lt_of_le h2.2 hb3.size)
    clear hb3 hb13 HC2
    go_wp2_with fail
    exact t38 _ _ _ _ _ _ _ _ _ _ _ _ _ _ _ _ _ _ _ _ _ _ _ _ _ _ _ _ _ _ _ _ _ _ _ _ _ _ _ _ _ _ _ _ _ _ _ _ _ _ _ _ _ _ _ _ _ _ _ _ _ _ _ _ _ _ _ _ _ _ _ _ _ _ _ _ _ _ _ _ _ _ _ _ _ _ _ _ _ _ _ _ _ _ _ _ _ _ _ _ _ _ _ _ _ _ _ _ _ _ _ _ _ _ _ _ _ _ _ _ _ _ _ _ _ _ _ _ _ _ _ _ _ _ _ _ _ _ _ _ _ _ _ _ _ _ _ _ _ _ _ _ _ _ _ _ _ _ _ _ _ _ _ _ _ _ _ _ _ _ _ _ _ _ _ _ _ _ _ _ _ _ _ _ _ _ _ _ _ _ _ _ _ _ _ _ _ _ _ _ _ _ _ _ _ _ _ _ _ _ _ _ _ _ _ _ _ _ _ _ _ _ _ _ _ _ _ _ _ _ _ _ _ _ _ _ _ _ _ _ _ _ _ _ _ _ _ _ _ _ _ _ _ _ _ _ _ _ _ _ _ _ _ _ _ _ _ _ _ _ _ _ _ _ _ _ _ _ _ _ _ _ _ _ _ _ _ _ _ _ _ _ _ _ _ _ _ _ _ _ _ _ _ _ _ _ _ _ _ _ _ _ _ _ _ _ _ _ _ _ _ _ _ _ _ _ _ _ _ _ _ _ _ _ _ _ _ _ _ _ _ _ _ _ _ _ _ _ _ _ _ _ _ _ _ _ _ _ _ _ _ _ _ _ _ _ _ _ _ _ _ _ _ _ _ _ _ _ _ _ _ _ _ _ _ _ _ _ _ _ _ _ _ _ _ _ _ _ _ _ _ _ _ _ _ _ _ _ _ _ _ _ _ _ _ _ _ _ _ _ _ _ _ _ _ _ _ _ _ _ _ _ _ _ _ _ _ _ _ _ _ _ _ _ _ _ _ _ _ _ _ _ _ _ _ _ _ _ _ _ _ _ _ _ _ _ _ _ _ _ _ _ _ _ _ _ _ _ _ _ _ _ _ _ _ _ _ _ _ _ _ _ _ _ _ _ _ _ _ _ _ _ _ _ _ _ _ _ _ _ _ _ _ _ _ _ _ _ _ _ _ _ _ _ _ _ _ _ _ _ _ _ _ _ _ _ _ _ _ _ _ _ _ _ _ _ _ _ _ _ _ _ _ _ _ _ _ _ _ _ _ _ _ _ _ _ _ _ _ _ _ _ HV3.out hhA hzA (fun k hk => cell_later HB13.out (HX.out.1 k hk)) (Sl.below HX.out.2.1 HB13.out) (Sl.below HX.out.2.2.1 HB13.out) ⟨Sl.below HX.out.2.2.2.1 HB13.out, Sl.below HX.out.2.2.2.2 HB13.out⟩ (FX.sl nw vw HB13.out.size) (FX.sl nl vl HB13.out.size) (FX.sl nt vt' HB13.out.size) (FX.sl np vp HB13.out.size) (FX.old nba (Nat.lt_of_lt_of_le vba HB13.out.size)) (FX.old nbh (Nat.lt_of_lt_of_le vbh HB13.out.size)) FX.new hl hE hW hR ht hsrc hag HAD.out (blk_kept (grown_of_below HB13.out) hbh (by simp)) (by rw [hzA]; exact HD3.out) HN3.out (by rw [hzA]; exact hzl) hpw (HB.out.trans (HB13.out.mono hBw)) (Nat.le_trans hBw HB13.out.size) (fun k hk => FX.old (hBF k hk) (Nat.lt_of_lt_of_le hk (Nat.le_trans hBw HB13.out.size)))
  · have hgot : zA = z0 := h2
    have hhas : hasA = h0 := h1
    subst hhas
    subst hgot
    have hc2 := isAppend_same o2 cp2 ia ic zA hasA src w2 (sl_of_row HOWN.out) (Sl.below HI.out HB2.out) hzl
    clear h1 h2 HJ
    have HC2 : Hid _ := hc2
    clear hc2
    go_wp2_with fail
    refine Calls.mono HC2.out ?_
    rintro e w3 ⟨rfl, hb3⟩
    have hb13 := HB2.out.trans (hb3.mono HB2.out.size)
    have HB13 : Hid _ := hb13
    have HV3 : Hid _ := HV.out.fx hb13
    have HD3 : Hid _ := (sl_of_row HOWN.out).below hb3
    have HN3 : Hid (∀ x, o2 = some x → ¬ FX F w.heap.size w3.heap.size x.block) := fun x hx => by
      have := HOWN.out
      rw [hx] at this
      have h2 := row_ge this
      exact FX.mid h2.1 (Nat.lt_of_lt_of_le h2.2 hb3.size)
    clear hb3 hb13 HC2
    go_wp2_with fail
    exact t38 _ _ _ _ _ _ _ _ _ _ _ _ _ _ _ _ _ _ _ _ _ _ _ _ _ _ _ _ _ _ _ _ _ _ _ _ _ _ _ _ _ _ _ _ _ _ _ _ _ _ _ _ _ _ _ _ _ _ _ _ _ _ _ _ _ _ _ _ _ _ _ _ _ _ _ _ _ _ _ _ _ _ _ _ _ _ _ _ _ _ _ _ _ _ _ _ _ _ _ _ _ _ _ _ _ _ _ _ _ _ _ _ _ _ _ _ _ _ _ _ _ _ _ _ _ _ _ _ _ _ _ _ _ _ _ _ _ _ _ _ _ _ _ _ _ _ _ _ _ _ _ _ _ _ _ _ _ _ _ _ _ _ _ _ _ _ _ _ _ _ _ _ _ _ _ _ _ _ _ _ _ _ _ _ _ _ _ _ _ _ _ _ _ _ _ _ _ _ _ _ _ _ _ _ _ _ _ _ _ _ _ _ _ _ _ _ _ _ _ _ _ _ _ _ _ _ _ _ _ _ _ _ _ _ _ _ _ _ _ _ _ _ _ _ _ _ _ _ _ _ _ _ _ _ _ _ _ _ _ _ _ _ _ _ _ _ _ _ _ _ _ _ _ _ _ _ _ _ _ _ _ _ _ _ _ _ _ _ _ _ _ _ _ _ _ _ _ _ _ _ _ _ _ _ _ _ _ _ _ _ _ _ _ _ _ _ _ _ _ _ _ _ _ _ _ _ _ _ _ _ _ _ _ _ _ _ _ _ _ _ _ _ _ _ _ _ _ _ _ _ _ _ _ _ _ _ _ _ _ _ _ _ _ _ _ _ _ _ _ _ _ _ _ _ _ _ _ _ _ _ _ _ _ _ _ _ _ _ _ _ _ _ _ _ _ _ _ _ _ _ _ _ _ _ _ _ _ _ _ _ _ _ _ _ _ _ _ _ _ _ _ _ _ _ _ _ _ _ _ _ _ _ _ _ _ _ _ _ _ _ _ _ _ _ _ _ _ _ _ _ _ _ _ _ _ _ _ _ _ _ _ _ _ _ _ _ _ _ _ _ _ _ _ _ _ _ _ _ _ _ _ _ _ _ _ _ _ _ _ _ _ _ _ _ _ _ _ _ _ _ _ _ _ _ _ _ _ _ _ _ _ _ _ _ _ _ _ _ _ _ _ _ _ _ _ _ _ _ _ _ _ _ _ _ _ _ _ _ _ _ _ _ _ _ _ _ _ _ _ _ _ _ _ _ _ _ _ _ _ _ _ _ _ _ _ _ _ _ _ _ _ _ HV3.out hhA hzA (fun k hk => cell_later HB13.out (HX.out.1 k hk)) (Sl.below HX.out.2.1 HB13.out) (Sl.below HX.out.2.2.1 HB13.out) ⟨Sl.below HX.out.2.2.2.1 HB13.out, Sl.below HX.out.2.2.2.2 HB13.out⟩ (FX.sl nw vw HB13.out.size) (FX.sl nl vl HB13.out.size) (FX.sl nt vt' HB13.out.size) (FX.sl np vp HB13.out.size) (FX.old nba (Nat.lt_of_lt_of_le vba HB13.out.size)) (FX.old nbh (Nat.lt_of_lt_of_le vbh HB13.out.size)) FX.new hl hE hW hR ht hsrc hag HAD.out (blk_kept (grown_of_below HB13.out) hbh (by simp)) (by rw [hzA]; exact HD3.out) HN3.out (by rw [hzA]; exact hzl) hpw (HB.out.trans (HB13.out.mono hBw)) (Nat.le_trans hBw HB13.out.size) (fun k hk => FX.old (hBF k hk) (Nat.lt_of_lt_of_le hk (Nat.le_trans hBw HB13.out.size)))

end Go.Proofs.Qxb6625890a
