/-
  Seat b6626314a: the law of the conflicts: the walk.
-/
import Derived.Test.Qxb6626314aZG
namespace Go.Proofs.Qxb6626314a
open Go.RowKit Go.Maps Go.Sort
set_option linter.unusedVariables false
set_option linter.unusedSimpArgs false

theorem made_ints {w : World} {base g n : Nat} (h : w.ownsRow base 3 1 (.slice (some ⟨g, 0, none⟩) n n) n (madeCells (Value.int .i64 0).cells (n * 1)).toList) : BI w g (List.replicate n 0) := by
  obtain ⟨r1, r2⟩ := row_block h
  rw [made1 _ _ rfl] at r1
  unfold BI
  rw [r1]
  simp [int64s]
theorem lq_zero (n : Nat) : Lq (List.replicate n 0) 0 := fun k hk => by
  rw [List.length_replicate] at hk
  simp [hk]
/-- The indices, filled up to q. -/
structure IF (w1 : World) (gi : Nat) (G ab : List Int) (A : List Ac) (q : Nat) (w : World) : Prop where
  x : ∃ l : List Int, w.heap[gi]? = some (.cells (ints l).toArray 21 (0, 0)) ∧ l.length = A.length ∧ ∀ i, i < q → l.getD i 0 = (idxA G ab A).getD i 0
  l : w1.heap.size ≤ gi
  b : Below w1.heap.size w1 w
theorem IF.below {w1 : World} {gi : Nat} {G ab : List Int} {A : List Ac} {q : Nat} {w w' : World} (h : IF w1 gi G ab A q w) (hb : Below w.heap.size w w') : IF w1 gi G ab A q w' := by
  obtain ⟨l, a, c⟩ := h.x
  exact ⟨⟨l, blk_below hb a, c⟩, h.l, h.b.trans (hb.mono h.b.size)⟩
theorem IF.put {w1 : World} {gi : Nat} {G ab : List Int} {A : List Ac} {q : Nat} {w : World} (h : IF w1 gi G ab A q w) (hq : q < A.length) (v : Int) (hv : (idxA G ab A).getD q 0 = v) : IF w1 gi G ab A (q + 1) (w.setCell ⟨gi, q, none⟩ (.int .i32 v)) := by
  obtain ⟨l, a, c, d⟩ := h.x
  refine ⟨⟨l.set q v, ?_, by simp [c], fun i hi => ?_⟩, h.l, h.b.setCell h.l _⟩
  · rw [blk_set (i := q) (.int .i32 v) a]
    simp [ints]
  · by_cases e : i = q
    · subst e; rw [hv]; simp [c, hq]
    · have := d i (by omega)
      rw [← this]
      simp [Ne.symm e]
theorem IF.cell {w1 : World} {gi : Nat} {G ab : List Int} {A : List Ac} {q : Nat} {w : World} (h : IF w1 gi G ab A q w) (hq : q < A.length) : (∃ v, w.cell? ⟨gi, q, none⟩ = some v) ∧ w.frozen? ⟨gi, q, none⟩ = false := by
  obtain ⟨l, a, c, d⟩ := h.x
  exact ⟨⟨_, cell_blk a (v := .int .i32 (l.getD q 0)) (by simp [ints, c, hq])⟩, frz_blk a q⟩
theorem IF.fin {w1 : World} {gi : Nat} {G ab : List Int} {A : List Ac} {w : World} (h : IF w1 gi G ab A A.length w) : w.heap[gi]? = some (.cells (ints (idxA G ab A)).toArray 21 (0, 0)) := by
  obtain ⟨l, a, c, d⟩ := h.x
  have : l = idxA G ab A := by
    apply List.ext_getElem?
    intro i
    by_cases hi : i < A.length
    · have := d i hi
      rw [List.getD_eq_getElem?_getD, List.getD_eq_getElem?_getD, List.getElem?_eq_getElem (by omega), List.getElem?_eq_getElem (by rw [idxA_len]; exact hi)] at this
      rw [List.getElem?_eq_getElem (by omega), List.getElem?_eq_getElem (by rw [idxA_len]; exact hi)]
      simpa using this
    · rw [List.getElem?_eq_none (by omega), List.getElem?_eq_none (by rw [idxA_len]; omega)]
  rw [a, this]

set_option maxRecDepth 100000 in
set_option maxHeartbeats 4000000 in
theorem l22 {w0 w1 w : World} {oa og ob : Option Addr} {ca cg gs m : Nat} {A : List Ac} {T X G ab : List Int} {succ : Nat → List Int} {gi : Nat} (u1 u2 u3 u4 u5 u6 u7 u8 u9 u10 u12 u14 u15 u16 u17 u18 u19 u20 u21 u22 u24 u25 u26 u27 u28 u29 u30 u31 u32 u33 u34 u35 u36 u37 u38 u39 u40 u41 u42 u43 u44 u45 u46 u47 u48 u49 u50 u51 u52 u53 u54 u55 u56 u57 u58 u59 u60 u61 u62 u63 u64 u65 u66 u67 u68 u69 u70 u71 u72 u73 u74 u75 u76 u77 u78 u79 u80 u81 u82 u83 u84 u85 u86 u87 u88 u89 u90 u91 u92 u93 u94 u95 u96 u97 u98 u99 u100 u101 u102 u103 u104 u105 u106 u107 u108 u109 u110 u111 u112 u113 u114 u115 u116 u117 u118 u119 u120 u121 u122 u123 u124 u125 u126 u127 u128 u129 u130 u131 u132 u133 u134 u135 u136 u137 u138 u139 u140 u141 u142 u143 u144 u145 u146 u147 u148 u149 u150 u151 u152 u153 u154 u155 u156 u157 u158 u159 u160 u161 u162 u163 u164 u165 u166 u167 u168 u169 u170 u171 u172 u173 u174 u175 u176 u177 u178 u179 u180 u181 u182 u183 u184 u185 u186 u187 u188 u189 u190 u191 u192 u193 u194 u195 u196 u197 u198 u199 u200 u201 u202 u203 u204 u205 u206 u207 u208 u209 u210 u211 u212 u213 u214 u215 u216 u217 u218 u219 u220 u221 u222 u223 u224 u225 u226 u227 u228 u229 u230 u231 u232 u233 u234 u235 u236 u237 u238 u239 u240 u241 u242 u243 u244 u245 u246 u247 u248 u249 u250 u251 u252 u253 u254 u255 u256 u257 u258 u259 u260 u261 u262 u263 u264 u265 u266 u267 : Value)
    (HL : Hid (L4 w0 w1 oa og ob gs m A T X G ab succ)) (HF : Hid (IF w1 gi G ab A A.length w)) :
    Code.wp Try.prog (tl Try.f4 22) (bodyPost Try.prog Try.f4 (fun e w' => e = .returned (.bool true) ∧ Below w0.heap.size w0 w')) ⟨#[.slice oa A.length ca, u1, u2, u3, u4, u5, u6, u7, u8, u9, u10, .slice og G.length cg, u12, .slice (some ⟨gs, 0, none⟩) G.length G.length, u14, u15, u16, u17, u18, u19, u20, u21, u22, .slice (some ⟨gi, 0, none⟩) A.length A.length, u24, u25, u26, u27, u28, u29, u30, u31, u32, u33, u34, u35, u36, u37, u38, u39, u40, u41, u42, u43, u44, u45, u46, u47, u48, u49, u50, u51, u52, u53, u54, u55, u56, u57, u58, u59, u60, u61, u62, u63, u64, u65, u66, u67, u68, u69, u70, u71, u72, u73, u74, u75, u76, u77, u78, u79, u80, u81, u82, u83, u84, u85, u86, u87, u88, u89, u90, u91, u92, u93, u94, u95, u96, u97, u98, u99, u100, u101, u102, u103, u104, u105, u106, u107, u108, u109, u110, u111, u112, u113, u114, u115, u116, u117, u118, u119, u120, u121, u122, u123, u124, u125, u126, u127, u128, u129, u130, u131, u132, u133, u134, u135, u136, u137, u138, u139, u140, u141, u142, u143, u144, u145, u146, u147, u148, u149, u150, u151, u152, u153, u154, u155, u156, u157, u158, u159, u160, u161, u162, u163, u164, u165, u166, u167, u168, u169, u170, u171, u172, u173, u174, u175, u176, u177, u178, u179, u180, u181, u182, u183, u184, u185, u186, u187, u188, u189, u190, u191, u192, u193, u194, u195, u196, u197, u198, u199, u200, u201, u202, u203, u204, u205, u206, u207, u208, u209, u210, u211, u212, u213, u214, u215, u216, u217, u218, u219, u220, u221, u222, u223, u224, u225, u226, u227, u228, u229, u230, u231, u232, u233, u234, u235, u236, u237, u238, u239, u240, u241, u242, u243, u244, u245, u246, u247, u248, u249, u250, u251, u252, u253, u254, u255, u256, u257, u258, u259, u260, u261, u262, u263, u264, u265, u266, u267], []⟩ w := by
  have hA : A.length ≤ 4096 := HL.out.lA
  have hG : G.length ≤ 12288 := HL.out.lG
  obtain ⟨i3, hi3, hz3, hy3, hx3⟩ := info_parts Try.info3
  obtain ⟨i21, hi21, hz21, hy21, hx21⟩ := info_parts Try.info21
  have hsz : w1.heap.size ≤ w.heap.size := HF.out.b.size
  rw [tl4_22]
  refine wp_seq_k (fun K hK => ?_)
  conv => arg 2; whnf
  go_wp2_with (at_make; go_must (refine wpList_make_full _ rfl _ _ 35 rfl w1.heap.size 3 i3 (.int .i64 0) 1 Try.underlying35 hi3 hz3 hy3 .i64 .i64 _ _ G.length rfl rfl rfl rfl (by rw [hx3]; omega) (by unfold maxLen; omega) hsz ?_; intro wa howna hgrowa))
  have hba := below_of_grown hgrowa
  have HA : Hid (BI wa w.heap.size (List.replicate G.length 0) ∧ IF w1 gi G ab A A.length wa) := ⟨made_ints howna, HF.out.below hba⟩
  have hsza : w1.heap.size ≤ wa.heap.size := HA.out.2.b.size
  have HGS : Hid (w1.heap.size ≤ w.heap.size) := hsz
  generalize w.heap.size = ge at HA HGS ⊢
  clear howna hgrowa hba HF hsz
  rw [tl4_23]
  refine wp_seq_k (fun K hK => ?_)
  conv => arg 2; whnf
  go_wp2_with (at_make; go_must (refine wpList_make_own _ rfl _ _ 44 rfl w1.heap.size 21 i21 (.int .i32 0) 1 Try.underlying44 hi21 hz21 hy21 .i64 .i64 _ G.length rfl rfl rfl (by rw [hx21]; omega) (by unfold maxLen; omega) hsza ?_; intro wb hownb hgrowb))
  have hbb := below_of_grown hgrowb
  have HLB : Hid (∃ SE, LB w1 gi ge G.length (idxA G ab A) 0 SE (some ⟨wa.heap.size, 0, none⟩) 0 G.length wb) := by
    have hF := HA.out.2.below hbb
    refine ⟨_, hF.fin, HA.out.1.below hbb, by simp, by simpa using lq_zero G.length, HGS.out, ⟨_, _, hownb⟩, fun e => ?_, hF.b⟩
    have h1 := (Array.getElem?_eq_some_iff.1 HA.out.2.fin).1
    simp [Value.ownBlock] at e
    omega
  clear hownb hgrowb hbb HA hsza
  rw [tl4_24]
  refine wp_seq_k (fun K hK => ?_)
  conv => arg 2; whnf
  go_wp2_with fail
  exact l25 _ _ _ _ _ _ _ _ _ _ _ _ _ _ _ _ _ _ _ _ _ _ _ _ _ _ _ _ _ _ _ _ _ _ _ _ _ _ _ _ _ _ _ _ _ _ _ _ _ _ _ _ _ _ _ _ _ _ _ _ _ _ _ _ _ _ _ _ _ _ _ _ _ _ _ _ _ _ _ _ _ _ _ _ _ _ _ _ _ _ _ _ _ _ _ _ _ _ _ _ _ _ _ _ _ _ _ _ _ _ _ _ _ _ _ _ _ _ _ _ _ _ _ _ _ _ _ _ _ _ _ _ _ _ _ _ _ _ _ _ _ _ _ _ _ _ _ _ _ _ _ _ _ _ _ _ _ _ _ _ _ _ _ _ _ _ _ _ _ _ _ _ _ _ _ _ _ _ _ _ _ _ _ _ _ _ _ _ _ _ _ _ _ _ _ _ _ _ _ _ _ _ _ _ _ _ _ _ _ _ _ _ _ _ _ _ _ _ _ _ _ _ _ _ _ _ _ _ _ _ _ _ _ _ _ _ _ _ _ _ _ _ _ _ _ _ _ _ _ _ _ _ _ _ _ _ _ _ _ _ _ HL HLB

set_option maxRecDepth 100000 in
set_option maxHeartbeats 4000000 in
theorem l20 {w0 w1 w : World} {oa og ob : Option Addr} {ca cg cb gs m : Nat} {A : List Ac} {T X G ab : List Int} {succ : Nat → List Int} (u1 u2 u3 u4 u5 u6 u7 u8 u9 u10 u14 u15 u16 u17 u18 u19 u20 u21 u22 u23 u24 u25 u26 u27 u28 u29 u30 u31 u32 u33 u34 u35 u36 u37 u38 u39 u40 u41 u42 u43 u44 u45 u46 u47 u48 u49 u50 u51 u52 u53 u54 u55 u56 u57 u58 u59 u60 u61 u62 u63 u64 u65 u66 u67 u68 u69 u70 u71 u72 u73 u74 u75 u76 u77 u78 u79 u80 u81 u82 u83 u84 u85 u86 u87 u88 u89 u90 u91 u92 u93 u94 u95 u96 u97 u98 u99 u100 u101 u102 u103 u104 u105 u106 u107 u108 u109 u110 u111 u112 u113 u114 u115 u116 u117 u118 u119 u120 u121 u122 u123 u124 u125 u126 u127 u128 u129 u130 u131 u132 u133 u134 u135 u136 u137 u138 u139 u140 u141 u142 u143 u144 u145 u146 u147 u148 u149 u150 u151 u152 u153 u154 u155 u156 u157 u158 u159 u160 u161 u162 u163 u164 u165 u166 u167 u168 u169 u170 u171 u172 u173 u174 u175 u176 u177 u178 u179 u180 u181 u182 u183 u184 u185 u186 u187 u188 u189 u190 u191 u192 u193 u194 u195 u196 u197 u198 u199 u200 u201 u202 u203 u204 u205 u206 u207 u208 u209 u210 u211 u212 u213 u214 u215 u216 u217 u218 u219 u220 u221 u222 u223 u224 u225 u226 u227 u228 u229 u230 u231 u232 u233 u234 u235 u236 u237 u238 u239 u240 u241 u242 u243 u244 u245 u246 u247 u248 u249 u250 u251 u252 u253 u254 u255 u256 u257 u258 u259 u260 u261 u262 u263 u264 u265 u266 u267 : Value)
    (HL : Hid (L4 w0 w1 oa og ob gs m A T X G ab succ)) (HB : Hid (Below w1.heap.size w1 w)) :
    Code.wp Try.prog (tl Try.f4 20) (bodyPost Try.prog Try.f4 (fun e w' => e = .returned (.bool true) ∧ Below w0.heap.size w0 w')) ⟨#[.slice oa A.length ca, u1, u2, u3, u4, u5, u6, u7, u8, u9, u10, .slice og G.length cg, .slice ob ab.length cb, .slice (some ⟨gs, 0, none⟩) G.length G.length, u14, u15, u16, u17, u18, u19, u20, u21, u22, u23, u24, u25, u26, u27, u28, u29, u30, u31, u32, u33, u34, u35, u36, u37, u38, u39, u40, u41, u42, u43, u44, u45, u46, u47, u48, u49, u50, u51, u52, u53, u54, u55, u56, u57, u58, u59, u60, u61, u62, u63, u64, u65, u66, u67, u68, u69, u70, u71, u72, u73, u74, u75, u76, u77, u78, u79, u80, u81, u82, u83, u84, u85, u86, u87, u88, u89, u90, u91, u92, u93, u94, u95, u96, u97, u98, u99, u100, u101, u102, u103, u104, u105, u106, u107, u108, u109, u110, u111, u112, u113, u114, u115, u116, u117, u118, u119, u120, u121, u122, u123, u124, u125, u126, u127, u128, u129, u130, u131, u132, u133, u134, u135, u136, u137, u138, u139, u140, u141, u142, u143, u144, u145, u146, u147, u148, u149, u150, u151, u152, u153, u154, u155, u156, u157, u158, u159, u160, u161, u162, u163, u164, u165, u166, u167, u168, u169, u170, u171, u172, u173, u174, u175, u176, u177, u178, u179, u180, u181, u182, u183, u184, u185, u186, u187, u188, u189, u190, u191, u192, u193, u194, u195, u196, u197, u198, u199, u200, u201, u202, u203, u204, u205, u206, u207, u208, u209, u210, u211, u212, u213, u214, u215, u216, u217, u218, u219, u220, u221, u222, u223, u224, u225, u226, u227, u228, u229, u230, u231, u232, u233, u234, u235, u236, u237, u238, u239, u240, u241, u242, u243, u244, u245, u246, u247, u248, u249, u250, u251, u252, u253, u254, u255, u256, u257, u258, u259, u260, u261, u262, u263, u264, u265, u266, u267], []⟩ w := by
  have hA : A.length ≤ 4096 := HL.out.lA
  have hG : G.length ≤ 12288 := HL.out.lG
  have hab : ab.length ≤ 4096 := HL.out.lb
  obtain ⟨i21, hi21, hz21, hy21, hx21⟩ := info_parts Try.info21
  have hsz : w1.heap.size ≤ w.heap.size := HB.out.size
  rw [tl4_20]
  refine wp_seq_k (fun K hK => ?_)
  conv => arg 2; whnf
  go_wp2_with (at_make; go_must (refine wpList_make_full _ rfl _ _ 44 rfl w1.heap.size 21 i21 (.int .i32 0) 1 Try.underlying44 hi21 hz21 hy21 .i64 .i64 _ _ A.length rfl rfl rfl rfl (by rw [hx21]; omega) (by unfold maxLen; omega) hsz ?_; intro wa howna hgrowa))
  have hba := below_of_grown hgrowa
  have HF0 : Hid (IF w1 w.heap.size G ab A 0 wa) := by
    obtain ⟨r1, r2⟩ := row_block howna
    rw [made1 _ _ rfl] at r1
    refine ⟨⟨List.replicate A.length 0, ?_, by simp, fun i hi => absurd hi (by omega)⟩, hsz, HB.out.trans (hba.mono hsz)⟩
    rw [r1]; simp [ints]
  generalize w.heap.size = gi at HF0 ⊢
  clear howna hgrowa hba HB hsz
  rw [tl4_21]
  refine wp_seq_k (fun K hK => ?_)
  conv => arg 2; whnf
  go_wp2_with fail
  go_loopw [152] (fun vq wr => ∃ q : Nat, vq = .int .i64 q ∧ q ≤ A.length ∧ Hid (IF w1 gi G ab A q wr)) (fun vq _ => A.length - (intOf vq).toNat)
  case atStart => exact ⟨0, rfl, Nat.zero_le _, HF0⟩
  case round =>
    clear HF0
    obtain ⟨q, rfl, hq, HO⟩ := hrel
    by_cases hql : q < A.length
    · have hql' : (q : Int) < (A.length : Int) := by omega
      obtain ⟨b, off, hoa, c0, c1, c2⟩ := acc_cell (HL.out.sa.below HO.out.b) hql
      have hix := HL.out.ix hql
      generalize hgd : A.getD q a0 = gd at c0 c1 c2 hix
      obtain ⟨w2, hw2⟩ : ∃ w2, w2 = wr.alloc (.cells #[.int .i64 gd.tx, .int .i32 gd.item, .bool gd.wr] 37) := ⟨_, rfl⟩
      have hb2 : Below wr.heap.size wr w2 := by rw [hw2]; exact (Below.refl _ _).alloc (Nat.le_refl _) _
      have hblk2 : w2.heap[wr.heap.size]? = some (.cells #[.int .i64 gd.tx, .int .i32 gd.item, .bool gd.wr] 37 (0, 0)) := by rw [hw2]; exact heap_alloc_new wr _
      have k0 : w2.cell? ⟨wr.heap.size, 0, none⟩ = some (.int .i64 gd.tx) := cell_blk hblk2 rfl
      have HO2 : Hid _ := HO.out.below hb2
      obtain ⟨⟨v0, cv⟩, fv⟩ := HO2.out.cell hql
      have HW2 : Hid (w2 = wr.alloc (.cells #[.int .i64 gd.tx, .int .i32 gd.item, .bool gd.wr] 37)) := hw2
      have HF1 : Hid _ := find_any ob cb ab gd.tx w2 (HL.out.sb.below HO2.out.b) HL.out.abs (by omega)
      have HF2 : Hid _ := find_any og cg G gd.tx w2 (HL.out.sg.below HO2.out.b) (HL.out.gp.1.imp (fun h => by omega)) (by omega)
      subst hoa
      clear hw2 hb2 hblk2 HO hgd
      go_upto_region 49 with fail
      rw [← HW2.out]
      clear HW2 c0 c1 c2
      generalize wr.heap.size = b9 at k0 ⊢
      rcases hix with ⟨hx1, hx2⟩ | ⟨hx1, hGi, si, hsi, hsi2, hx2⟩
      · obtain ⟨kk, hkk, _⟩ := fnd_in hx1
        rw [hkk] at HF1
        have HZ : Hid (IF w1 gi G ab A (q + 1) (w2.setCell ⟨gi, q, none⟩ (.int .i32 (-1)))) := HO2.out.put hql (-1) hx2
        clear hx1 hx2 hkk HF2
        go_wp2_with fail
        refine Calls.mono HF1.out ?_
        rintro e w4 ⟨rfl, hw4⟩
        subst hw4
        go_wp2_with fail
        go_roundw
        case rel => exact ⟨q + 1, by go_num, by omega, HZ⟩
        case measure => simp [intOf]; omega
      · have hab1 : fnd ab gd.tx = -1 := fnd_out hx1
        rw [hab1] at HF1
        have hG1 : fnd G gd.tx = si := by rw [hsi2]; simp [fnd, hGi]
        rw [hG1] at HF2
        have HZ : Hid (IF w1 gi G ab A (q + 1) (w2.setCell ⟨gi, q, none⟩ (.int .i32 si))) := HO2.out.put hql si hx2
        clear hx1 hx2 hab1 hG1 hGi hsi2
        go_wp2_with fail
        refine Calls.mono HF1.out ?_
        rintro e w4 ⟨rfl, hw4⟩
        subst hw4
        go_wp2_with fail
        refine Calls.mono HF2.out ?_
        rintro e w4 ⟨rfl, hw4⟩
        subst hw4
        go_wp2_with fail
        go_roundw
        case rel => exact ⟨q + 1, by go_num, by omega, HZ⟩
        case measure => simp [intOf]; omega
    · have hqe : q = A.length := by omega
      subst hqe
      go_wp2_with fail
      exact l22 _ _ _ _ _ _ _ _ _ _ _ _ _ _ _ _ _ _ _ _ _ _ _ _ _ _ _ _ _ _ _ _ _ _ _ _ _ _ _ _ _ _ _ _ _ _ _ _ _ _ _ _ _ _ _ _ _ _ _ _ _ _ _ _ _ _ _ _ _ _ _ _ _ _ _ _ _ _ _ _ _ _ _ _ _ _ _ _ _ _ _ _ _ _ _ _ _ _ _ _ _ _ _ _ _ _ _ _ _ _ _ _ _ _ _ _ _ _ _ _ _ _ _ _ _ _ _ _ _ _ _ _ _ _ _ _ _ _ _ _ _ _ _ _ _ _ _ _ _ _ _ _ _ _ _ _ _ _ _ _ _ _ _ _ _ _ _ _ _ _ _ _ _ _ _ _ _ _ _ _ _ _ _ _ _ _ _ _ _ _ _ _ _ _ _ _ _ _ _ _ _ _ _ _ _ _ _ _ _ _ _ _ _ _ _ _ _ _ _ _ _ _ _ _ _ _ _ _ _ _ _ _ _ _ _ _ _ _ _ _ _ _ _ _ _ _ _ _ _ _ _ _ _ _ _ _ _ _ _ _ _ _ _ _ HL HO

/-- A node's row of successors, read at a later world. -/
theorem L4.row {w0 w1 w : World} {oa og ob : Option Addr} {gs m : Nat} {A : List Ac} {T X G ab : List Int} {succ : Nat → List Int} (h : L4 w0 w1 oa og ob gs m A T X G ab succ) (hb : Below w1.heap.size w1 w) {u : Nat} (hu : u < G.length) : ∃ o c, w.cell? ⟨gs, u, none⟩ = some (.slice o (succ u).length c) ∧ Sl w1 o (ints (succ u)) := by
  obtain ⟨⟨o, c, h1, h2⟩, _⟩ := h.su u hu
  exact ⟨o, c, cell_later hb h1, h2⟩
theorem L4.edge {w0 w1 : World} {oa og ob : Option Addr} {gs m : Nat} {A : List Ac} {T X G ab : List Int} {succ : Nat → List Int} (h : L4 w0 w1 oa og ob gs m A T X G ab succ) {u k : Nat} (hu : u < G.length) (hk : k < (succ u).length) : ∃ v : Nat, (succ u).getD k 0 = v ∧ v < G.length ∧ u ≠ v ∧ Cf A (G.getD u 0) (G.getD v 0) := by
  obtain ⟨v, a, b, _, c, d⟩ := edge_sound ((h.rel u hu _).1 (getD_mem 0 hk))
  exact ⟨v, a, b, c, d⟩
def CS (w1 : World) (gr gw m : Nat) (st : Int) (w : World) : Prop := ∃ RM WM, CM w1 gr gw m RM WM w ∧ Lq RM st ∧ Lq WM st

set_option maxRecDepth 100000 in
set_option maxHeartbeats 4000000 in
theorem l16 {w0 w1 w : World} {oa og ob : Option Addr} {ca cg cb gs m : Nat} {A : List Ac} {T X G ab : List Int} {succ : Nat → List Int} (u1 u2 u3 u4 u5 u6 u8 u9 u10 u14 u15 u16 u17 u18 u19 u20 u21 u22 u23 u24 u25 u26 u27 u28 u29 u30 u31 u32 u33 u34 u35 u36 u37 u38 u39 u40 u41 u42 u43 u44 u45 u46 u47 u48 u49 u50 u51 u52 u53 u54 u55 u56 u57 u58 u59 u60 u61 u62 u63 u64 u65 u66 u67 u68 u69 u70 u71 u72 u73 u74 u75 u76 u77 u78 u79 u80 u81 u82 u83 u84 u85 u86 u87 u88 u89 u90 u91 u92 u93 u94 u95 u96 u97 u98 u99 u100 u101 u102 u103 u104 u105 u106 u107 u108 u109 u110 u111 u112 u113 u114 u115 u116 u117 u118 u119 u120 u121 u122 u123 u124 u125 u126 u127 u128 u129 u130 u131 u132 u133 u134 u135 u136 u137 u138 u139 u140 u141 u142 u143 u144 u145 u146 u147 u148 u149 u150 u151 u152 u153 u154 u155 u156 u157 u158 u159 u160 u161 u162 u163 u164 u165 u166 u167 u168 u169 u170 u171 u172 u173 u174 u175 u176 u177 u178 u179 u180 u181 u182 u183 u184 u185 u186 u187 u188 u189 u190 u191 u192 u193 u194 u195 u196 u197 u198 u199 u200 u201 u202 u203 u204 u205 u206 u207 u208 u209 u210 u211 u212 u213 u214 u215 u216 u217 u218 u219 u220 u221 u222 u223 u224 u225 u226 u227 u228 u229 u230 u231 u232 u233 u234 u235 u236 u237 u238 u239 u240 u241 u242 u243 u244 u245 u246 u247 u248 u249 u250 u251 u252 u253 u254 u255 u256 u257 u258 u259 u260 u261 u262 u263 u264 u265 u266 u267 : Value)
    (HL : Hid (L4 w0 w1 oa og ob gs m A T X G ab succ)) (HB : Hid (Below w1.heap.size w1 w)) (HSL : Hid (∀ u, u < G.length → (succ u).length ≤ 12288)) :
    Code.wp Try.prog (tl Try.f4 16) (bodyPost Try.prog Try.f4 (fun e w' => e = .returned (.bool true) ∧ Below w0.heap.size w0 w')) ⟨#[.slice oa A.length ca, u1, u2, u3, u4, u5, u6, .int .i32 m, u8, u9, u10, .slice og G.length cg, .slice ob ab.length cb, .slice (some ⟨gs, 0, none⟩) G.length G.length, u14, u15, u16, u17, u18, u19, u20, u21, u22, u23, u24, u25, u26, u27, u28, u29, u30, u31, u32, u33, u34, u35, u36, u37, u38, u39, u40, u41, u42, u43, u44, u45, u46, u47, u48, u49, u50, u51, u52, u53, u54, u55, u56, u57, u58, u59, u60, u61, u62, u63, u64, u65, u66, u67, u68, u69, u70, u71, u72, u73, u74, u75, u76, u77, u78, u79, u80, u81, u82, u83, u84, u85, u86, u87, u88, u89, u90, u91, u92, u93, u94, u95, u96, u97, u98, u99, u100, u101, u102, u103, u104, u105, u106, u107, u108, u109, u110, u111, u112, u113, u114, u115, u116, u117, u118, u119, u120, u121, u122, u123, u124, u125, u126, u127, u128, u129, u130, u131, u132, u133, u134, u135, u136, u137, u138, u139, u140, u141, u142, u143, u144, u145, u146, u147, u148, u149, u150, u151, u152, u153, u154, u155, u156, u157, u158, u159, u160, u161, u162, u163, u164, u165, u166, u167, u168, u169, u170, u171, u172, u173, u174, u175, u176, u177, u178, u179, u180, u181, u182, u183, u184, u185, u186, u187, u188, u189, u190, u191, u192, u193, u194, u195, u196, u197, u198, u199, u200, u201, u202, u203, u204, u205, u206, u207, u208, u209, u210, u211, u212, u213, u214, u215, u216, u217, u218, u219, u220, u221, u222, u223, u224, u225, u226, u227, u228, u229, u230, u231, u232, u233, u234, u235, u236, u237, u238, u239, u240, u241, u242, u243, u244, u245, u246, u247, u248, u249, u250, u251, u252, u253, u254, u255, u256, u257, u258, u259, u260, u261, u262, u263, u264, u265, u266, u267], []⟩ w := by
  have hA : A.length ≤ 4096 := HL.out.lA
  have hG : G.length ≤ 12288 := HL.out.lG
  have hm : m ≤ 4096 := HL.out.hm
  obtain ⟨i3, hi3, hz3, hy3, hx3⟩ := info_parts Try.info3
  have hsz : w1.heap.size ≤ w.heap.size := HB.out.size
  rw [tl4_16]
  refine wp_seq_k (fun K hK => ?_)
  conv => arg 2; whnf
  go_wp2_with (at_make; go_must (refine wpList_make_full _ rfl _ _ 35 rfl w1.heap.size 3 i3 (.int .i64 0) 1 Try.underlying35 hi3 hz3 hy3 .i32 .i32 _ _ m rfl rfl rfl rfl (by rw [hx3]; omega) (by unfold maxLen; omega) hsz ?_; intro wa howna hgrowa))
  have hba := below_of_grown hgrowa
  have HA : Hid (BI wa w.heap.size (List.replicate m 0) ∧ Below w1.heap.size w1 wa ∧ w1.heap.size ≤ w.heap.size) := ⟨made_ints howna, HB.out.trans (hba.mono hsz), hsz⟩
  have hsza : w1.heap.size ≤ wa.heap.size := HA.out.2.1.size
  generalize w.heap.size = gr at HA ⊢
  clear howna hgrowa hba HB hsz
  rw [tl4_17]
  refine wp_seq_k (fun K hK => ?_)
  conv => arg 2; whnf
  go_wp2_with (at_make; go_must (refine wpList_make_full _ rfl _ _ 35 rfl w1.heap.size 3 i3 (.int .i64 0) 1 Try.underlying35 hi3 hz3 hy3 .i32 .i32 _ _ m rfl rfl rfl rfl (by rw [hx3]; omega) (by unfold maxLen; omega) hsza ?_; intro wb hownb hgrowb))
  have hbb := below_of_grown hgrowb
  have HC0 : Hid (CS w1 gr wa.heap.size m 0 wb) := ⟨_, _, ⟨HA.out.1.below hbb, made_ints hownb, by have := HA.out.1.lt; omega, HA.out.2.2, hsza, by simp, by simp, HA.out.2.1.trans (hbb.mono hsza)⟩, lq_zero m, lq_zero m⟩
  generalize wa.heap.size = gw at HC0 ⊢
  clear hownb hgrowb hbb HA hsza
  rw [tl4_18]
  refine wp_seq_k (fun K hK => ?_)
  conv => arg 2; whnf
  go_wp2_with fail
  rw [tl4_19]
  refine wp_seq_k (fun K hK => ?_)
  conv => arg 2; whnf
  go_wp2_with fail
  go_loopw [19, 20] (fun vs vu wr => ∃ (st u : Nat), vs = .int .i64 st ∧ vu = .int .i64 u ∧ u ≤ G.length ∧ st ≤ 12288 * u ∧ Hid (CS w1 gr gw m st wr)) (fun _ vu _ => G.length - (intOf vu).toNat)
  case atStart => exact ⟨0, 0, rfl, rfl, Nat.zero_le _, by omega, HC0⟩
  case round =>
    clear HC0
    obtain ⟨st, u, rfl, rfl, hu, hst, HO⟩ := hrel
    by_cases hul : u < G.length
    · have hul' : (u : Int) < (G.length : Int) := by omega
      have hbw : Below w1.heap.size w1 wr := by obtain ⟨_, _, h, _⟩ := HO.out; exact h.b
      obtain ⟨o, c, cu, hsl⟩ := HL.out.row hbw hul
      have HSl : Hid (Sl w1 o (ints (succ u))) := hsl
      have hsu : (succ u).length ≤ 12288 := HSL.out u hul
      clear hbw hsl
      go_wp2_with fail
      go_loopw [19, 126] (fun vs vk wr => ∃ (st k : Nat), vs = .int .i64 st ∧ vk = .int .i64 k ∧ k ≤ (succ u).length ∧ st ≤ 12288 * u + k ∧ Hid (CS w1 gr gw m st wr)) (fun _ vk _ => (succ u).length - (intOf vk).toNat)
      case atStart => exact ⟨st, 0, rfl, rfl, Nat.zero_le _, by omega, HO⟩
      case round =>
        clear HO cu
        obtain ⟨st2, k, rfl, rfl, hk, hst2, HI⟩ := hrel
        by_cases hkl : k < (succ u).length
        · have hkl' : (k : Int) < ((succ u).length : Int) := by omega
          obtain ⟨RM, WM, hC, hr, hw⟩ := HI.out
          obtain ⟨b, off, ho, cv⟩ := i32_cell (HSl.out.below hC.b) hkl
          obtain ⟨v, hv, hvn, huv, hcf⟩ := HL.out.edge hul hkl
          rw [hv] at cv
          have hvn' : (v : Int) < (G.length : Int) := by omega
          obtain ⟨b1, off1, hog, g1w⟩ := i64_cell HL.out.sg hul
          obtain ⟨b2, off2, hog2, g2w⟩ := i64_cell HL.out.sg hvn
          rw [hog] at hog2
          simp at hog2
          obtain ⟨rfl, rfl⟩ := hog2
          have HC : Hid _ := conflict_any (w := wr.drew) (ca := ca) (s := (st2 : Int) + 1) HL.out.sa (hC.below ((Below.refl _ _).drew)) HL.out.lA HL.out.hm HL.out.hI (by simpa using hr) (by simpa using hw) hcf
          generalize G.getD u 0 = gu at g1w HC
          generalize G.getD v 0 = gv at g2w HC
          have g1 := cell_later hC.b g1w
          have g2 := cell_later hC.b g2w
          have HGW : Hid (w1.cell? ⟨b1, off1 + u, none⟩ = some (.int .i64 gu) ∧ w1.cell? ⟨b1, off1 + v, none⟩ = some (.int .i64 gv)) := ⟨g1w, g2w⟩
          clear g1w g2w
          subst ho
          subst hog
          clear hC hr hw hv huv hcf HI
          go_wp2_with fail
          refine wp_shade2 (fun KK hKK => ?_)
          have HKK : Hid _ := hKK
          clear hKK
          go_region_held3 (fun w' => w'.cell? ⟨b1, off1 + u, none⟩ = some (.int .i64 gu) ∧ w'.cell? ⟨b1, off1 + v, none⟩ = some (.int .i64 gv))
            (first | go_keep | (exact hx))
            ((go_at_call 20; refine Calls.mono HC.out ?_; rintro e w3 ⟨he, RM3, WM3, hC3, hr3, hw3⟩; subst he; have hx : w3.cell? ⟨b1, off1 + u, none⟩ = some (.int .i64 gu) ∧ w3.cell? ⟨b1, off1 + v, none⟩ = some (.int .i64 gv) := ⟨cell_later hC3.b HGW.out.1, cell_later hC3.b HGW.out.2⟩))
          refine HKK.out _ _ ?_
          clear HKK KK
          have HZ : Hid (CS w1 gr gw m ((st2 + 1 : Nat) : Int) w3) := ⟨RM3, WM3, hC3, by simpa using hr3, by simpa using hw3⟩
          clear hC3 hr3 hw3 HC HGW g1 g2 cv hx
          go_wp2_with fail
          go_roundw
          case rel => exact ⟨st2 + 1, k + 1, by go_num, by go_num, by omega, by omega, HZ⟩
          case measure => simp [intOf]; omega
        · have hke : k = (succ u).length := by omega
          subst hke
          go_wp2_with fail
          go_roundw
          case rel => exact ⟨st2, u + 1, rfl, by go_num, by omega, by omega, HI⟩
          case measure => simp [intOf]; omega
    · have hue : u = G.length := by omega
      have HBw : Hid (Below w1.heap.size w1 wr) := by obtain ⟨_, _, h, _⟩ := HO.out; exact h.b
      clear HO
      subst hue
      go_wp2_with fail
      exact l20 _ _ _ _ _ _ _ _ _ _ _ _ _ _ _ _ _ _ _ _ _ _ _ _ _ _ _ _ _ _ _ _ _ _ _ _ _ _ _ _ _ _ _ _ _ _ _ _ _ _ _ _ _ _ _ _ _ _ _ _ _ _ _ _ _ _ _ _ _ _ _ _ _ _ _ _ _ _ _ _ _ _ _ _ _ _ _ _ _ _ _ _ _ _ _ _ _ _ _ _ _ _ _ _ _ _ _ _ _ _ _ _ _ _ _ _ _ _ _ _ _ _ _ _ _ _ _ _ _ _ _ _ _ _ _ _ _ _ _ _ _ _ _ _ _ _ _ _ _ _ _ _ _ _ _ _ _ _ _ _ _ _ _ _ _ _ _ _ _ _ _ _ _ _ _ _ _ _ _ _ _ _ _ _ _ _ _ _ _ _ _ _ _ _ _ _ _ _ _ _ _ _ _ _ _ _ _ _ _ _ _ _ _ _ _ _ _ _ _ _ _ _ _ _ _ _ _ _ _ _ _ _ _ _ _ _ _ _ _ _ _ _ _ _ _ _ _ _ _ _ _ _ _ _ _ _ _ _ _ _ _ _ _ _ HL HBw

set_option maxRecDepth 100000 in
set_option maxHeartbeats 4000000 in
theorem l15 {w0 w1 w : World} {oa og ob : Option Addr} {ca cg cb gs m : Nat} {A : List Ac} {T X G ab : List Int} {succ : Nat → List Int} (u1 u2 u3 u4 u5 u6 u8 u9 u10 u14 u15 u16 u17 u18 u19 u20 u21 u22 u23 u24 u25 u26 u27 u28 u29 u30 u31 u32 u33 u34 u35 u36 u37 u38 u39 u40 u41 u42 u43 u44 u45 u46 u47 u48 u49 u50 u51 u52 u53 u54 u55 u56 u57 u58 u59 u60 u61 u62 u63 u64 u65 u66 u67 u68 u69 u70 u71 u72 u73 u74 u75 u76 u77 u78 u79 u80 u81 u82 u83 u84 u85 u86 u87 u88 u89 u90 u91 u92 u93 u94 u95 u96 u97 u98 u99 u100 u101 u102 u103 u104 u105 u106 u107 u108 u109 u110 u111 u112 u113 u114 u115 u116 u117 u118 u119 u120 u121 u122 u123 u124 u125 u126 u127 u128 u129 u130 u131 u132 u133 u134 u135 u136 u137 u138 u139 u140 u141 u142 u143 u144 u145 u146 u147 u148 u149 u150 u151 u152 u153 u154 u155 u156 u157 u158 u159 u160 u161 u162 u163 u164 u165 u166 u167 u168 u169 u170 u171 u172 u173 u174 u175 u176 u177 u178 u179 u180 u181 u182 u183 u184 u185 u186 u187 u188 u189 u190 u191 u192 u193 u194 u195 u196 u197 u198 u199 u200 u201 u202 u203 u204 u205 u206 u207 u208 u209 u210 u211 u212 u213 u214 u215 u216 u217 u218 u219 u220 u221 u222 u223 u224 u225 u226 u227 u228 u229 u230 u231 u232 u233 u234 u235 u236 u237 u238 u239 u240 u241 u242 u243 u244 u245 u246 u247 u248 u249 u250 u251 u252 u253 u254 u255 u256 u257 u258 u259 u260 u261 u262 u263 u264 u265 u266 u267 : Value)
    (HL : Hid (L4 w0 w1 oa og ob gs m A T X G ab succ)) (HB : Hid (Below w1.heap.size w1 w)) (HSL : Hid (∀ u, u < G.length → (succ u).length ≤ 12288)) :
    Code.wp Try.prog (tl Try.f4 15) (bodyPost Try.prog Try.f4 (fun e w' => e = .returned (.bool true) ∧ Below w0.heap.size w0 w')) ⟨#[.slice oa A.length ca, u1, u2, u3, u4, u5, u6, .int .i32 m, u8, u9, u10, .slice og G.length cg, .slice ob ab.length cb, .slice (some ⟨gs, 0, none⟩) G.length G.length, u14, u15, u16, u17, u18, u19, u20, u21, u22, u23, u24, u25, u26, u27, u28, u29, u30, u31, u32, u33, u34, u35, u36, u37, u38, u39, u40, u41, u42, u43, u44, u45, u46, u47, u48, u49, u50, u51, u52, u53, u54, u55, u56, u57, u58, u59, u60, u61, u62, u63, u64, u65, u66, u67, u68, u69, u70, u71, u72, u73, u74, u75, u76, u77, u78, u79, u80, u81, u82, u83, u84, u85, u86, u87, u88, u89, u90, u91, u92, u93, u94, u95, u96, u97, u98, u99, u100, u101, u102, u103, u104, u105, u106, u107, u108, u109, u110, u111, u112, u113, u114, u115, u116, u117, u118, u119, u120, u121, u122, u123, u124, u125, u126, u127, u128, u129, u130, u131, u132, u133, u134, u135, u136, u137, u138, u139, u140, u141, u142, u143, u144, u145, u146, u147, u148, u149, u150, u151, u152, u153, u154, u155, u156, u157, u158, u159, u160, u161, u162, u163, u164, u165, u166, u167, u168, u169, u170, u171, u172, u173, u174, u175, u176, u177, u178, u179, u180, u181, u182, u183, u184, u185, u186, u187, u188, u189, u190, u191, u192, u193, u194, u195, u196, u197, u198, u199, u200, u201, u202, u203, u204, u205, u206, u207, u208, u209, u210, u211, u212, u213, u214, u215, u216, u217, u218, u219, u220, u221, u222, u223, u224, u225, u226, u227, u228, u229, u230, u231, u232, u233, u234, u235, u236, u237, u238, u239, u240, u241, u242, u243, u244, u245, u246, u247, u248, u249, u250, u251, u252, u253, u254, u255, u256, u257, u258, u259, u260, u261, u262, u263, u264, u265, u266, u267], []⟩ w := by
  have hG : G.length ≤ 12288 := HL.out.lG
  rw [tl4_15]
  refine wp_seq_k (fun K hK => ?_)
  conv => arg 2; whnf
  go_wp2_with fail
  go_loopw [14] (fun vu wr => ∃ u : Nat, vu = .int .i64 u ∧ u ≤ G.length ∧ Hid (Below w1.heap.size w1 wr)) (fun vu _ => G.length - (intOf vu).toNat)
  case atStart => exact ⟨0, rfl, Nat.zero_le _, HB⟩
  case round =>
    clear HB
    obtain ⟨u, rfl, hu, HO⟩ := hrel
    by_cases hul : u < G.length
    · have hul' : (u : Int) < (G.length : Int) := by omega
      obtain ⟨o, c, cu, hsl⟩ := HL.out.row HO.out hul
      have HSl : Hid (Sl w1 o (ints (succ u))) := hsl
      have hsu : (succ u).length ≤ 12288 := HSL.out u hul
      clear hsl
      go_wp2_with fail
      go_loopw [91] (fun vk wr => ∃ k : Nat, vk = .int .i64 k ∧ k ≤ (succ u).length ∧ Hid (Below w1.heap.size w1 wr)) (fun vk _ => (succ u).length - (intOf vk).toNat)
      case atStart => exact ⟨0, rfl, Nat.zero_le _, HO⟩
      case round =>
        clear HO cu
        obtain ⟨k, rfl, hk, HI⟩ := hrel
        by_cases hkl : k < (succ u).length
        · have hkl' : (k : Int) < ((succ u).length : Int) := by omega
          obtain ⟨b, off, ho, cv⟩ := i32_cell (HSl.out.below HI.out) hkl
          obtain ⟨v, hv, hvn, huv, hcf⟩ := HL.out.edge hul hkl
          rw [hv] at cv
          have hv0 : ¬ ((v : Int) < 0) := by omega
          have hv1 : ¬ ((G.length : Int) ≤ (v : Int)) := by omega
          have hv2 : ¬ ((v : Int) = (u : Int)) := by omega
          have hv3 : ((v : Int) == (u : Int)) = false := by simpa using hv2
          clear hv hcf
          subst ho
          go_wp2_with fail
          go_roundw
          case rel => exact ⟨k + 1, by go_num, by omega, HI⟩
          case measure => simp [intOf]; omega
        · have hke : k = (succ u).length := by omega
          subst hke
          go_wp2_with fail
          go_roundw
          case rel => exact ⟨u + 1, by go_num, by omega, HI⟩
          case measure => simp [intOf]; omega
    · have hue : u = G.length := by omega
      subst hue
      go_wp2_with fail
      exact l16 _ _ _ _ _ _ _ _ _ _ _ _ _ _ _ _ _ _ _ _ _ _ _ _ _ _ _ _ _ _ _ _ _ _ _ _ _ _ _ _ _ _ _ _ _ _ _ _ _ _ _ _ _ _ _ _ _ _ _ _ _ _ _ _ _ _ _ _ _ _ _ _ _ _ _ _ _ _ _ _ _ _ _ _ _ _ _ _ _ _ _ _ _ _ _ _ _ _ _ _ _ _ _ _ _ _ _ _ _ _ _ _ _ _ _ _ _ _ _ _ _ _ _ _ _ _ _ _ _ _ _ _ _ _ _ _ _ _ _ _ _ _ _ _ _ _ _ _ _ _ _ _ _ _ _ _ _ _ _ _ _ _ _ _ _ _ _ _ _ _ _ _ _ _ _ _ _ _ _ _ _ _ _ _ _ _ _ _ _ _ _ _ _ _ _ _ _ _ _ _ _ _ _ _ _ _ _ _ _ _ _ _ _ _ _ _ _ _ _ _ _ _ _ _ _ _ _ _ _ _ _ _ _ _ _ _ _ _ _ _ _ _ _ _ _ _ _ _ _ _ _ _ _ _ _ _ _ _ _ _ _ _ _ HL HO HSL

theorem asc_len (n : Nat) : ∀ (l : List Int) (a : Int), l.Pairwise (· < ·) → (∀ x ∈ l, a ≤ x ∧ x < n) → (l.length : Int) ≤ n - a ∨ l = []
  | [], a, _, _ => Or.inr rfl
  | x :: l, a, h, hx => by
    left
    have h1 := hx x (by simp)
    rcases asc_len n l (x + 1) (List.pairwise_cons.1 h).2 (fun y hy => ⟨by have := (List.pairwise_cons.1 h).1 y hy; omega, (hx y (List.mem_cons_of_mem _ hy)).2⟩) with h2 | h2
    · simp only [List.length_cons]; push_cast; omega
    · subst h2; simp only [List.length_cons, List.length_nil]; push_cast; omega
set_option maxRecDepth 100000 in
set_option maxHeartbeats 4000000 in
theorem law4 (oa ot ox : Option Addr) (ca ct cx : Nat) (A : List Ac) (T X : List Int) (w : World) (hA : Sl w oa (flatA A)) (hT : Sl w ot (int64s T)) (hX : Sl w ox (int64s X)) (rA : ∀ k, k < A.length → R64 (A.getD k a0).tx) (rT : ∀ k, k < T.length → R64 (T.getD k 0)) (rX : ∀ k, k < X.length → R64 (X.getD k 0)) :
    Calls Try.prog 4 #[.slice oa A.length ca, .slice ot T.length ct, .slice ox X.length cx] w fun e w' => e = .returned (.bool true) ∧ Below w.heap.size w w' := by
  have HA : Hid (Sl w oa (flatA A)) := hA
  have HT : Hid (Sl w ot (int64s T)) := hT
  have HX : Hid (Sl w ox (int64s X)) := hX
  have HRA : Hid (∀ k, k < A.length → R64 (A.getD k a0).tx) := rA
  have HRT : Hid (∀ k, k < T.length → R64 (T.getD k 0)) := rT
  have HRX : Hid (∀ k, k < X.length → R64 (X.getD k 0)) := rX
  clear hA hT hX rA rT rX
  have HC : Hid _ := bytes19 oa A.length ca ot T.length ct ox X.length cx w
  go_enter Try.func4, Try.ntmps4
  change Code.wp Try.prog (tl Try.f4 0) (bodyPost Try.prog Try.f4 (fun e w' => e = .returned (.bool true) ∧ Below w.heap.size w w')) _ _
  rw [tl4_0]
  refine wp_seq_k (fun K hK => ?_)
  conv => arg 2; whnf
  go_wp2_with fail
  rw [tl4_1]
  refine wp_seq_k (fun K hK => ?_)
  conv => arg 2; whnf
  go_wp2_with fail
  refine Calls.mono HC.out ?_
  rintro e w' ⟨r, rfl, hw'⟩
  subst hw'
  cases r with
  | false =>
    go_wp2_with fail
    go_ret
    exact ⟨rfl, Below.refl _ _⟩
  | true =>
  go_wp2_with fail
  rw [tl4_2]
  refine wp_seq_k (fun K hK => ?_)
  conv => arg 2; whnf
  by_cases h1 : (4096 : Int) < (A.length : Int)
  · go_wp2_with fail
    go_ret
    exact ⟨rfl, Below.refl _ _⟩
  go_wp2_with fail
  rw [tl4_3]
  refine wp_seq_k (fun K hK => ?_)
  conv => arg 2; whnf
  by_cases h2 : (4096 : Int) < (T.length : Int)
  · go_wp2_with fail
    go_ret
    exact ⟨rfl, Below.refl _ _⟩
  go_wp2_with fail
  rw [tl4_4]
  refine wp_seq_k (fun K hK => ?_)
  conv => arg 2; whnf
  by_cases h3 : (4096 : Int) < (X.length : Int)
  · go_wp2_with fail
    go_ret
    exact ⟨rfl, Below.refl _ _⟩
  have lA : A.length ≤ 4096 := by omega
  have lT : T.length ≤ 4096 := by omega
  have lX : X.length ≤ 4096 := by omega
  go_wp2_with fail
  clear h1 h2 h3 HC
  rw [tl4_5]
  refine wp_seq_k (fun K hK => ?_)
  conv => arg 2; whnf
  have HC : Hid _ := itemCount oa ca A w' HA.out lA
  go_wp2_with fail
  refine Calls.mono HC.out ?_
  rintro e wa ⟨hba, m, ok, rfl, hok⟩
  have HBa : Hid (Below w'.heap.size w' wa) := hba
  clear hba HC
  go_wp2_with fail
  rw [tl4_6]
  refine wp_seq_k (fun K hK => ?_)
  conv => arg 2; whnf
  cases ok with
  | false =>
    go_wp2_with fail
    go_ret
    exact ⟨rfl, HBa.out⟩
  | true =>
  have hm : m ≤ 4096 := by have := (hok rfl).1; omega
  have HI : Hid (∀ i, i < A.length → 0 ≤ (A.getD i a0).item ∧ (A.getD i a0).item < m) := (hok rfl).2
  clear hok
  go_wp2_with fail
  rw [tl4_7]
  refine wp_seq_k (fun K hK => ?_)
  conv => arg 2; whnf
  have HC : Hid _ := build_any oa ot ox ca ct cx A T X m wa (HA.out.below HBa.out) (HT.out.below HBa.out) (HX.out.below HBa.out) lA lT lX hm HRA.out HRT.out HRX.out
  go_wp2_with fail
  refine Calls.mono HC.out ?_
  rintro e wb ⟨gh, be, bt, bi, va, rfl, hhv, hbb⟩
  have HBb : Hid (Below w'.heap.size w' wb) := HBa.out.trans (hbb.mono HBa.out.size)
  have HHV : Hid _ := hhv
  clear hhv hbb HC HBa
  go_wp2_with fail
  rw [tl4_8]
  refine wp_seq_k (fun K hK => ?_)
  conv => arg 2; whnf
  have HC : Hid _ := graph_any HHV.out (by omega) hm lA HI.out HRA.out HRT.out
  go_wp2_with fail
  refine Calls.mono HC.out ?_
  rintro e wc ⟨gg, og, cg, ga, gs, G, succ, rfl, hgv, hbc, hgp, hgl, hsucc⟩
  have HBc : Hid (Below w'.heap.size w' wc) := HBb.out.trans (hbc.mono HBb.out.size)
  have HGV : Hid _ := hgv
  have HGP : Hid (GPr A T X G ∧ ∀ u, u < G.length → (succ u).Pairwise (· < ·) ∧ SameM (succ u) (redS (itemL G A) m u) ∧ (succ u).length ≤ 100000000) := ⟨hgp, hsucc⟩
  clear hgv hbc hgp hsucc HC HBb HHV
  go_wp2_with fail
  rw [tl4_9]
  refine wp_seq_k (fun K hK => ?_)
  conv => arg 2; whnf
  go_wp2_with fail
  rw [tl4_10]
  refine wp_seq_k (fun K hK => ?_)
  conv => arg 2; whnf
  have HC : Hid _ := gtxs_any HGV.out.blk
  go_wp2_with fail
  refine Calls.mono HC.out ?_
  rintro e wd ⟨rfl, hwd⟩
  subst hwd
  clear HC
  go_wp2_with fail
  rw [tl4_11]
  refine wp_seq_k (fun K hK => ?_)
  conv => arg 2; whnf
  have HC : Hid _ := sorted_any ox cx X.length X wd (HX.out.below HBc.out) rfl (by omega)
  go_wp2_with fail
  refine Calls.mono HC.out ?_
  rintro e we ⟨g3, ab, rfl, s1, s2, s3, s4, s5, s6⟩
  have HBe : Hid (Below w'.heap.size w' we) := HBc.out.trans (s6.mono HBc.out.size)
  have HAB : Hid (B64 we g3 ab ∧ ab.Pairwise (· ≤ ·) ∧ SameM ab X) := ⟨s1, s4, s5⟩
  have lab : ab.length ≤ 4096 := by omega
  have HGe : Hid (Below wd.heap.size wd we) := s6
  clear s1 s2 s3 s4 s5 s6 HC
  go_wp2_with fail
  rw [tl4_12]
  refine wp_seq_k (fun K hK => ?_)
  conv => arg 2; whnf
  have HC : Hid _ := txs_any og oa ot (some ⟨g3, 0, none⟩) cg ca ct ab.length G A T X ab we (HGV.out.tx.below HGe.out) (HA.out.below HBe.out) (HT.out.below HBe.out) HAB.out.1.sl ⟨HGP.out.1, HAB.out.2.1, HAB.out.2.2⟩ hgl lA lT lab
  go_wp2_with fail
  refine Calls.mono HC.out ?_
  rintro e wf ⟨rfl, hbf⟩
  have HBf : Hid (Below w'.heap.size w' wf ∧ Below wd.heap.size wd wf ∧ Below we.heap.size we wf) := ⟨HBe.out.trans (hbf.mono HBe.out.size), HGe.out.trans (hbf.mono HGe.out.size), hbf⟩
  clear hbf HC
  go_wp2_with fail
  rw [tl4_13]
  refine wp_seq_k (fun K hK => ?_)
  conv => arg 2; whnf
  have HC : Hid _ := gsucc_any (blk_below HBf.out.2.1 HGV.out.blk)
  go_wp2_with fail
  refine Calls.mono HC.out ?_
  rintro e wg ⟨rfl, hwg⟩
  subst hwg
  clear HC
  go_wp2_with fail
  rw [tl4_14]
  refine wp_seq_k (fun K hK => ?_)
  conv => arg 2; whnf
  go_wp2_with fail
  have hrel : ∀ u, u < G.length → SameM (succ u) (redJ (itemL G A) m u) := fun u hu => (HGP.out.2 u hu).2.1
  have hsl : ∀ u, u < G.length → (succ u).length ≤ 12288 := fun u hu => by
    rcases asc_len G.length (succ u) 0 (HGP.out.2 u hu).1 (fun x hx => by
      obtain ⟨v, hv, h2, _⟩ := edge_sound ((hrel u hu x).1 hx)
      omega) with h | h
    · omega
    · rw [h]; simp
  have HL : Hid (L4 w' wg oa og (some ⟨g3, 0, none⟩) gs m A T X G ab succ) := ⟨HBf.out.1, HA.out.below HBf.out.1, HGV.out.tx.below HBf.out.2.1, HAB.out.1.sl.below HBf.out.2.2, HGP.out.1, HAB.out.2.1, HAB.out.2.2, fun u hu => by
    obtain ⟨o, c, h1, h2⟩ := HGV.out.su u hu
    refine ⟨⟨o, c, cell_later HBf.out.2.1 h1, h2.below HBf.out.2.1⟩, by have := hsl u hu; omega, fun v hv => ?_⟩
    obtain ⟨v', a, b, _⟩ := edge_sound ((hrel u hu v).1 hv)
    exact ⟨v', a, b⟩, hrel, HI.out, lA, hgl, lab, hm⟩
  exact l15 _ _ _ _ _ _ _ _ _ _ _ _ _ _ _ _ _ _ _ _ _ _ _ _ _ _ _ _ _ _ _ _ _ _ _ _ _ _ _ _ _ _ _ _ _ _ _ _ _ _ _ _ _ _ _ _ _ _ _ _ _ _ _ _ _ _ _ _ _ _ _ _ _ _ _ _ _ _ _ _ _ _ _ _ _ _ _ _ _ _ _ _ _ _ _ _ _ _ _ _ _ _ _ _ _ _ _ _ _ _ _ _ _ _ _ _ _ _ _ _ _ _ _ _ _ _ _ _ _ _ _ _ _ _ _ _ _ _ _ _ _ _ _ _ _ _ _ _ _ _ _ _ _ _ _ _ _ _ _ _ _ _ _ _ _ _ _ _ _ _ _ _ _ _ _ _ _ _ _ _ _ _ _ _ _ _ _ _ _ _ _ _ _ _ _ _ _ _ _ _ _ _ _ _ _ _ _ _ _ _ _ _ _ _ _ _ _ _ _ _ _ _ _ _ _ _ _ _ _ _ _ _ _ _ _ _ _ _ _ _ _ _ _ _ _ _ _ _ _ _ _ _ _ _ _ _ _ _ _ _ _ _ _ HL (Below.refl _ _) hsl
end Go.Proofs.Qxb6626314a
