/-
  Seat b6626314a: zzReductionEdges: the buckets.
-/
import Derived.Test.Qxb6626314aZL
import Derived.Test.Qxb6626314aZH
namespace Go.Proofs.Qxb6626314a
open Go.RowKit Go.Maps Go.Sort
set_option linter.unusedVariables false
set_option linter.unusedSimpArgs false

theorem itemL_mono (G : List Int) (A : List Ac) (q j : Nat) : (itemL G (A.take q) j).length ≤ (itemL G A j).length := by
  conv => rhs; rw [← List.take_append_drop q A]
  unfold itemL
  rw [List.filter_append, List.map_append, List.length_append]
  omega
/-- The counts. -/
structure CT (w0 : World) (gst m : Nat) (f : Nat → Int) (w : World) : Prop where
  s : ∃ ST : List Int, BI w gst ST ∧ ST.length = m + 1 ∧ ∀ j, j ≤ m → ST.getD j 0 = f j
  l : w0.heap.size ≤ gst
  b : Below w0.heap.size w0 w
theorem CT.below {w0 : World} {gst m : Nat} {f : Nat → Int} {w w' : World} (h : CT w0 gst m f w) (hb : Below w.heap.size w w') : CT w0 gst m f w' := by
  obtain ⟨ST, a, b⟩ := h.s
  exact ⟨⟨ST, a.below hb, b⟩, h.l, h.b.trans (hb.mono h.b.size)⟩
theorem CT.put {w0 : World} {gst m : Nat} {f : Nat → Int} {w : World} (h : CT w0 gst m f w) {k : Nat} (hk : k ≤ m) (x : Int) : CT w0 gst m (updV f k x) (w.setCell ⟨gst, k, none⟩ (.int .i64 x)) := by
  obtain ⟨ST, a, b, c⟩ := h.s
  refine ⟨⟨ST.set k x, a.put k x, by simp [b], fun j hj => ?_⟩, h.l, h.b.setCell h.l _⟩
  unfold updV
  by_cases e : j = k
  · subst e; simp [b, show j < m + 1 by omega]
  · have := c j hj
    rw [if_neg e, ← this]
    simp [Ne.symm e]
theorem CT.cell {w0 : World} {gst m : Nat} {f : Nat → Int} {w : World} (h : CT w0 gst m f w) {k : Nat} (hk : k ≤ m) : w.cell? ⟨gst, k, none⟩ = some (.int .i64 (f k)) ∧ w.frozen? ⟨gst, k, none⟩ = false := by
  obtain ⟨ST, a, b, c⟩ := h.s
  have := a.cell (show k < ST.length by omega)
  rw [c k hk] at this
  exact ⟨this, frz_blk a k⟩
def cntF (G : List Int) (A : List Ac) (q : Nat) : Nat → Int := fun j => match j with
  | 0 => 0
  | j + 1 => ((itemL G (A.take q) j).length : Int)
theorem cntF_skip (G : List Int) (A : List Ac) (q : Nat) (hq : q < A.length) (h : (A.getD q a0).tx ∉ G) : cntF G A (q + 1) = cntF G A q := by
  funext j
  cases j with
  | zero => rfl
  | succ j => unfold cntF; rw [itemL_skip G A q hq h]
theorem cntF_take (G : List Int) (A : List Ac) (q f : Nat) (hq : q < A.length) (h : (A.getD q a0).tx ∈ G) (hf : (A.getD q a0).item = f) : cntF G A (q + 1) = updV (cntF G A q) (f + 1) (cntF G A q (f + 1) + 1) := by
  funext j
  cases j with
  | zero => unfold updV; rw [if_neg (by omega)]; rfl
  | succ j =>
    unfold updV cntF
    rw [itemL_take G A q f hq h hf]
    unfold updV
    by_cases e : j = f
    · subst e; simp
    · simp [e]
/-- The counts summed up below k. -/
def sumQ (G : List Int) (A : List Ac) (k : Nat) : Nat → Int := fun j => if j < k then (offJ G A j : Int) else cntF G A A.length j
theorem sumQ_one (G : List Int) (A : List Ac) : sumQ G A 1 = cntF G A A.length := by
  funext j
  unfold sumQ
  by_cases h : j < 1
  · have : j = 0 := by omega
    subst this; simp [cntF, sumF]
  · rw [if_neg h]
theorem sumQ_step (G : List Int) (A : List Ac) (k : Nat) : sumQ G A (k + 1 + 1) = updV (sumQ G A (k + 1)) (k + 1) (sumQ G A (k + 1) (k + 1) + sumQ G A (k + 1) k) := by
  funext j
  unfold updV sumQ
  by_cases e : j = k + 1
  · subst e
    rw [if_pos (by omega), if_pos rfl, if_neg (by omega), if_pos (by omega)]
    have : offJ G A (k + 1) = offJ G A k + lenJ G A k := rfl
    have e : cntF G A A.length (k + 1) = ((itemL G (A.take A.length) k).length : Int) := rfl
    rw [this, e, List.take_length]
    unfold lenJ
    omega
  · rw [if_neg e]
    by_cases h : j < k + 1
    · rw [if_pos h, if_pos (by omega)]
    · rw [if_neg h, if_neg (by omega)]
theorem sumQ_all (G : List Int) (A : List Ac) (m j : Nat) (hj : j ≤ m) : sumQ G A (m + 1) j = offJ G A j := by
  unfold sumQ; rw [if_pos (by omega)]
/-- The buckets being filled. -/
structure FS (w0 : World) (gst gix gwr gfl m : Nat) (G : List Int) (A : List Ac) (q : Nat) (w : World) : Prop where
  st : CT w0 gst m (fun j => (offJ G A j : Int)) w
  ix : ∃ IX : List Int, w.heap[gix]? = some (.cells (ints IX).toArray 21 (0, 0)) ∧ IX.length = offJ G A m ∧ ∀ j, j < m → ∀ k, k < (itemL G (A.take q) j).length → IX.getD (offJ G A j + k) 0 = (gp2 (itemL G (A.take q) j) k).1
  wb : ∃ WR : List Bool, w.heap[gwr]? = some (.cells (bools WR).toArray 4 (0, 0)) ∧ WR.length = offJ G A m ∧ ∀ j, j < m → ∀ k, k < (itemL G (A.take q) j).length → WR.getD (offJ G A j + k) false = (gp2 (itemL G (A.take q) j) k).2
  fl : ∃ FL : List Int, BI w gfl FL ∧ FL.length = m ∧ ∀ j, j < m → FL.getD j 0 = ((itemL G (A.take q) j).length : Int)
  ne : gst ≠ gfl
  li : w0.heap.size ≤ gix
  lw : w0.heap.size ≤ gwr
  lf : w0.heap.size ≤ gfl
theorem FS.below {w0 : World} {gst gix gwr gfl m : Nat} {G : List Int} {A : List Ac} {q : Nat} {w w' : World} (h : FS w0 gst gix gwr gfl m G A q w) (hb : Below w.heap.size w w') : FS w0 gst gix gwr gfl m G A q w' := by
  obtain ⟨IX, a1, a2⟩ := h.ix
  obtain ⟨WR, b1, b2⟩ := h.wb
  obtain ⟨FL, c1, c2⟩ := h.fl
  exact ⟨h.st.below hb, ⟨IX, blk_below hb a1, a2⟩, ⟨WR, blk_below hb b1, b2⟩, ⟨FL, c1.below hb, c2⟩, h.ne, h.li, h.lw, h.lf⟩
theorem FS.skip {w0 : World} {gst gix gwr gfl m : Nat} {G : List Int} {A : List Ac} {q : Nat} {w : World} (h : FS w0 gst gix gwr gfl m G A q w) (hq : q < A.length) (hG : (A.getD q a0).tx ∉ G) : FS w0 gst gix gwr gfl m G A (q + 1) w :=
  ⟨h.st, by rw [itemL_skip G A q hq hG]; exact h.ix, by rw [itemL_skip G A q hq hG]; exact h.wb, by rw [itemL_skip G A q hq hG]; exact h.fl, h.ne, h.li, h.lw, h.lf⟩
theorem off_apart {G : List Int} {A : List Ac} {j k j' k' : Nat} (hk : k < lenJ G A j) (hk' : k' < lenJ G A j') (hne : j ≠ j') : offJ G A j + k ≠ offJ G A j' + k' := by
  rcases Nat.lt_or_gt_of_ne hne with h | h
  · have h1 : offJ G A (j + 1) ≤ offJ G A j' := sumF_mono _ (by omega)
    have h2 : offJ G A (j + 1) = offJ G A j + lenJ G A j := rfl
    omega
  · have h1 : offJ G A (j' + 1) ≤ offJ G A j := sumF_mono _ (by omega)
    have h2 : offJ G A (j' + 1) = offJ G A j' + lenJ G A j' := rfl
    omega
theorem FS.put {w0 : World} {gst gix gwr gfl m : Nat} {G : List Int} {A : List Ac} {q f : Nat} {w : World} (h : FS w0 gst gix gwr gfl m G A q w) (hq : q < A.length) (hG : (A.getD q a0).tx ∈ G) (hf : (A.getD q a0).item = f) (hfm : f < m) :
    FS w0 gst gix gwr gfl m G A (q + 1) (((w.setCell ⟨gix, offJ G A f + (itemL G (A.take q) f).length, none⟩ (.int .i32 (G.idxOf (A.getD q a0).tx : Int))).setCell ⟨gwr, offJ G A f + (itemL G (A.take q) f).length, none⟩ (.bool (A.getD q a0).wr)).setCell ⟨gfl, f, none⟩ (.int .i64 (((itemL G (A.take q) f).length : Int) + 1))) := by
  obtain ⟨IX, a1, a2, a3⟩ := h.ix
  obtain ⟨WR, b1, b2, b3⟩ := h.wb
  obtain ⟨FL, c1, c2, c3⟩ := h.fl
  obtain ⟨ST, d1, d2, d3⟩ := h.st.s
  have hT := itemL_take G A q f hq hG hf
  have hTf : itemL G (A.take (q + 1)) f = itemL G (A.take q) f ++ [((G.idxOf (A.getD q a0).tx : Int), (A.getD q a0).wr)] := by rw [hT, updV_same]
  have hTo : ∀ j, j ≠ f → itemL G (A.take (q + 1)) j = itemL G (A.take q) j := fun j hj => by rw [hT, updV_ne _ _ hj]
  have hlen : (itemL G (A.take q) f).length < lenJ G A f := by
    have := itemL_mono G A (q + 1) f
    rw [hTf, List.length_append] at this
    simp at this
    unfold lenJ; omega
  have n1 : gix ≠ gwr := ne_of_tag a1 b1 (by decide)
  have n2 : gix ≠ gfl := ne_of_tag a1 c1 (by decide)
  have n3 : gwr ≠ gfl := ne_of_tag b1 c1 (by decide)
  have n4 : gst ≠ gix := ne_of_tag d1 a1 (by decide)
  have n5 : gst ≠ gwr := ne_of_tag d1 b1 (by decide)
  have hp : offJ G A f + (itemL G (A.take q) f).length < offJ G A m := off_lt hfm hlen
  generalize hP : offJ G A f + (itemL G (A.take q) f).length = P at hp ⊢
  have k1 := fun (v : Value) => grown_setCell (w := w) gix P v
  refine ⟨⟨⟨ST, ?_, d2, d3⟩, h.st.l, ?_⟩, ⟨IX.set P (G.idxOf (A.getD q a0).tx : Int), ?_, by simp [a2], fun j hj k hk => ?_⟩, ⟨WR.set P (A.getD q a0).wr, ?_, by simp [b2], fun j hj k hk => ?_⟩, ⟨FL.set f (((itemL G (A.take q) f).length : Int) + 1), ?_, by simp [c2], fun j hj => ?_⟩, h.ne, h.li, h.lw, h.lf⟩
  · exact ((d1.kept n4 _ _).kept n5 _ _).kept h.ne _ _
  · exact ((h.st.b.setCell h.li _).setCell h.lw _).setCell h.lf _
  · have e1 := blk_set (i := P) (.int .i32 (G.idxOf (A.getD q a0).tx : Int)) a1
    have e2 := blk_kept (grown_setCell (w := w.setCell ⟨gix, P, none⟩ (.int .i32 (G.idxOf (A.getD q a0).tx : Int))) gwr P (.bool (A.getD q a0).wr)) e1 (by simpa using n1)
    have e3 := blk_kept (grown_setCell (w := (w.setCell ⟨gix, P, none⟩ (.int .i32 (G.idxOf (A.getD q a0).tx : Int))).setCell ⟨gwr, P, none⟩ (.bool (A.getD q a0).wr)) gfl f (.int .i64 (((itemL G (A.take q) f).length : Int) + 1))) e2 (by simpa using n2)
    rw [e3]; simp [ints]
  · by_cases ej : j = f
    · subst ej
      rw [hTf] at hk ⊢
      by_cases ek : k = (itemL G (A.take q) j).length
      · subst ek
        rw [hP]
        simp [a2, hp, gp2]
      · have hk' : k < (itemL G (A.take q) j).length := by rw [List.length_append] at hk; simp at hk; omega
        have : gp2 (itemL G (A.take q) j ++ [((G.idxOf (A.getD q a0).tx : Int), (A.getD q a0).wr)]) k = gp2 (itemL G (A.take q) j) k := by
          unfold gp2; rw [List.getD_eq_getElem?_getD, List.getElem?_append_left hk', ← List.getD_eq_getElem?_getD]
        rw [this, ← a3 j hj k hk']
        have hne : P ≠ offJ G A j + k := by omega
        simp [hne]
    · rw [hTo j ej] at hk ⊢
      rw [← a3 j hj k hk]
      have hne : P ≠ offJ G A j + k := by
        rw [← hP]
        exact off_apart hlen (by have := itemL_mono G A q j; unfold lenJ; omega) (Ne.symm ej)
      simp [hne]
  · have e1 := blk_kept (k1 (.int .i32 (G.idxOf (A.getD q a0).tx : Int))) b1 (by simpa using Ne.symm n1)
    have e2 := blk_set (i := P) (.bool (A.getD q a0).wr) e1
    have e3 := blk_kept (grown_setCell (w := (w.setCell ⟨gix, P, none⟩ (.int .i32 (G.idxOf (A.getD q a0).tx : Int))).setCell ⟨gwr, P, none⟩ (.bool (A.getD q a0).wr)) gfl f (.int .i64 (((itemL G (A.take q) f).length : Int) + 1))) e2 (by simpa using n3)
    rw [e3]; simp [bools]
  · by_cases ej : j = f
    · subst ej
      rw [hTf] at hk ⊢
      by_cases ek : k = (itemL G (A.take q) j).length
      · subst ek
        rw [hP]
        simp [b2, hp, gp2]
      · have hk' : k < (itemL G (A.take q) j).length := by rw [List.length_append] at hk; simp at hk; omega
        have : gp2 (itemL G (A.take q) j ++ [((G.idxOf (A.getD q a0).tx : Int), (A.getD q a0).wr)]) k = gp2 (itemL G (A.take q) j) k := by
          unfold gp2; rw [List.getD_eq_getElem?_getD, List.getElem?_append_left hk', ← List.getD_eq_getElem?_getD]
        rw [this, ← b3 j hj k hk']
        have hne : P ≠ offJ G A j + k := by omega
        simp [hne]
    · rw [hTo j ej] at hk ⊢
      rw [← b3 j hj k hk]
      have hne : P ≠ offJ G A j + k := by
        rw [← hP]
        exact off_apart hlen (by have := itemL_mono G A q j; unfold lenJ; omega) (Ne.symm ej)
      simp [hne]
  · have e1 := (c1.kept (Ne.symm n2) P (.int .i32 (G.idxOf (A.getD q a0).tx : Int))).kept (Ne.symm n3) P (.bool (A.getD q a0).wr)
    exact e1.put f _
  · by_cases ej : j = f
    · subst ej
      rw [hTf, List.length_append]
      simp [c2, hj]
    · rw [hTo j ej, ← c3 j hj]
      simp [Ne.symm ej]
theorem FS.fin {w0 : World} {gst gix gwr gfl m : Nat} {G : List Int} {A : List Ac} {w : World} (h : FS w0 gst gix gwr gfl m G A A.length w) : RA w0 gst gix gwr m G A w := by
  have h1 := h.ix
  have h2 := h.wb
  rw [List.take_length] at h1 h2
  obtain ⟨ST, d1, d2, d3⟩ := h.st.s
  exact ⟨⟨ST, d1, d2, fun j hj => d3 j hj⟩, h1, h2, h.st.b⟩

set_option maxRecDepth 100000 in
set_option maxHeartbeats 4000000 in
theorem a9 {wl w1 w0 w : World} {oa og ob : Option Addr} {ca cg cb gs m : Nat} {A : List Ac} {T X G ab : List Int} {succ : Nat → List Int} {gst gix gwr gfl : Nat} (u3 u4 u5 u6 u7 u8 u11 u12 u13 u14 u18 u19 u20 u21 u22 u23 u24 u25 u26 u27 u28 u29 u30 u31 u32 u33 u34 u35 u36 u37 u38 u39 u40 u41 u42 u43 u44 u45 u46 u47 u48 u49 u50 u51 u52 u53 u54 u55 u56 u57 u58 u59 u60 u61 u62 u63 u64 u65 u66 u67 u68 u69 u70 u71 u72 u73 u74 u75 u76 u77 u78 u79 u80 u81 u82 u83 u84 u85 u86 u87 u88 u89 u90 u91 u92 u93 u94 u95 u96 u97 u98 u99 u100 u101 u102 u103 u104 u105 u106 u107 u108 u109 u110 u111 u112 u113 u114 u115 u116 u117 u118 u119 u120 u121 u122 u123 u124 u125 u126 u127 u128 u129 u130 u131 u132 u133 u134 u135 u136 u137 u138 u139 u140 u141 u142 u143 u144 u145 u146 u147 u148 u149 u150 u151 u152 u153 u154 u155 u156 u157 u158 u159 u160 u161 u162 u163 u164 u165 u166 u167 u168 u169 u170 u171 u172 u173 u174 u175 u176 u177 u178 u179 u180 u181 u182 u183 u184 u185 u186 u187 u188 u189 u190 u191 u192 u193 u194 u195 u196 u197 u198 u199 u200 u201 u202 u203 u204 : Value)
    (HL : Hid (L4 wl w1 oa og ob gs m A T X G ab succ)) (HB : Hid (Below w1.heap.size w1 w0)) (HF : Hid (FS w0 gst gix gwr gfl m G A 0 w)) (hoff : offJ G A m ≤ 4096) :
    Code.wp Try.prog (tl Try.f16 9) (bodyPost Try.prog Try.f16 (RedP G A m w0)) ⟨#[.slice oa A.length ca, .slice ob ab.length cb, .slice og G.length cg, u3, u4, u5, u6, u7, u8, .int .i64 m, .slice (some ⟨gst, 0, none⟩) (m + 1) (m + 1), u11, u12, u13, u14, .slice (some ⟨gix, 0, none⟩) (offJ G A m) (offJ G A m), .slice (some ⟨gwr, 0, none⟩) (offJ G A m) (offJ G A m), .slice (some ⟨gfl, 0, none⟩) m m, u18, u19, u20, u21, u22, u23, u24, u25, u26, u27, u28, u29, u30, u31, u32, u33, u34, u35, u36, u37, u38, u39, u40, u41, u42, u43, u44, u45, u46, u47, u48, u49, u50, u51, u52, u53, u54, u55, u56, u57, u58, u59, u60, u61, u62, u63, u64, u65, u66, u67, u68, u69, u70, u71, u72, u73, u74, u75, u76, u77, u78, u79, u80, u81, u82, u83, u84, u85, u86, u87, u88, u89, u90, u91, u92, u93, u94, u95, u96, u97, u98, u99, u100, u101, u102, u103, u104, u105, u106, u107, u108, u109, u110, u111, u112, u113, u114, u115, u116, u117, u118, u119, u120, u121, u122, u123, u124, u125, u126, u127, u128, u129, u130, u131, u132, u133, u134, u135, u136, u137, u138, u139, u140, u141, u142, u143, u144, u145, u146, u147, u148, u149, u150, u151, u152, u153, u154, u155, u156, u157, u158, u159, u160, u161, u162, u163, u164, u165, u166, u167, u168, u169, u170, u171, u172, u173, u174, u175, u176, u177, u178, u179, u180, u181, u182, u183, u184, u185, u186, u187, u188, u189, u190, u191, u192, u193, u194, u195, u196, u197, u198, u199, u200, u201, u202, u203, u204], []⟩ w := by
  have hA : A.length ≤ 4096 := HL.out.lA
  have hm : m ≤ 4096 := HL.out.hm
  have hG : G.length ≤ 12288 := HL.out.lG
  have hab : ab.length ≤ 4096 := HL.out.lb
  have HOF : Hid (∃ n, n = offJ G A m) := ⟨_, rfl⟩
  obtain ⟨n, hn⟩ := HOF.out
  have HN : Hid (n = offJ G A m) := hn
  rw [← hn]
  rw [← hn] at hoff
  clear hn HOF
  rw [tl16_9]
  refine wp_seq_k (fun K hK => ?_)
  conv => arg 2; whnf
  go_wp2_with fail
  go_loopw [84] (fun vq wr => ∃ q : Nat, vq = .int .i64 q ∧ q ≤ A.length ∧ Hid (FS w0 gst gix gwr gfl m G A q wr)) (fun vq _ => A.length - (intOf vq).toNat)
  case atStart => exact ⟨0, rfl, Nat.zero_le _, HF⟩
  case round =>
    clear HF
    obtain ⟨q, rfl, hq, HO⟩ := hrel
    by_cases hql : q < A.length
    · have hql' : (q : Int) < (A.length : Int) := by omega
      have hbel : Below w1.heap.size w1 wr := HB.out.trans (HO.out.st.b.mono HB.out.size)
      obtain ⟨b, off, hoa, c0, c1, c2⟩ := acc_cell (HL.out.sa.below hbel) hql
      have hix := HL.out.ix hql
      have hit := HL.out.hI q hql
      obtain ⟨gd, hgd⟩ : ∃ gd, A.getD q a0 = gd := ⟨_, rfl⟩
      have HGD : Hid (A.getD q a0 = gd) := hgd
      rw [hgd] at c0 c1 c2 hix hit
      obtain ⟨f, hf⟩ : ∃ f : Nat, gd.item = f := ⟨gd.item.toNat, by omega⟩
      rw [hf] at c1 hit
      have hfm : f < m := by omega
      have hfm' : (f : Int) < (m : Int) := by omega
      have HFI : Hid (gd.item = f) := hf
      obtain ⟨w2, hw2⟩ : ∃ w2, w2 = wr.alloc (.cells #[.int .i64 gd.tx, .int .i32 f, .bool gd.wr] 37) := ⟨_, rfl⟩
      have hb2 : Below wr.heap.size wr w2 := by rw [hw2]; exact (Below.refl _ _).alloc (Nat.le_refl _) _
      have hblk2 : w2.heap[wr.heap.size]? = some (.cells #[.int .i64 gd.tx, .int .i32 f, .bool gd.wr] 37 (0, 0)) := by rw [hw2]; exact heap_alloc_new wr _
      have k0 : w2.cell? ⟨wr.heap.size, 0, none⟩ = some (.int .i64 gd.tx) := cell_blk hblk2 rfl
      have k1 : w2.cell? ⟨wr.heap.size, 1, none⟩ = some (.int .i32 f) := cell_blk hblk2 rfl
      have HO2 : Hid _ := HO.out.below hb2
      have HK2 : Hid _ := hblk2
      have HW2 : Hid (w2 = wr.alloc (.cells #[.int .i64 gd.tx, .int .i32 f, .bool gd.wr] 37)) := hw2
      have hbel2 : Below w1.heap.size w1 w2 := hbel.trans (hb2.mono hbel.size)
      have HF1 : Hid _ := find_any ob cb ab gd.tx w2 (HL.out.sb.below hbel2) HL.out.abs (by omega)
      have HBe2 : Hid _ := hbel2
      subst hoa
      clear hw2 hb2 hblk2 HO hgd hbel hbel2 hf
      go_upto_region 20 with fail
      rw [← HW2.out]
      clear HW2 c0 c1 c2
      generalize wr.heap.size = b9 at k0 k1 HK2 ⊢
      rcases hix with ⟨hx1, _⟩ | ⟨hx1, hGi, si, hsi, hsi2, _⟩
      · obtain ⟨kk, hkk, _⟩ := fnd_in hx1
        rw [hkk] at HF1
        have HZ : Hid (FS w0 gst gix gwr gfl m G A (q + 1) w2) := HO2.out.skip hql (by
          rw [HGD.out]
          intro hg
          exact ((HL.out.gp.2 _).1 hg).2 ((HL.out.abm _).1 hx1))
        clear hx1 hkk HO2 HK2
        go_wp2_with fail
        refine Calls.mono HF1.out ?_
        rintro e w4 ⟨rfl, hw4⟩
        subst hw4
        go_wp2_with fail
        go_roundw
        case rel => exact ⟨q + 1, by go_num, by omega, HZ⟩
        case measure => simp [intOf]; omega
      · have hab1 : fnd ab gd.tx = -1 := fnd_out hx1
        rw [hab1] at HF1
        clear hab1 hx1
        obtain ⟨lq, hlq⟩ : ∃ lq, lq = (itemL G (A.take q) f).length := ⟨_, rfl⟩
        obtain ⟨p, hp⟩ : ∃ p, p = offJ G A f + lq := ⟨_, rfl⟩
        obtain ⟨of, hof⟩ : ∃ of, of = offJ G A f := ⟨_, rfl⟩
        have cst := (HO2.out.st.cell (show f ≤ m by omega)).1
        rw [← hof] at cst
        obtain ⟨FL, fl1, fl2, fl3⟩ := HO2.out.fl
        have cfl := fl1.cell (show f < FL.length by omega)
        rw [fl3 f hfm, ← hlq] at cfl
        have hlt : lq < lenJ G A f := by
          have h1 := itemL_mono G A (q + 1) f
          rw [itemL_take G A q f hql (by rw [HGD.out]; exact hGi) (by rw [HGD.out]; exact HFI.out), updV_same, List.length_append] at h1
          simp at h1
          unfold lenJ; omega
        have hpn : p < n := by rw [hp, HN.out]; exact off_lt hfm hlt
        have hpn' : (p : Int) < (n : Int) := by omega
        have hpe : (of : Int) + (lq : Int) = (p : Int) := by omega
        have HSv : Hid (lq = (itemL G (A.take q) f).length ∧ p = offJ G A f + lq ∧ gd.tx ∈ G ∧ si = G.idxOf gd.tx) := ⟨hlq, hp, hGi, hsi2⟩
        clear hlq hof hp hsi2 fl1 fl2 fl3 hGi hlt
        go_wp2_with fail
        refine Calls.mono HF1.out ?_
        rintro e w4 ⟨rfl, hw4⟩
        subst hw4
        clear HF1
        go_upto_region 22 with fail
        go_quiet (fail)
        obtain ⟨wq, hwq⟩ : ∃ wq, wq = w4.drewN nq := ⟨_, rfl⟩
        have hbq : Below w4.heap.size w4 wq := by rw [hwq]; exact below_drewN (Below.refl _ _) nq
        rw [← hwq]
        have HOq : Hid _ := HO2.out.below hbq
        have HKq : Hid _ := blk_below hbq HK2.out
        have hbel3 : Below w1.heap.size w1 wq := HBe2.out.trans (hbq.mono HBe2.out.size)
        have HF2 : Hid _ := find_any og cg G gd.tx wq (HL.out.sg.below hbel3) (HL.out.gp.1.imp (fun h => by omega)) (by omega)
        have hG1 : fnd G gd.tx = si := by rw [HSv.out.2.2.2]; simp [fnd, HSv.out.2.2.1]
        rw [hG1] at HF2
        have k0q : wq.cell? ⟨b9, 0, none⟩ = some (.int .i64 gd.tx) := cell_blk HKq.out rfl
        have hput := HOq.out.put hql (by rw [HGD.out]; exact HSv.out.2.2.1) (by rw [HGD.out]; exact HFI.out) hfm
        rw [HGD.out, ← HSv.out.1, ← HSv.out.2.1, ← HSv.out.2.2.2] at hput
        have HP : Hid (FS w0 gst gix gwr gfl m G A (q + 1) (((wq.setCell ⟨gix, p, none⟩ (.int .i32 si)).setCell ⟨gwr, p, none⟩ (.bool gd.wr)).setCell ⟨gfl, f, none⟩ (.int .i64 ((lq : Int) + 1)))) := hput
        obtain ⟨IX, x1, x2, _⟩ := HOq.out.ix
        obtain ⟨WR, y1, y2, _⟩ := HOq.out.wb
        obtain ⟨FL2, z1, z2, z3⟩ := HOq.out.fl
        have n1 : gix ≠ gwr := ne_of_tag x1 y1 (by decide)
        have n2 : gix ≠ gfl := ne_of_tag x1 z1 (by decide)
        have n3 : gwr ≠ gfl := ne_of_tag y1 z1 (by decide)
        have n4 : b9 ≠ gix := ne_of_tag HKq.out x1 (by decide)
        have n5 : b9 ≠ gwr := ne_of_tag HKq.out y1 (by decide)
        have s1 : wq.cell? ⟨gix, p, none⟩ = some (.int .i32 (IX.getD p 0)) := cell_blk x1 (by simp [ints, x2, ← HN.out, hpn])
        have t1 := frz_blk x1 p
        have y1A := blk_kept (grown_setCell (w := wq) gix p (.int .i32 si)) y1 (by simpa using Ne.symm n1)
        have s2 : (wq.setCell ⟨gix, p, none⟩ (.int .i32 si)).cell? ⟨gwr, p, none⟩ = some (.bool (WR.getD p false)) := cell_blk y1A (by simp [bools, y2, ← HN.out, hpn])
        have t2 := frz_blk y1A p
        have kA2 : (wq.setCell ⟨gix, p, none⟩ (.int .i32 si)).cell? ⟨b9, 2, none⟩ = some (.bool gd.wr) := cell_setCell_other (cell_blk HKq.out rfl) n4
        have z1A : BI ((wq.setCell ⟨gix, p, none⟩ (.int .i32 si)).setCell ⟨gwr, p, none⟩ (.bool gd.wr)) gfl FL2 := (BI.kept z1 (Ne.symm n2) p _).kept (Ne.symm n3) p _
        have s3 := z1A.cell (show f < FL2.length by omega)
        rw [z3 f hfm, ← HSv.out.1] at s3
        have t3 := frz_blk z1A f
        generalize IX.getD p 0 = xo at s1
        generalize WR.getD p false = yo at s2
        clear hput hwq hbq hbel3 hG1 x1 x2 y1 y2 z1 z2 z3 y1A z1A n1 n2 n3 n4 n5 k0 k1 cst cfl HO2 HK2 HOq HKq HSv
        go_wp2_with fail
        refine Calls.mono HF2.out ?_
        rintro e w5 ⟨rfl, hw5⟩
        subst hw5
        clear HF2
        go_wp2_with fail
        go_roundw
        case rel => exact ⟨q + 1, by go_num, by omega, HP⟩
        case measure => simp [intOf]; omega
    · have hqe : q = A.length := by omega
      have HRA : Hid (RA w0 gst gix gwr m G A wr) := by
        have := HO.out
        rw [hqe] at this
        exact this.fin
      clear HO
      subst hqe
      rw [HN.out] at hoff
      rw [HN.out]
      go_wp2_with fail
      rw [tl16_10]
      refine wp_seq_k (fun K hK => ?_)
      conv => arg 2; whnf
      go_wp2_with fail
      exact a11 _ _ _ _ _ _ _ _ _ _ _ _ _ _ _ _ _ _ _ _ _ _ _ _ _ _ _ _ _ _ _ _ _ _ _ _ _ _ _ _ _ _ _ _ _ _ _ _ _ _ _ _ _ _ _ _ _ _ _ _ _ _ _ _ _ _ _ _ _ _ _ _ _ _ _ _ _ _ _ _ _ _ _ _ _ _ _ _ _ _ _ _ _ _ _ _ _ _ _ _ _ _ _ _ _ _ _ _ _ _ _ _ _ _ _ _ _ _ _ _ _ _ _ _ _ _ _ _ _ _ _ _ _ _ _ _ _ _ _ _ _ _ _ _ _ _ _ _ _ _ _ _ _ _ _ _ _ _ _ _ _ _ _ _ _ _ _ _ _ _ _ _ _ _ _ _ _ _ _ _ _ _ _ _ _ _ _ _ _ _ _ _ _ _ _ _ _ _ _ _ HRA hoff hm hG

theorem wrap64 {x : Int} (h : -4611686018427387904 ≤ x ∧ x ≤ 4611686018427387904) : IntKind.i64.wrap x = x := by
  unfold IntKind.wrap
  simp [IntKind.bits, IntKind.signed]
  omega
theorem Try.info4 : (Try.prog.info? 4).map (fun i => (i.zero, i.size, i.bytes)) = some (some (.bool false), 1, 1) := by kernel_rfl

set_option maxRecDepth 100000 in
set_option maxHeartbeats 4000000 in
theorem a5 {wl w1 w0 w : World} {oa og ob : Option Addr} {ca cg cb gs m : Nat} {A : List Ac} {T X G ab : List Int} {succ : Nat → List Int} {gst : Nat} (u3 u4 u5 u6 u7 u8 u11 u12 u13 u14 u15 u16 u17 u18 u19 u20 u21 u22 u23 u24 u25 u26 u27 u28 u29 u30 u31 u32 u33 u34 u35 u36 u37 u38 u39 u40 u41 u42 u43 u44 u45 u46 u47 u48 u49 u50 u51 u52 u53 u54 u55 u56 u57 u58 u59 u60 u61 u62 u63 u64 u65 u66 u67 u68 u69 u70 u71 u72 u73 u74 u75 u76 u77 u78 u79 u80 u81 u82 u83 u84 u85 u86 u87 u88 u89 u90 u91 u92 u93 u94 u95 u96 u97 u98 u99 u100 u101 u102 u103 u104 u105 u106 u107 u108 u109 u110 u111 u112 u113 u114 u115 u116 u117 u118 u119 u120 u121 u122 u123 u124 u125 u126 u127 u128 u129 u130 u131 u132 u133 u134 u135 u136 u137 u138 u139 u140 u141 u142 u143 u144 u145 u146 u147 u148 u149 u150 u151 u152 u153 u154 u155 u156 u157 u158 u159 u160 u161 u162 u163 u164 u165 u166 u167 u168 u169 u170 u171 u172 u173 u174 u175 u176 u177 u178 u179 u180 u181 u182 u183 u184 u185 u186 u187 u188 u189 u190 u191 u192 u193 u194 u195 u196 u197 u198 u199 u200 u201 u202 u203 u204 : Value)
    (HL : Hid (L4 wl w1 oa og ob gs m A T X G ab succ)) (HB : Hid (Below w1.heap.size w1 w0)) (HC : Hid (CT w0 gst m (fun j => (offJ G A j : Int)) w)) (hoff : offJ G A m ≤ 4096) :
    Code.wp Try.prog (tl Try.f16 5) (bodyPost Try.prog Try.f16 (RedP G A m w0)) ⟨#[.slice oa A.length ca, .slice ob ab.length cb, .slice og G.length cg, u3, u4, u5, u6, u7, u8, .int .i64 m, .slice (some ⟨gst, 0, none⟩) (m + 1) (m + 1), u11, u12, u13, u14, u15, u16, u17, u18, u19, u20, u21, u22, u23, u24, u25, u26, u27, u28, u29, u30, u31, u32, u33, u34, u35, u36, u37, u38, u39, u40, u41, u42, u43, u44, u45, u46, u47, u48, u49, u50, u51, u52, u53, u54, u55, u56, u57, u58, u59, u60, u61, u62, u63, u64, u65, u66, u67, u68, u69, u70, u71, u72, u73, u74, u75, u76, u77, u78, u79, u80, u81, u82, u83, u84, u85, u86, u87, u88, u89, u90, u91, u92, u93, u94, u95, u96, u97, u98, u99, u100, u101, u102, u103, u104, u105, u106, u107, u108, u109, u110, u111, u112, u113, u114, u115, u116, u117, u118, u119, u120, u121, u122, u123, u124, u125, u126, u127, u128, u129, u130, u131, u132, u133, u134, u135, u136, u137, u138, u139, u140, u141, u142, u143, u144, u145, u146, u147, u148, u149, u150, u151, u152, u153, u154, u155, u156, u157, u158, u159, u160, u161, u162, u163, u164, u165, u166, u167, u168, u169, u170, u171, u172, u173, u174, u175, u176, u177, u178, u179, u180, u181, u182, u183, u184, u185, u186, u187, u188, u189, u190, u191, u192, u193, u194, u195, u196, u197, u198, u199, u200, u201, u202, u203, u204], []⟩ w := by
  have hm : m ≤ 4096 := HL.out.hm
  obtain ⟨i3, hi3, hz3, hy3, hx3⟩ := info_parts Try.info3
  obtain ⟨i21, hi21, hz21, hy21, hx21⟩ := info_parts Try.info21
  obtain ⟨i4, hi4, hz4, hy4, hx4⟩ := info_parts Try.info4
  have cm := (HC.out.cell (Nat.le_refl m)).1
  have hsz : w0.heap.size ≤ w.heap.size := HC.out.b.size
  rw [tl16_5]
  refine wp_seq_k (fun K hK => ?_)
  conv => arg 2; whnf
  go_wp2_with fail
  clear cm
  rw [tl16_6]
  refine wp_seq_k (fun K hK => ?_)
  conv => arg 2; whnf
  go_wp2_with (at_make; go_must (refine wpList_make_full _ rfl _ _ 44 rfl w0.heap.size 21 i21 (.int .i32 0) 1 Try.underlying44 hi21 hz21 hy21 .i64 .i64 _ _ (offJ G A m) rfl rfl rfl rfl (by rw [hx21]; omega) (by unfold maxLen; omega) hsz ?_; intro wa howna hgrowa))
  have hba := below_of_grown hgrowa
  have HA : Hid (wa.heap[w.heap.size]? = some (.cells (ints (List.replicate (offJ G A m) 0)).toArray 21 (0, 0)) ∧ CT w0 gst m (fun j => (offJ G A j : Int)) wa ∧ w0.heap.size ≤ w.heap.size) := ⟨by
    obtain ⟨r1, r2⟩ := row_block howna
    rw [made1 _ _ rfl] at r1
    rw [r1]; simp [ints], HC.out.below hba, hsz⟩
  have hsza : w0.heap.size ≤ wa.heap.size := HA.out.2.1.b.size
  generalize w.heap.size = gix at HA ⊢
  clear howna hgrowa hba HC hsz
  rw [tl16_7]
  refine wp_seq_k (fun K hK => ?_)
  conv => arg 2; whnf
  go_wp2_with (at_make; go_must (refine wpList_make_full _ rfl _ _ 74 rfl w0.heap.size 4 i4 (.bool false) 1 Try.underlying74 hi4 hz4 hy4 .i64 .i64 _ _ (offJ G A m) rfl rfl rfl rfl (by rw [hx4]; omega) (by unfold maxLen; omega) hsza ?_; intro wb hownb hgrowb))
  have hbb := below_of_grown hgrowb
  have HB2 : Hid (wb.heap[wa.heap.size]? = some (.cells (bools (List.replicate (offJ G A m) false)).toArray 4 (0, 0)) ∧ wb.heap[gix]? = some (.cells (ints (List.replicate (offJ G A m) 0)).toArray 21 (0, 0)) ∧ CT w0 gst m (fun j => (offJ G A j : Int)) wb ∧ w0.heap.size ≤ gix ∧ w0.heap.size ≤ wa.heap.size) := ⟨by
    obtain ⟨r1, r2⟩ := row_block hownb
    rw [made1 _ _ rfl] at r1
    rw [r1]; simp [bools], blk_below hbb HA.out.1, HA.out.2.1.below hbb, HA.out.2.2, hsza⟩
  have hszb : w0.heap.size ≤ wb.heap.size := HB2.out.2.2.1.b.size
  generalize wa.heap.size = gwr at HB2 ⊢
  clear hownb hgrowb hbb HA hsza
  rw [tl16_8]
  refine wp_seq_k (fun K hK => ?_)
  conv => arg 2; whnf
  go_wp2_with (at_make; go_must (refine wpList_make_full _ rfl _ _ 35 rfl w0.heap.size 3 i3 (.int .i64 0) 1 Try.underlying35 hi3 hz3 hy3 .i64 .i64 _ _ m rfl rfl rfl rfl (by rw [hx3]; omega) (by unfold maxLen; omega) hszb ?_; intro wc hownc hgrowc))
  have hbc := below_of_grown hgrowc
  have HF : Hid (FS w0 gst gix gwr wb.heap.size m G A 0 wc) := by
    obtain ⟨h1, h2, h3, h4, h5⟩ := HB2.out
    have hz : ∀ j, (itemL G (A.take 0) j).length = 0 := fun j => by simp [itemL]
    refine ⟨h3.below hbc, ⟨_, blk_below hbc h2, by simp, fun j _ k hk => by rw [hz] at hk; omega⟩, ⟨_, blk_below hbc h1, by simp, fun j _ k hk => by rw [hz] at hk; omega⟩, ⟨_, made_ints hownc, by simp, fun j hj => by rw [hz]; simp [hj]⟩, ?_, h4, h5, hszb⟩
    obtain ⟨ST, q1, _⟩ := h3.s
    have := q1.lt
    omega
  clear hownc hgrowc hbc HB2
  exact a9 _ _ _ _ _ _ _ _ _ _ _ _ _ _ _ _ _ _ _ _ _ _ _ _ _ _ _ _ _ _ _ _ _ _ _ _ _ _ _ _ _ _ _ _ _ _ _ _ _ _ _ _ _ _ _ _ _ _ _ _ _ _ _ _ _ _ _ _ _ _ _ _ _ _ _ _ _ _ _ _ _ _ _ _ _ _ _ _ _ _ _ _ _ _ _ _ _ _ _ _ _ _ _ _ _ _ _ _ _ _ _ _ _ _ _ _ _ _ _ _ _ _ _ _ _ _ _ _ _ _ _ _ _ _ _ _ _ _ _ _ _ _ _ _ _ _ _ _ _ _ _ _ _ _ _ _ _ _ _ _ _ _ _ _ _ _ _ _ _ _ _ _ _ _ _ _ _ _ _ _ _ _ _ _ _ _ _ _ _ _ _ _ _ _ _ _ _ HL HB HF hoff

set_option maxRecDepth 100000 in
set_option maxHeartbeats 4000000 in
theorem a4 {wl w1 w0 w : World} {oa og ob : Option Addr} {ca cg cb gs m : Nat} {A : List Ac} {T X G ab : List Int} {succ : Nat → List Int} {gst : Nat} (u3 u4 u5 u6 u7 u8 u11 u12 u13 u14 u15 u16 u17 u18 u19 u20 u21 u22 u23 u24 u25 u26 u27 u28 u29 u30 u31 u32 u33 u34 u35 u36 u37 u38 u39 u40 u41 u42 u43 u44 u45 u46 u47 u48 u49 u50 u51 u52 u53 u54 u55 u56 u57 u58 u59 u60 u61 u62 u63 u64 u65 u66 u67 u68 u69 u70 u71 u72 u73 u74 u75 u76 u77 u78 u79 u80 u81 u82 u83 u84 u85 u86 u87 u88 u89 u90 u91 u92 u93 u94 u95 u96 u97 u98 u99 u100 u101 u102 u103 u104 u105 u106 u107 u108 u109 u110 u111 u112 u113 u114 u115 u116 u117 u118 u119 u120 u121 u122 u123 u124 u125 u126 u127 u128 u129 u130 u131 u132 u133 u134 u135 u136 u137 u138 u139 u140 u141 u142 u143 u144 u145 u146 u147 u148 u149 u150 u151 u152 u153 u154 u155 u156 u157 u158 u159 u160 u161 u162 u163 u164 u165 u166 u167 u168 u169 u170 u171 u172 u173 u174 u175 u176 u177 u178 u179 u180 u181 u182 u183 u184 u185 u186 u187 u188 u189 u190 u191 u192 u193 u194 u195 u196 u197 u198 u199 u200 u201 u202 u203 u204 : Value)
    (HL : Hid (L4 wl w1 oa og ob gs m A T X G ab succ)) (HB : Hid (Below w1.heap.size w1 w0)) (HC : Hid (CT w0 gst m (cntF G A A.length) w)) (hoff : offJ G A m ≤ 4096) :
    Code.wp Try.prog (tl Try.f16 4) (bodyPost Try.prog Try.f16 (RedP G A m w0)) ⟨#[.slice oa A.length ca, .slice ob ab.length cb, .slice og G.length cg, u3, u4, u5, u6, u7, u8, .int .i64 m, .slice (some ⟨gst, 0, none⟩) (m + 1) (m + 1), u11, u12, u13, u14, u15, u16, u17, u18, u19, u20, u21, u22, u23, u24, u25, u26, u27, u28, u29, u30, u31, u32, u33, u34, u35, u36, u37, u38, u39, u40, u41, u42, u43, u44, u45, u46, u47, u48, u49, u50, u51, u52, u53, u54, u55, u56, u57, u58, u59, u60, u61, u62, u63, u64, u65, u66, u67, u68, u69, u70, u71, u72, u73, u74, u75, u76, u77, u78, u79, u80, u81, u82, u83, u84, u85, u86, u87, u88, u89, u90, u91, u92, u93, u94, u95, u96, u97, u98, u99, u100, u101, u102, u103, u104, u105, u106, u107, u108, u109, u110, u111, u112, u113, u114, u115, u116, u117, u118, u119, u120, u121, u122, u123, u124, u125, u126, u127, u128, u129, u130, u131, u132, u133, u134, u135, u136, u137, u138, u139, u140, u141, u142, u143, u144, u145, u146, u147, u148, u149, u150, u151, u152, u153, u154, u155, u156, u157, u158, u159, u160, u161, u162, u163, u164, u165, u166, u167, u168, u169, u170, u171, u172, u173, u174, u175, u176, u177, u178, u179, u180, u181, u182, u183, u184, u185, u186, u187, u188, u189, u190, u191, u192, u193, u194, u195, u196, u197, u198, u199, u200, u201, u202, u203, u204], []⟩ w := by
  have hm : m ≤ 4096 := HL.out.hm
  have HC0 : Hid (CT w0 gst m (sumQ G A (0 + 1)) w) := by rw [Nat.zero_add, sumQ_one]; exact HC.out
  have HBd : Hid (∀ j, j ≤ m → ∀ k, 0 ≤ sumQ G A k j ∧ sumQ G A k j ≤ 4096) := fun j hj k => by
    unfold sumQ
    have h1 : offJ G A j ≤ offJ G A m := sumF_mono _ hj
    split
    · omega
    · cases j with
      | zero => simp [cntF]
      | succ j =>
        have h2 : offJ G A (j + 1) = offJ G A j + lenJ G A j := rfl
        have e : cntF G A A.length (j + 1) = ((itemL G (A.take A.length) j).length : Int) := rfl
        rw [e, List.take_length]
        unfold lenJ at h2
        omega
  clear HC
  rw [tl16_4]
  refine wp_seq_k (fun K hK => ?_)
  conv => arg 2; whnf
  go_wp2_with fail
  go_loopw [13] (fun vk wr => ∃ k : Nat, vk = .int .i64 ((k : Int) + 1) ∧ k ≤ m ∧ Hid (CT w0 gst m (sumQ G A (k + 1)) wr)) (fun vk _ => m + 1 - (intOf vk).toNat)
  case atStart => exact ⟨0, by simp, Nat.zero_le _, HC0⟩
  case round =>
    clear HC0
    obtain ⟨k, rfl, hk, HO⟩ := hrel
    by_cases hkm : k + 1 ≤ m
    · have hkm' : (k : Int) + 1 ≤ (m : Int) := by omega
      have hkm2 : (k : Int) + 1 < (m : Int) + 1 := by omega
      have hkm3 : (k : Int) < (m : Int) + 1 := by omega
      have hkp : (0 : Int) ≤ (k : Int) + 1 := by omega
      have ht1 : ((k : Int) + 1).toNat = k + 1 := by omega
      have hs1 : (k : Int) + 1 - 1 = (k : Int) := by omega
      obtain ⟨c1, f1⟩ := HO.out.cell hkm
      obtain ⟨c0, f0⟩ := HO.out.cell (show k ≤ m by omega)
      have b1 := HBd.out (k + 1) hkm (k + 1)
      have b0 := HBd.out k (by omega) (k + 1)
      have hput := (HO.out.below ((Below.refl wr.heap.size wr).drew)).put hkm (sumQ G A (k + 1) (k + 1) + sumQ G A (k + 1) k)
      rw [← sumQ_step] at hput
      generalize sumQ G A (k + 1) (k + 1) = x1 at c1 b1 hput
      generalize sumQ G A (k + 1) k = x0 at c0 b0 hput
      have HP : Hid (CT w0 gst m (sumQ G A (k + 1 + 1)) (wr.drew.setCell ⟨gst, k + 1, none⟩ (.int .i64 (x1 + x0)))) := hput
      have f1d : wr.drew.frozen? ⟨gst, k + 1, none⟩ = false := f1
      have c1d : wr.drew.cell? ⟨gst, k + 1, none⟩ = some (.int .i64 x1) := c1
      clear hput HO
      go_wp2_with fail
      refine wp_shade2 (fun KK hKK => ?_)
      have HKK : Hid _ := hKK
      clear hKK
      refine wp_region_but 11 (fun w' => w'.cell? ⟨gst, k + 1, none⟩ = some (.int .i64 x1) ∧ w'.cell? ⟨gst, k, none⟩ = some (.int .i64 x0)) (by kernel_rfl) ?_
      have hS : (fun w' : World => w'.cell? ⟨gst, k + 1, none⟩ = some (.int .i64 x1) ∧ w'.cell? ⟨gst, k, none⟩ = some (.int .i64 x0)) wr.drew := ⟨c1, c0⟩
      refine wpBut_take (i := 0) (oi := { dst := some 61, op := Go.Op.move (Go.Operand.tmp 10), type := 35, pos := "laws_internal_history_b1.go:351", after := #[], guard := none }) (v := .slice (some ⟨gst, 0, none⟩) (m + 1) (m + 1)) rfl (by kernel_rfl) (by kernel_rfl) (by kernel_rfl) (by kernel_rfl) (fun _ _ _ h => h) (Or.inl ⟨by rfl, fun wx hx => ?_⟩) hS ?_
      · obtain ⟨x0, x1⟩ := hx
        go_simp
      simp only [Act.put, List.setIfInBounds_toArray, List.set_cons_zero, List.set_cons_succ]
      refine wpBut_take (i := 1) (oi := { dst := some 62, op := Go.Op.move (Go.Operand.tmp 13), type := 3, pos := "laws_internal_history_b1.go:351", after := #[], guard := none }) (v := .int .i64 ((k : Int) + 1)) rfl (by kernel_rfl) (by kernel_rfl) (by kernel_rfl) (by kernel_rfl) (fun _ _ _ h => h) (Or.inl ⟨by rfl, fun wx hx => ?_⟩) hS ?_
      · obtain ⟨x0, x1⟩ := hx
        go_simp
      simp only [Act.put, List.setIfInBounds_toArray, List.set_cons_zero, List.set_cons_succ]
      refine wpBut_take (i := 2) (oi := { dst := some 63, op := Go.Op.indexAddr 35 (Go.Operand.tmp 61) (Go.Operand.tmp 62), type := 0, pos := "laws_internal_history_b1.go:351", after := #[{ on := 0, ground := Go.Ground.data }, { on := 1, ground := Go.Ground.data }], guard := none }) (v := .pointer (some ⟨gst, k + 1, none⟩)) rfl (by kernel_rfl) (by kernel_rfl) (by kernel_rfl) (by kernel_rfl) (fun _ _ _ h => h) (Or.inl ⟨by rfl, fun wx hx => ?_⟩) hS ?_
      · obtain ⟨x0, x1⟩ := hx
        go_simp
      simp only [Act.put, List.setIfInBounds_toArray, List.set_cons_zero, List.set_cons_succ]
      refine wpBut_take (i := 3) (oi := { dst := some 64, op := Go.Op.load 3 (Go.Operand.tmp 63), type := 3, pos := "laws_internal_history_b1.go:351", after := #[{ on := 2, ground := Go.Ground.data }], guard := none }) (v := .int .i64 x1) rfl (by kernel_rfl) (by kernel_rfl) (by kernel_rfl) (by kernel_rfl) (fun _ _ _ h => h) (Or.inl ⟨by rfl, fun wx hx => ?_⟩) hS ?_
      · obtain ⟨x0, x1⟩ := hx
        go_simp
      simp only [Act.put, List.setIfInBounds_toArray, List.set_cons_zero, List.set_cons_succ]
      refine wpBut_take (i := 4) (oi := { dst := some 65, op := Go.Op.move (Go.Operand.tmp 10), type := 35, pos := "laws_internal_history_b1.go:351", after := #[], guard := none }) (v := .slice (some ⟨gst, 0, none⟩) (m + 1) (m + 1)) rfl (by kernel_rfl) (by kernel_rfl) (by kernel_rfl) (by kernel_rfl) (fun _ _ _ h => h) (Or.inl ⟨by rfl, fun wx hx => ?_⟩) hS ?_
      · obtain ⟨x0, x1⟩ := hx
        go_simp
      simp only [Act.put, List.setIfInBounds_toArray, List.set_cons_zero, List.set_cons_succ]
      refine wpBut_take (i := 5) (oi := { dst := some 66, op := Go.Op.move (Go.Operand.tmp 13), type := 3, pos := "laws_internal_history_b1.go:351", after := #[], guard := none }) (v := .int .i64 ((k : Int) + 1)) rfl (by kernel_rfl) (by kernel_rfl) (by kernel_rfl) (by kernel_rfl) (fun _ _ _ h => h) (Or.inl ⟨by rfl, fun wx hx => ?_⟩) hS ?_
      · obtain ⟨x0, x1⟩ := hx
        go_simp
      simp only [Act.put, List.setIfInBounds_toArray, List.set_cons_zero, List.set_cons_succ]
      refine wpBut_take (i := 6) (oi := { dst := some 67, op := Go.Op.binOp Go.BinOp.sub 3 (Go.Operand.tmp 66) (Go.Operand.const (Go.Value.int Go.IntKind.i64 1)) 3, type := 3, pos := "laws_internal_history_b1.go:351", after := #[{ on := 5, ground := Go.Ground.data }], guard := none }) (v := .int .i64 k) rfl (by kernel_rfl) (by kernel_rfl) (by kernel_rfl) (by kernel_rfl) (fun _ _ _ h => h) (Or.inl ⟨by rfl, fun wx hx => ?_⟩) hS ?_
      · obtain ⟨x0, x1⟩ := hx
        go_simp
        exact wrap64 (by omega)
      simp only [Act.put, List.setIfInBounds_toArray, List.set_cons_zero, List.set_cons_succ]
      refine wpBut_take (i := 7) (oi := { dst := some 68, op := Go.Op.indexAddr 35 (Go.Operand.tmp 65) (Go.Operand.tmp 67), type := 0, pos := "laws_internal_history_b1.go:351", after := #[{ on := 4, ground := Go.Ground.data }, { on := 6, ground := Go.Ground.data }], guard := none }) (v := .pointer (some ⟨gst, k, none⟩)) rfl (by kernel_rfl) (by kernel_rfl) (by kernel_rfl) (by kernel_rfl) (fun _ _ _ h => h) (Or.inl ⟨by rfl, fun wx hx => ?_⟩) hS ?_
      · obtain ⟨x0, x1⟩ := hx
        go_simp
      simp only [Act.put, List.setIfInBounds_toArray, List.set_cons_zero, List.set_cons_succ]
      refine wpBut_take (i := 8) (oi := { dst := some 69, op := Go.Op.load 3 (Go.Operand.tmp 68), type := 3, pos := "laws_internal_history_b1.go:351", after := #[{ on := 7, ground := Go.Ground.data }], guard := none }) (v := .int .i64 x0) rfl (by kernel_rfl) (by kernel_rfl) (by kernel_rfl) (by kernel_rfl) (fun _ _ _ h => h) (Or.inl ⟨by rfl, fun wx hx => ?_⟩) hS ?_
      · obtain ⟨x0, x1⟩ := hx
        go_simp
      simp only [Act.put, List.setIfInBounds_toArray, List.set_cons_zero, List.set_cons_succ]
      refine wpBut_take (i := 9) (oi := { dst := some 70, op := Go.Op.binOp Go.BinOp.add 3 (Go.Operand.tmp 64) (Go.Operand.tmp 69) 3, type := 3, pos := "laws_internal_history_b1.go:351", after := #[{ on := 3, ground := Go.Ground.data }, { on := 8, ground := Go.Ground.data }], guard := none }) (v := .int .i64 (x1 + x0)) rfl (by kernel_rfl) (by kernel_rfl) (by kernel_rfl) (by kernel_rfl) (fun _ _ _ h => h) (Or.inl ⟨by rfl, fun wx hx => ?_⟩) hS ?_
      · obtain ⟨x0, x1⟩ := hx
        go_simp
        exact wrap64 (by omega)
      simp only [Act.put, List.setIfInBounds_toArray, List.set_cons_zero, List.set_cons_succ]
      refine wpBut_one (i := 10) (o := { dst := some 71, op := Go.Op.indexAddr 35 (Go.Operand.tmp 61) (Go.Operand.tmp 62), type := 0, pos := "laws_internal_history_b1.go:351", after := #[{ on := 0, ground := Go.Ground.data }, { on := 1, ground := Go.Ground.data }, { on := 0, ground := Go.Ground.phase }, { on := 1, ground := Go.Ground.phase }, { on := 2, ground := Go.Ground.phase }, { on := 3, ground := Go.Ground.phase }, { on := 4, ground := Go.Ground.phase }, { on := 5, ground := Go.Ground.phase }, { on := 6, ground := Go.Ground.phase }, { on := 7, ground := Go.Ground.phase }, { on := 8, ground := Go.Ground.phase }, { on := 9, ground := Go.Ground.phase }], guard := none }) (by kernel_rfl) rfl (fun K hK => ?_)
      go_simp
      refine hK.out _ _ hS ?_
      clear hK K
      try simp only [Act.put, List.setIfInBounds_toArray, List.set_cons_zero, List.set_cons_succ]
      refine wpBut_last (o := { dst := none, op := Go.Op.store 3 (Go.Operand.tmp 71) (Go.Operand.tmp 70), type := 0, pos := "laws_internal_history_b1.go:351", after := #[{ on := 10, ground := Go.Ground.data }, { on := 9, ground := Go.Ground.data }, { on := 0, ground := Go.Ground.phase }, { on := 1, ground := Go.Ground.phase }, { on := 2, ground := Go.Ground.phase }, { on := 3, ground := Go.Ground.phase }, { on := 4, ground := Go.Ground.phase }, { on := 5, ground := Go.Ground.phase }, { on := 6, ground := Go.Ground.phase }, { on := 7, ground := Go.Ground.phase }, { on := 8, ground := Go.Ground.phase }, { on := 9, ground := Go.Ground.phase }], guard := none }) (by kernel_rfl) rfl (by kernel_rfl) (fun K hK => ?_)
      go_simp
      refine hK.out _ _ ?_
      clear hK K
      refine HKK.out _ _ ?_
      clear HKK KK
      clear hS c0 c1 f0 f1 f1d c1d
      go_wp2_with fail
      go_roundw
      case rel => exact ⟨k + 1, by go_num, by omega, HP⟩
      case measure => simp [intOf]; omega
    · have hke : k = m := by omega
      have HZ : Hid (CT w0 gst m (fun j => (offJ G A j : Int)) wr) := by
        obtain ⟨ST, a, b, c⟩ := HO.out.s
        exact ⟨⟨ST, a, b, fun j hj => by rw [c j hj, hke]; exact sumQ_all G A m j hj⟩, HO.out.l, HO.out.b⟩
      have hkn : ¬ ((k : Int) + 1 ≤ (m : Int)) := by omega
      clear HO
      go_wp2_with fail
      exact a5 _ _ _ _ _ _ _ _ _ _ _ _ _ _ _ _ _ _ _ _ _ _ _ _ _ _ _ _ _ _ _ _ _ _ _ _ _ _ _ _ _ _ _ _ _ _ _ _ _ _ _ _ _ _ _ _ _ _ _ _ _ _ _ _ _ _ _ _ _ _ _ _ _ _ _ _ _ _ _ _ _ _ _ _ _ _ _ _ _ _ _ _ _ _ _ _ _ _ _ _ _ _ _ _ _ _ _ _ _ _ _ _ _ _ _ _ _ _ _ _ _ _ _ _ _ _ _ _ _ _ _ _ _ _ _ _ _ _ _ _ _ _ _ _ _ _ _ _ _ _ _ _ _ _ _ _ _ _ _ _ _ _ _ _ _ _ _ _ _ _ _ _ _ _ _ _ _ _ _ _ _ _ _ _ _ _ _ _ _ _ _ _ _ _ _ _ _ _ _ _ HL HB HZ hoff

set_option maxRecDepth 100000 in
set_option maxHeartbeats 4000000 in
theorem a3 {wl w1 w0 w : World} {oa og ob : Option Addr} {ca cg cb gs m : Nat} {A : List Ac} {T X G ab : List Int} {succ : Nat → List Int} {gst : Nat} (u3 u4 u5 u6 u7 u8 u11 u12 u13 u14 u15 u16 u17 u18 u19 u20 u21 u22 u23 u24 u25 u26 u27 u28 u29 u30 u31 u32 u33 u34 u35 u36 u37 u38 u39 u40 u41 u42 u43 u44 u45 u46 u47 u48 u49 u50 u51 u52 u53 u54 u55 u56 u57 u58 u59 u60 u61 u62 u63 u64 u65 u66 u67 u68 u69 u70 u71 u72 u73 u74 u75 u76 u77 u78 u79 u80 u81 u82 u83 u84 u85 u86 u87 u88 u89 u90 u91 u92 u93 u94 u95 u96 u97 u98 u99 u100 u101 u102 u103 u104 u105 u106 u107 u108 u109 u110 u111 u112 u113 u114 u115 u116 u117 u118 u119 u120 u121 u122 u123 u124 u125 u126 u127 u128 u129 u130 u131 u132 u133 u134 u135 u136 u137 u138 u139 u140 u141 u142 u143 u144 u145 u146 u147 u148 u149 u150 u151 u152 u153 u154 u155 u156 u157 u158 u159 u160 u161 u162 u163 u164 u165 u166 u167 u168 u169 u170 u171 u172 u173 u174 u175 u176 u177 u178 u179 u180 u181 u182 u183 u184 u185 u186 u187 u188 u189 u190 u191 u192 u193 u194 u195 u196 u197 u198 u199 u200 u201 u202 u203 u204 : Value)
    (HL : Hid (L4 wl w1 oa og ob gs m A T X G ab succ)) (HB : Hid (Below w1.heap.size w1 w0)) (HC : Hid (CT w0 gst m (cntF G A 0) w)) (hoff : offJ G A m ≤ 4096) :
    Code.wp Try.prog (tl Try.f16 3) (bodyPost Try.prog Try.f16 (RedP G A m w0)) ⟨#[.slice oa A.length ca, .slice ob ab.length cb, .slice og G.length cg, u3, u4, u5, u6, u7, u8, .int .i64 m, .slice (some ⟨gst, 0, none⟩) (m + 1) (m + 1), u11, u12, u13, u14, u15, u16, u17, u18, u19, u20, u21, u22, u23, u24, u25, u26, u27, u28, u29, u30, u31, u32, u33, u34, u35, u36, u37, u38, u39, u40, u41, u42, u43, u44, u45, u46, u47, u48, u49, u50, u51, u52, u53, u54, u55, u56, u57, u58, u59, u60, u61, u62, u63, u64, u65, u66, u67, u68, u69, u70, u71, u72, u73, u74, u75, u76, u77, u78, u79, u80, u81, u82, u83, u84, u85, u86, u87, u88, u89, u90, u91, u92, u93, u94, u95, u96, u97, u98, u99, u100, u101, u102, u103, u104, u105, u106, u107, u108, u109, u110, u111, u112, u113, u114, u115, u116, u117, u118, u119, u120, u121, u122, u123, u124, u125, u126, u127, u128, u129, u130, u131, u132, u133, u134, u135, u136, u137, u138, u139, u140, u141, u142, u143, u144, u145, u146, u147, u148, u149, u150, u151, u152, u153, u154, u155, u156, u157, u158, u159, u160, u161, u162, u163, u164, u165, u166, u167, u168, u169, u170, u171, u172, u173, u174, u175, u176, u177, u178, u179, u180, u181, u182, u183, u184, u185, u186, u187, u188, u189, u190, u191, u192, u193, u194, u195, u196, u197, u198, u199, u200, u201, u202, u203, u204], []⟩ w := by
  have hA : A.length ≤ 4096 := HL.out.lA
  have hm : m ≤ 4096 := HL.out.hm
  have hab : ab.length ≤ 4096 := HL.out.lb
  rw [tl16_3]
  refine wp_seq_k (fun K hK => ?_)
  conv => arg 2; whnf
  go_wp2_with fail
  go_loopw [37] (fun vq wr => ∃ q : Nat, vq = .int .i64 q ∧ q ≤ A.length ∧ Hid (CT w0 gst m (cntF G A q) wr)) (fun vq _ => A.length - (intOf vq).toNat)
  case atStart => exact ⟨0, rfl, Nat.zero_le _, HC⟩
  case round =>
    clear HC
    obtain ⟨q, rfl, hq, HO⟩ := hrel
    by_cases hql : q < A.length
    · have hql' : (q : Int) < (A.length : Int) := by omega
      have hbel : Below w1.heap.size w1 wr := HB.out.trans (HO.out.b.mono HB.out.size)
      obtain ⟨b, off, hoa, c0, c1, c2⟩ := acc_cell (HL.out.sa.below hbel) hql
      have hix := HL.out.ix hql
      have hit := HL.out.hI q hql
      obtain ⟨gd, hgd⟩ : ∃ gd, A.getD q a0 = gd := ⟨_, rfl⟩
      have HGD : Hid (A.getD q a0 = gd) := hgd
      rw [hgd] at c0 c1 c2 hix hit
      obtain ⟨f, hf⟩ : ∃ f : Nat, gd.item = f := ⟨gd.item.toNat, by omega⟩
      rw [hf] at c1 hit
      have hfm : f < m := by omega
      have HFI : Hid (gd.item = f) := hf
      obtain ⟨w2, hw2⟩ : ∃ w2, w2 = wr.alloc (.cells #[.int .i64 gd.tx, .int .i32 f, .bool gd.wr] 37) := ⟨_, rfl⟩
      have hb2 : Below wr.heap.size wr w2 := by rw [hw2]; exact (Below.refl _ _).alloc (Nat.le_refl _) _
      have hblk2 : w2.heap[wr.heap.size]? = some (.cells #[.int .i64 gd.tx, .int .i32 f, .bool gd.wr] 37 (0, 0)) := by rw [hw2]; exact heap_alloc_new wr _
      have k0 : w2.cell? ⟨wr.heap.size, 0, none⟩ = some (.int .i64 gd.tx) := cell_blk hblk2 rfl
      have k1 : w2.cell? ⟨wr.heap.size, 1, none⟩ = some (.int .i32 f) := cell_blk hblk2 rfl
      have HO2 : Hid _ := HO.out.below hb2
      have HW2 : Hid (w2 = wr.alloc (.cells #[.int .i64 gd.tx, .int .i32 f, .bool gd.wr] 37)) := hw2
      have hbel2 : Below w1.heap.size w1 w2 := hbel.trans (hb2.mono hbel.size)
      have HF1 : Hid _ := find_any ob cb ab gd.tx w2 (HL.out.sb.below hbel2) HL.out.abs (by omega)
      subst hoa
      clear hw2 hb2 hblk2 HO hgd hbel hbel2 hf
      go_upto_region 6 with fail
      rw [← HW2.out]
      clear HW2 c0 c1 c2
      generalize wr.heap.size = b9 at k0 k1 ⊢
      rcases hix with ⟨hx1, _⟩ | ⟨hx1, hGi, si, hsi, hsi2, _⟩
      · obtain ⟨kk, hkk, _⟩ := fnd_in hx1
        rw [hkk] at HF1
        have HZ : Hid (CT w0 gst m (cntF G A (q + 1)) w2) := by
          rw [cntF_skip G A q hql (by
            rw [HGD.out]
            intro hg
            exact ((HL.out.gp.2 _).1 hg).2 ((HL.out.abm _).1 hx1))]
          exact HO2.out
        clear hx1 hkk HO2
        go_wp2_with fail
        refine Calls.mono HF1.out ?_
        rintro e w4 ⟨rfl, hw4⟩
        subst hw4
        go_wp2_with fail
        go_roundw
        case rel => exact ⟨q + 1, by go_num, by omega, HZ⟩
        case measure => simp [intOf]; omega
      · have hab1 : fnd ab gd.tx = -1 := fnd_out hx1
        rw [hab1] at HF1
        obtain ⟨cc, fc⟩ := HO2.out.cell (show f + 1 ≤ m by omega)
        have hput := HO2.out.put (show f + 1 ≤ m by omega) (cntF G A q (f + 1) + 1)
        rw [← cntF_take G A q f hql (by rw [HGD.out]; exact hGi) (by rw [HGD.out]; exact HFI.out)] at hput
        have hcb : 0 ≤ cntF G A q (f + 1) ∧ cntF G A q (f + 1) ≤ 4096 := by
          have e : cntF G A q (f + 1) = ((itemL G (A.take q) f).length : Int) := rfl
          have h2 := itemL_len G (A.take q) f
          rw [List.length_take] at h2
          omega
        generalize cntF G A q (f + 1) = x0 at cc hput hcb
        have HP : Hid (CT w0 gst m (cntF G A (q + 1)) (w2.setCell ⟨gst, f + 1, none⟩ (.int .i64 (x0 + 1)))) := hput
        have hfm2 : (f : Int) + 1 < (m : Int) + 1 := by omega
        clear hput hab1 hx1 hGi hsi2 HO2
        go_wp2_with fail
        refine Calls.mono HF1.out ?_
        rintro e w4 ⟨rfl, hw4⟩
        subst hw4
        clear HF1
        go_wp2_with fail
        go_roundw
        case rel => exact ⟨q + 1, by go_num, by omega, HP⟩
        case measure => simp [intOf]; omega
    · have hqe : q = A.length := by omega
      subst hqe
      go_wp2_with fail
      exact a4 _ _ _ _ _ _ _ _ _ _ _ _ _ _ _ _ _ _ _ _ _ _ _ _ _ _ _ _ _ _ _ _ _ _ _ _ _ _ _ _ _ _ _ _ _ _ _ _ _ _ _ _ _ _ _ _ _ _ _ _ _ _ _ _ _ _ _ _ _ _ _ _ _ _ _ _ _ _ _ _ _ _ _ _ _ _ _ _ _ _ _ _ _ _ _ _ _ _ _ _ _ _ _ _ _ _ _ _ _ _ _ _ _ _ _ _ _ _ _ _ _ _ _ _ _ _ _ _ _ _ _ _ _ _ _ _ _ _ _ _ _ _ _ _ _ _ _ _ _ _ _ _ _ _ _ _ _ _ _ _ _ _ _ _ _ _ _ _ _ _ _ _ _ _ _ _ _ _ _ _ _ _ _ _ _ _ _ _ _ _ _ _ _ _ _ _ _ _ _ _ HL HB HO hoff

set_option maxRecDepth 100000 in
set_option maxHeartbeats 2000000 in
theorem red_any {wl w1 w : World} {oa og ob : Option Addr} {ca cg cb gs m : Nat} {A : List Ac} {T X G ab : List Int} {succ : Nat → List Int} (hL : L4 wl w1 oa og ob gs m A T X G ab succ) (hB : Below w1.heap.size w1 w) :
    Calls Try.prog 16 #[.slice oa A.length ca, .slice ob ab.length cb, .slice og G.length cg, .int .i32 m] w (RedP G A m w) := by
  have HL : Hid _ := hL
  have HB : Hid (Below w1.heap.size w1 w) := hB
  have hm : m ≤ 4096 := hL.hm
  have hoff : offJ G A m ≤ 4096 := by
    have h1 := sum_items G A m hL.hI A.length (Nat.le_refl _)
    rw [List.take_length] at h1
    have := hL.lA
    exact Nat.le_trans h1 this
  clear hL hB
  obtain ⟨i3, hi3, hz3, hy3, hx3⟩ := info_parts Try.info3
  go_enter Try.func16, Try.ntmps16
  change Code.wp Try.prog (tl Try.f16 0) (bodyPost Try.prog Try.f16 (RedP G A m w)) _ _
  rw [tl16_0]
  refine wp_seq_k (fun K hK => ?_)
  conv => arg 2; whnf
  go_wp2_with fail
  rw [tl16_1]
  refine wp_seq_k (fun K hK => ?_)
  conv => arg 2; whnf
  go_wp2_with fail
  rw [tl16_2]
  refine wp_seq_k (fun K hK => ?_)
  conv => arg 2; whnf
  go_wp2_with (at_make; go_must (refine wpList_make_full _ rfl _ _ 35 rfl w.heap.size 3 i3 (.int .i64 0) 1 Try.underlying35 hi3 hz3 hy3 .i64 .i64 _ _ (m + 1) rfl rfl (by simp) (by simp) (by rw [hx3]; omega) (by unfold maxLen; omega) (Nat.le_refl _) ?_; intro wa howna hgrowa))
  have HC : Hid (CT w w.heap.size m (cntF G A 0) wa) := ⟨⟨_, made_ints howna, by simp, fun j hj => by
    have : cntF G A 0 j = 0 := by
      cases j with
      | zero => rfl
      | succ j => simp [cntF, itemL]
    rw [this]; simp [show j < m + 1 by omega]⟩, Nat.le_refl _, below_of_grown hgrowa⟩
  exact a3 _ _ _ _ _ _ _ _ _ _ _ _ _ _ _ _ _ _ _ _ _ _ _ _ _ _ _ _ _ _ _ _ _ _ _ _ _ _ _ _ _ _ _ _ _ _ _ _ _ _ _ _ _ _ _ _ _ _ _ _ _ _ _ _ _ _ _ _ _ _ _ _ _ _ _ _ _ _ _ _ _ _ _ _ _ _ _ _ _ _ _ _ _ _ _ _ _ _ _ _ _ _ _ _ _ _ _ _ _ _ _ _ _ _ _ _ _ _ _ _ _ _ _ _ _ _ _ _ _ _ _ _ _ _ _ _ _ _ _ _ _ _ _ _ _ _ _ _ _ _ _ _ _ _ _ _ _ _ _ _ _ _ _ _ _ _ _ _ _ _ _ _ _ _ _ _ _ _ _ _ _ _ _ _ _ _ _ _ _ _ _ _ _ _ _ _ _ _ _ _ HL HB HC hoff
end Go.Proofs.Qxb6626314a
