/-
  Seat b6626314a: the transactions: the range over the map; sorting.
-/
import Derived.Test.Qxb6626314aY
namespace Go.Proofs.Qxb6626314a
open Go.RowKit Go.Maps Go.Sort
set_option linter.unusedVariables false
set_option linter.unusedSimpArgs false

theorem sorted_lt {ys : List Int} (h1 : ys.Pairwise (· ≤ ·)) (h2 : ys.Nodup) : ys.Pairwise (· < ·) := by
  have h3 : ys.Pairwise (· ≠ ·) := h2
  exact (h1.and h3).imp (fun h => by omega)
theorem ranges_iter {w : World} {b r n : Nat} {D : DataW Value} {left : Lit → Bool} {cnt : Nat} (h : w.ranges Try.prog 2 anyElem b r n D left cnt) : (∃ es cl, w.heap[b]? = some (.map es cl)) ∧ ∃ a b c d, w.heap[r]? = some (.mapIter a b c d) := by
  obtain ⟨es, clock, since, seen, c0, hb, F, hs, hD, hr, rest⟩ := h
  exact ⟨⟨_, _, hb⟩, ⟨_, _, _, _, hr⟩⟩
section
variable {B gp gg bt r nt : Nat} {w0 : World} {D : DataW Value} {left : Lit → Bool} {cnt : Nat} {l : List Int} {v : Value} {w : World}
structure RZ (B gp gg bt r nt : Nat) (w0 : World) (D : DataW Value) (left : Lit → Bool) (cnt : Nat) (l : List Int) (v : Value) (w : World) : Prop where
  rg : w.ranges Try.prog 2 anyElem bt r nt D left cnt
  gb : GB B gp gg v (.slice none 0 0) (.slice none 0 0) w
  row : w.ownsRow B 2 1 v l.length (int64s l)
  b : Below B w0 w
theorem RZ.size (h : RZ B gp gg bt r nt w0 D left cnt l v w) : B ≤ w.heap.size := Nat.le_trans h.gb.lg (Nat.le_of_lt (Array.getElem?_eq_some_iff.1 h.gb.g).1)
theorem RZ.below {w' : World} (h : RZ B gp gg bt r nt w0 D left cnt l v w) (hb : Below w.heap.size w w') : RZ B gp gg bt r nt w0 D left cnt l v w' :=
  ⟨h.rg.kept (grown_of_below hb) (by simp) (by simp), h.gb.below hb, row_below h.row hb, h.b.trans (hb.mono h.size)⟩
theorem RZ.next (h : RZ B gp gg bt r nt w0 D left cnt l v w) {w1 : World} (hg : w.grownBy w1 (some r)) (lr : B ≤ r) {left' : Lit → Bool} {cnt' : Nat} (hr' : w1.ranges Try.prog 2 anyElem bt r nt D left' cnt') : RZ B gp gg bt r nt w0 D left' cnt' l v w1 := by
  obtain ⟨_, a, b, c, d, hr⟩ := ranges_iter h.rg
  have ne : ∀ {k : Nat} {c' : Array Value} {e : TypeId} {fr : Nat × Nat}, w.heap[k]? = some (.cells c' e fr) → k ≠ r := fun hk e => by subst e; rw [hr] at hk; cases hk
  refine ⟨hr', h.gb.kept hg (by simpa using ne h.gb.p) (by simpa using ne h.gb.g), row_kept h.row hg (fun g hv => ?_), h.b.trans (below_grown h.size hg lr)⟩
  obtain ⟨_, c', hc⟩ := row_tag h.row g hv
  simpa using ne hc
theorem RZ.putA {w2 : World} (h : RZ B gp gg bt r nt w0 D left cnt l v w) (hg : w.grownBy w2 v.ownBlock) : GB B gp gg v (.slice none 0 0) (.slice none 0 0) w2 ∧ w2.ranges Try.prog 2 anyElem bt r nt D left cnt := by
  obtain ⟨⟨es, cl, hm⟩, a, b, c, d, hr⟩ := ranges_iter h.rg
  have tagf : ∀ g, v.ownBlock = some g → ∃ c, w.heap[g]? = some (.cells c 2 (0, 0)) := fun g hg => (row_tag h.row g hg).2
  refine ⟨h.gb.keptT hg (fun g hg => by obtain ⟨c, hc⟩ := tagf g hg; exact ⟨c, 2, _, hc, by decide, by decide⟩), h.rg.kept hg (fun e => ?_) (fun e => ?_)⟩
  · obtain ⟨c, hc⟩ := tagf bt e.symm; rw [hm] at hc; cases hc
  · obtain ⟨c, hc⟩ := tagf r e.symm; rw [hr] at hc; cases hc
theorem RZ.put {w1 w2 : World} (h : RZ B gp gg bt r nt w0 D left cnt l v w) (hb : Below w.heap.size w w1) (x : Int) {v' : Value} (ho : w2.ownsRow B 2 1 v' (l.length + 1) (int64s l ++ [.int .i64 x])) (hg : w1.grownBy w2 v.ownBlock) :
    RZ B gp gg bt r nt w0 D left cnt (l ++ [x]) v' (w2.setCell ⟨gg, 0, none⟩ v') := by
  have h1 := h.below hb
  obtain ⟨hG2, hR2⟩ := h1.putA hg
  have hs := grown_setCell (w := w2) gg 0 v'
  obtain ⟨⟨es, cl, hm⟩, a, b, c, d, hr⟩ := ranges_iter hR2
  refine ⟨hR2.kept hs (fun e => ?_) (fun e => ?_), hG2.set0 v', ?_, ?_⟩
  · have e' : bt = gg := by simpa using e
    subst e'; have := hG2.g; rw [hm] at this; cases this
  · have e' : r = gg := by simpa using e
    subst e'; have := hG2.g; rw [hr] at this; cases this
  · have e1 : int64s (l ++ [x]) = int64s l ++ [.int .i64 x] := by simp [int64s]
    rw [e1, List.length_append]
    refine row_kept ho hs (fun g hv => ?_)
    obtain ⟨_, c', hc⟩ := row_tag ho g hv
    simpa using ne_of_tag hc hG2.g (by decide)
  · have hb2 : Below B w1 w2 := ⟨hg.os, hg.tape, hg.output, hg.size, fun k hk => hg.block k (Nat.lt_of_lt_of_le hk h1.size) (fun e => by
      have := (row_tag h1.row k e.symm).1; omega)⟩
    exact (h1.b.trans hb2).setCell hG2.lg _
end
theorem news_64 {w : World} (t : Int) (T : TypeId) : ∀ j u, [Value.int .i64 t][j]? = some u → (w.alloc (.cells #[.int .i64 t] T)).drew.cell? ((⟨w.heap.size, 0, none⟩ : Addr).add j) = some u :=
  World.news_of_block (w := (w.alloc (.cells #[.int .i64 t] T)).drew) (cs := #[.int .i64 t]) (t := T) (fr := (0, 0)) (heap_alloc_new w _)
theorem one_64 (t : Int) : ∀ u ∈ [Value.int .i64 t], u.oneCell' = true := by
  intro u hu
  simp at hu
  subst hu
  rfl
theorem zeroV54 (w : World) : (zeroValue 54).run Try.prog w = .ok (.int .u8 0) w := by kernel_rfl

theorem mem_getD {α : Type} {l : List α} {x d : α} (h : x ∈ l) : ∃ k, k < l.length ∧ l.getD k d = x := by
  obtain ⟨k, hk, e⟩ := List.mem_iff_getElem.1 h
  exact ⟨k, hk, by rw [List.getD_eq_getElem?_getD, List.getElem?_eq_getElem hk]; exact e⟩
theorem getD_mem {α : Type} {l : List α} {k : Nat} (d : α) (h : k < l.length) : l.getD k d ∈ l := by
  rw [List.getD_eq_getElem?_getD, List.getElem?_eq_getElem h]; exact List.getElem_mem h
theorem GPr.r64 {A : List Ac} {T X G : List Int} (hG : GPr A T X G) (HW : ∀ i, i < A.length → R64 (A.getD i a0).tx) (HT : ∀ k, k < T.length → R64 (T.getD k 0)) : ∀ k, k < G.length → R64 (G.getD k 0) := by
  intro k hk
  have hm := (hG.2 _).1 (getD_mem 0 hk)
  rcases hm.1 with h | h
  · obtain ⟨i, hi, e⟩ := mem_getD (d := 0) h
    rw [← e]; exact HT i hi
  · obtain ⟨a, ha, e⟩ := List.mem_map.1 h
    obtain ⟨i, hi, e2⟩ := mem_getD (d := a0) ha
    rw [← e, ← e2]; exact HW i hi
theorem gpr_of {A : List Ac} {T X l ys : List Int} (h1 : l.Nodup ∧ ∀ k, k ∈ l ↔ (txF T A X k).isSome = true ∧ k ∉ X) (hp : ys.Perm l) (hs : ys.Pairwise (· ≤ ·)) : GPr A T X ys := by
  refine ⟨sorted_lt hs (hp.nodup_iff.2 h1.1), fun k => ?_⟩
  rw [hp.mem_iff, h1.2 k]
  unfold txF
  by_cases hX : k ∈ X
  · simp [hX]
  · by_cases hk : k ∈ T ∨ k ∈ A.map Ac.tx
    · rw [if_pos (by rcases hk with h | h; exact Or.inl h; exact Or.inr (Or.inl h))]; simp only [Option.isSome_some, true_and]; exact ⟨fun h => ⟨hk, h⟩, fun h => h.2⟩
    · rw [if_neg (by intro h; rcases h with h | h | h; exact hk (Or.inl h); exact hk (Or.inr h); exact hX h)]
      constructor
      · rintro ⟨h, _⟩; cases h
      · rintro ⟨h, _⟩; exact absurd h hk

set_option maxRecDepth 100000 in
set_option maxHeartbeats 2000000 in
theorem g3 {R : Ending → World → Prop} {B0 B gh gp gg be bt bi m ne nt : Nat} {A : List Ac} {T X : List Int} {va : Value} {v : Value} {l : List Int} {w0 w : World} (u1 u2 u4 u5 u6 u7 u8 u9 u10 u11 u12 u13 u14 u15 u16 u17 u18 u19 u20 u21 u22 u23 u24 u25 u26 u27 u28 u29 u30 u31 u32 u33 u34 u35 u36 u37 u38 u39 u40 u41 u42 u43 u44 u45 u46 u47 u48 u49 u50 u51 u52 u53 u54 u55 u56 u57 u58 u59 u60 u61 u62 u63 u64 u65 u66 u67 u68 u69 u70 u71 u72 u73 u74 u75 u76 u77 u78 u79 u80 u81 u82 u83 u84 u85 u86 u87 u88 u89 u90 u91 u92 u93 u94 u95 u96 u97 u98 u99 u100 u101 u102 u103 u104 u105 u106 u107 u108 u109 u110 u111 u112 u113 u114 u115 u116 u117 u118 u119 u120 u121 u122 u123 u124 u125 u126 u127 u128 u129 u130 u131 u132 u133 u134 u135 u136 u137 u138 u139 u140 u141 u142 u143 u144 u145 u146 u147 u148 u149 u150 u151 u152 u153 u154 u155 u156 u157 u158 u159 u160 u161 u162 u163 u164 u165 u166 u167 u168 u169 u170 u171 u172 u173 u174 u175 u176 u177 u178 u179 u180 u181 u182 u183 u184 u185 u186 u187 u188 u189 u190 u191 u192 u193 u194 u195 u196 u197 u198 u199 u200 u201 u202 u203 u204 u205 u206 : Value)
    (HH : Hid (HV B0 gh va be bt bi A ne nt m (enF X) (txF T A X) w0)) (HB : Hid (B = w0.heap.size)) (hnt : nt ≤ 12288) (HG : Hid (GB B gp gg v (.slice none 0 0) (.slice none 0 0) w)) (HL : Hid (w.ownsRow B 2 1 v l.length (int64s l))) (HBw : Hid (Below B w0 w)) (HM : Hid (l.Nodup ∧ ∀ k, k ∈ l ↔ (txF T A X k).isSome = true ∧ k ∉ X)) (hl : l.length ≤ 12288) (hm : m ≤ 4096) (hA : A.length ≤ 4096) (HI : Hid (∀ i, i < A.length → 0 ≤ (A.getD i a0).item ∧ (A.getD i a0).item < m)) (HW : Hid (∀ i, i < A.length → R64 (A.getD i a0).tx)) (HT : Hid (∀ k, k < T.length → R64 (T.getD k 0)))
    (HR : Hid (∀ (G : List Int) (v1 : Value) (ga : Nat) (VA : Nat → Value) (gs : Nat) (S' : Nat → List Int) (w' : World), GPr A T X G → G.length ≤ 12288 → GA B gp gg ga m G (itemL G A) VA v1 (.slice (some ⟨gs, 0, none⟩) G.length G.length) w' → (∃ V, RT B 21 1 gs 44 G.length (fun u => (S' u).length) (fun u => ints (S' u)) V w') → Below B w0 w' → (∀ u, u < G.length → (S' u).Pairwise (· < ·) ∧ SameM (S' u) (redJ (itemL G A) m u) ∧ (S' u).length ≤ 100000000) → R (.returned (.pointer (some ⟨gg, 0, none⟩))) w')) :
    Code.wp Try.prog (tl Try.f8 3) (bodyPost Try.prog Try.f8 R) ⟨#[.pointer (some ⟨gh, 0, none⟩), u1, u2, .pointer (some ⟨gp, 0, none⟩), u4, u5, u6, u7, u8, u9, u10, u11, u12, u13, u14, u15, u16, u17, u18, u19, u20, u21, u22, u23, u24, u25, u26, u27, u28, u29, u30, u31, u32, u33, u34, u35, u36, u37, u38, u39, u40, u41, u42, u43, u44, u45, u46, u47, u48, u49, u50, u51, u52, u53, u54, u55, u56, u57, u58, u59, u60, u61, u62, u63, u64, u65, u66, u67, u68, u69, u70, u71, u72, u73, u74, u75, u76, u77, u78, u79, u80, u81, u82, u83, u84, u85, u86, u87, u88, u89, u90, u91, u92, u93, u94, u95, u96, u97, u98, u99, u100, u101, u102, u103, u104, u105, u106, u107, u108, u109, u110, u111, u112, u113, u114, u115, u116, u117, u118, u119, u120, u121, u122, u123, u124, u125, u126, u127, u128, u129, u130, u131, u132, u133, u134, u135, u136, u137, u138, u139, u140, u141, u142, u143, u144, u145, u146, u147, u148, u149, u150, u151, u152, u153, u154, u155, u156, u157, u158, u159, u160, u161, u162, u163, u164, u165, u166, u167, u168, u169, u170, u171, u172, u173, u174, u175, u176, u177, u178, u179, u180, u181, u182, u183, u184, u185, u186, u187, u188, u189, u190, u191, u192, u193, u194, u195, u196, u197, u198, u199, u200, u201, u202, u203, u204, u205, u206], []⟩ w := by
  obtain ⟨ot, ct, hv1⟩ := row_shape HL.out
  subst hv1
  have c0 : w.cell? ⟨gp, 0, none⟩ = some (.pointer (some ⟨gg, 0, none⟩)) := cell_blk HG.out.p rfl
  have c1 : w.cell? ⟨gg, 0, none⟩ = some (.slice ot l.length ct) := cell_blk HG.out.g rfl
  have HC : Hid _ := sort64 B (.slice ot l.length ct) l.length l w HL.out (by omega)
  rw [tl8_3]
  refine wp_seq_k (fun K hK => ?_)
  conv => arg 2; whnf
  go_wp2_with fail
  refine Calls.mono HC.out ?_
  rintro e w1 ⟨rfl, ys, h1, h2, h3, h4⟩
  have hyl : ys.length = l.length := h2.length_eq
  have hg1 : w.grownBy w1 (Value.slice ot l.length ct).ownBlock := ⟨h4.os, h4.tape, h4.output, h4.size, fun k hk hne => h4.block k hk (fun e => hne e.symm)⟩
  have tagf : ∀ g, (Value.slice ot l.length ct).ownBlock = some g → ∃ c, w.heap[g]? = some (.cells c 2 (0, 0)) := fun g hg => (row_tag HL.out g hg).2
  have hG1 := HG.out.keptT hg1 (fun g hg => by obtain ⟨c, hc⟩ := tagf g hg; exact ⟨c, 2, _, hc, by decide, by decide⟩)
  have hB1 : Below B w0 w1 := HBw.out.trans ⟨h4.os, h4.tape, h4.output, h4.size, fun k hk => h4.block k (Nat.lt_of_lt_of_le hk (Nat.le_trans HG.out.lg (Nat.le_of_lt (Array.getElem?_eq_some_iff.1 HG.out.g).1))) (fun e => by
    have := (row_tag HL.out k e).1; omega)⟩
  have hgp := gpr_of HM.out h2 h3
  have HGP : Hid (GPr A T X ys) := hgp
  have HG1 : Hid _ := hG1
  have HB1 : Hid _ := hB1
  have HL1 : Hid (w1.ownsRow B 2 1 (.slice ot l.length ct) l.length (int64s ys)) := h1
  have HYL : Hid _ := hyl
  have HS : Hid (ys.Pairwise (· ≤ ·)) := h3
  have d0 : w1.cell? ⟨gp, 0, none⟩ = some (.pointer (some ⟨gg, 0, none⟩)) := cell_blk hG1.p rfl
  have d1 : w1.cell? ⟨gg, 0, none⟩ = some (.slice ot l.length ct) := cell_blk hG1.g rfl
  have hmk := mkHint l.length w1
  clear h1 h2 h3 h4 hyl hg1 tagf hG1 hB1 hgp HC c0 c1 HG HL HBw HM
  go_wp2_with fail
  rw [tl8_4]
  refine wp_seq_k (fun K hK => ?_)
  conv => arg 2; whnf
  go_wp2_with fail
  have hb2 : Below w1.heap.size w1 (w1.alloc (.map #[] 0)) := (Below.refl _ _).alloc (Nat.le_refl _) _
  have hsz : B ≤ w1.heap.size := Nat.le_trans HG1.out.lg (Nat.le_of_lt (Array.getElem?_eq_some_iff.1 HG1.out.g).1)
  have HTI : Hid (TI B gp gg w1.heap.size ys (.slice ot ys.length ct) w0 0 (fun _ => none) (w1.alloc (.map #[] 0))) := ⟨by rw [HYL.out]; exact HG1.out.below hb2, by have := row_below HL1.out hb2; rw [HYL.out]; exact this, MapIs.made w1, HB1.out.trans (hb2.mono hsz), hsz⟩
  have HR2 : Hid _ := fun (v1 : Value) (ga : Nat) (VA : Nat → Value) (gs : Nat) (S' : Nat → List Int) (w' : World) => HR.out ys v1 ga VA gs S' w' HGP.out (by rw [HYL.out]; exact hl)
  exact g5 _ _ _ _ _ _ _ _ _ _ _ _ _ _ _ _ _ _ _ _ _ _ _ _ _ _ _ _ _ _ _ _ _ _ _ _ _ _ _ _ _ _ _ _ _ _ _ _ _ _ _ _ _ _ _ _ _ _ _ _ _ _ _ _ _ _ _ _ _ _ _ _ _ _ _ _ _ _ _ _ _ _ _ _ _ _ _ _ _ _ _ _ _ _ _ _ _ _ _ _ _ _ _ _ _ _ _ _ _ _ _ _ _ _ _ _ _ _ _ _ _ _ _ _ _ _ _ _ _ _ _ _ _ _ _ _ _ _ _ _ _ _ _ _ _ _ _ _ _ _ _ _ _ _ _ _ _ _ _ _ _ _ _ _ _ _ _ _ _ _ _ _ _ _ _ _ _ _ _ _ _ _ _ _ _ _ _ _ _ _ _ _ _ _ _ _ _ _ _ _ _ _ _ _ HH HB HTI HGP.out.1 (HGP.out.r64 HW.out HT.out) (by rw [HYL.out]; exact hl) hm hA HI HW HR2

set_option maxRecDepth 100000 in
set_option maxHeartbeats 2000000 in
theorem g2 {R : Ending → World → Prop} {B0 B gh gp gg be bt bi m ne nt : Nat} {A : List Ac} {T X : List Int} {va : Value} {w0 w : World} (u1 u2 u4 u5 u6 u7 u8 u9 u10 u11 u12 u13 u14 u15 u16 u17 u18 u19 u20 u21 u22 u23 u24 u25 u26 u27 u28 u29 u30 u31 u32 u33 u34 u35 u36 u37 u38 u39 u40 u41 u42 u43 u44 u45 u46 u47 u48 u49 u50 u51 u52 u53 u54 u55 u56 u57 u58 u59 u60 u61 u62 u63 u64 u65 u66 u67 u68 u69 u70 u71 u72 u73 u74 u75 u76 u77 u78 u79 u80 u81 u82 u83 u84 u85 u86 u87 u88 u89 u90 u91 u92 u93 u94 u95 u96 u97 u98 u99 u100 u101 u102 u103 u104 u105 u106 u107 u108 u109 u110 u111 u112 u113 u114 u115 u116 u117 u118 u119 u120 u121 u122 u123 u124 u125 u126 u127 u128 u129 u130 u131 u132 u133 u134 u135 u136 u137 u138 u139 u140 u141 u142 u143 u144 u145 u146 u147 u148 u149 u150 u151 u152 u153 u154 u155 u156 u157 u158 u159 u160 u161 u162 u163 u164 u165 u166 u167 u168 u169 u170 u171 u172 u173 u174 u175 u176 u177 u178 u179 u180 u181 u182 u183 u184 u185 u186 u187 u188 u189 u190 u191 u192 u193 u194 u195 u196 u197 u198 u199 u200 u201 u202 u203 u204 u205 u206 : Value)
    (HH : Hid (HV B0 gh va be bt bi A ne nt m (enF X) (txF T A X) w0)) (HB : Hid (B = w0.heap.size)) (hnt : nt ≤ 12288) (HG : Hid (GB B gp gg (.slice none 0 0) (.slice none 0 0) (.slice none 0 0) w)) (HBw : Hid (Below B w0 w)) (hm : m ≤ 4096) (hA : A.length ≤ 4096) (HI : Hid (∀ i, i < A.length → 0 ≤ (A.getD i a0).item ∧ (A.getD i a0).item < m)) (HW : Hid (∀ i, i < A.length → R64 (A.getD i a0).tx)) (HT : Hid (∀ k, k < T.length → R64 (T.getD k 0)))
    (HR : Hid (∀ (G : List Int) (v1 : Value) (ga : Nat) (VA : Nat → Value) (gs : Nat) (S' : Nat → List Int) (w' : World), GPr A T X G → G.length ≤ 12288 → GA B gp gg ga m G (itemL G A) VA v1 (.slice (some ⟨gs, 0, none⟩) G.length G.length) w' → (∃ V, RT B 21 1 gs 44 G.length (fun u => (S' u).length) (fun u => ints (S' u)) V w') → Below B w0 w' → (∀ u, u < G.length → (S' u).Pairwise (· < ·) ∧ SameM (S' u) (redJ (itemL G A) m u) ∧ (S' u).length ≤ 100000000) → R (.returned (.pointer (some ⟨gg, 0, none⟩))) w')) :
    Code.wp Try.prog (tl Try.f8 2) (bodyPost Try.prog Try.f8 R) ⟨#[.pointer (some ⟨gh, 0, none⟩), u1, u2, .pointer (some ⟨gp, 0, none⟩), u4, u5, u6, u7, u8, u9, u10, u11, u12, u13, u14, u15, u16, u17, u18, u19, u20, u21, u22, u23, u24, u25, u26, u27, u28, u29, u30, u31, u32, u33, u34, u35, u36, u37, u38, u39, u40, u41, u42, u43, u44, u45, u46, u47, u48, u49, u50, u51, u52, u53, u54, u55, u56, u57, u58, u59, u60, u61, u62, u63, u64, u65, u66, u67, u68, u69, u70, u71, u72, u73, u74, u75, u76, u77, u78, u79, u80, u81, u82, u83, u84, u85, u86, u87, u88, u89, u90, u91, u92, u93, u94, u95, u96, u97, u98, u99, u100, u101, u102, u103, u104, u105, u106, u107, u108, u109, u110, u111, u112, u113, u114, u115, u116, u117, u118, u119, u120, u121, u122, u123, u124, u125, u126, u127, u128, u129, u130, u131, u132, u133, u134, u135, u136, u137, u138, u139, u140, u141, u142, u143, u144, u145, u146, u147, u148, u149, u150, u151, u152, u153, u154, u155, u156, u157, u158, u159, u160, u161, u162, u163, u164, u165, u166, u167, u168, u169, u170, u171, u172, u173, u174, u175, u176, u177, u178, u179, u180, u181, u182, u183, u184, u185, u186, u187, u188, u189, u190, u191, u192, u193, u194, u195, u196, u197, u198, u199, u200, u201, u202, u203, u204, u205, u206], []⟩ w := by
  obtain ⟨i0, hi0, hz0, hz1, hz2⟩ := info_parts Try.info2
  have hbw : Below w0.heap.size w0 w := by have := HBw.out; rw [HB.out] at this; exact this
  have hHw := HH.out.below hbw
  have c2 : w.cell? ⟨gh, 2, none⟩ = some (.map (some bt)) := cell_blk hHw.blk rfl
  obtain ⟨D, hD, hD2, hD3⟩ := hHw.tx
  have hsz : B ≤ w.heap.size := by rw [HB.out]; exact hbw.size
  have HD2 : Hid ((∀ k, Maps.has D (.int .i64 k) = ((txF T A X) k).isSome) ∧ (∀ k z, D.atKey (.int .i64 k) (.held z) = .held (((txF T A X) k).getD z)) ∧ Maps.size D ≤ nt) := ⟨hD2, hD3, hD.size_le⟩
  have HD : Hid _ := hD
  clear hD hD2 hD3 hHw hbw
  rw [tl8_2]
  refine wp_seq_k (fun K hK => ?_)
  conv => arg 2; whnf
  go_wp2_with (at_range; refine wpList_range_own _ rfl _ 60 rfl 2 4 law2 Try.underlying60 anyElem bt nt D rfl HD.out ?_; intro w1 hrg1 hg1 hs1)
  go_frame
  have HX0 : Hid (RZ B gp gg bt w.heap.size nt w0 D (Maps.has D) (Maps.size D) [] (.slice none 0 0) w1 ∧ Coll X (txF T A X) (Maps.has D) [] ∧ ([] : List Int).length + Maps.size D ≤ nt) :=
    ⟨⟨hrg1, HG.out.below (below_of_grown hg1), World.ownsRow_nil _ _ _ _, HBw.out.trans ((below_of_grown hg1).mono hsz)⟩, Coll.start (fun k hk => by rw [HD2.out.1 k]; exact hk), by simpa using HD2.out.2.2⟩
  generalize w.heap.size = r at HX0 hsz ⊢
  have hsz2 : B ≤ r := hsz
  clear c2 hrg1 hg1 hs1 HD HG HBw
  go_loopw [4] (fun v4 wr => ∃ (left : Lit → Bool) (cnt : Nat) (l : List Int) (v : Value), Hid (RZ B gp gg bt r nt w0 D left cnt l v wr ∧ Coll X (txF T A X) left l ∧ l.length + cnt ≤ nt)) (fun _ wr => wr.rangeLeft bt r)
  case atStart => exact ⟨_, _, _, _, HX0⟩
  case round =>
    clear HX0
    obtain ⟨left, cnt, l, v, HO⟩ := hrel
    go_wp2_with (at_next; refine wpList_next_ranges _ rfl _ rfl 2 law2 anyElem (fun x : Int => Value.int .i64 x) (fun c : Value => c) (fun key kl hk => by obtain ⟨x, rfl, _⟩ := Maps.keyOf_int_inv Try.underlying2 hk; exact ⟨x, rfl⟩) (fun v y _ => ⟨v, rfl⟩) bt r nt D left cnt rfl HO.out.1.rg ?_ ?_)
    · intro hc0 hl0
      have hfin := HO.out.2.1.fin hl0
      obtain ⟨o, cp, hv⟩ := row_shape HO.out.1.row
      have HG2 : Hid _ := HO.out.1.gb
      have HL2 : Hid _ := HO.out.1.row
      have HB2 : Hid _ := HO.out.1.b
      have HM2 : Hid (l.Nodup ∧ ∀ k, k ∈ l ↔ (txF T A X k).isSome = true ∧ k ∉ X) := hfin
      have hll : l.length ≤ 12288 := by have := HO.out.2.2; omega
      clear hfin hl0 hc0 HO hv
      go_wp2_with fail
      exact g3 _ _ _ _ _ _ _ _ _ _ _ _ _ _ _ _ _ _ _ _ _ _ _ _ _ _ _ _ _ _ _ _ _ _ _ _ _ _ _ _ _ _ _ _ _ _ _ _ _ _ _ _ _ _ _ _ _ _ _ _ _ _ _ _ _ _ _ _ _ _ _ _ _ _ _ _ _ _ _ _ _ _ _ _ _ _ _ _ _ _ _ _ _ _ _ _ _ _ _ _ _ _ _ _ _ _ _ _ _ _ _ _ _ _ _ _ _ _ _ _ _ _ _ _ _ _ _ _ _ _ _ _ _ _ _ _ _ _ _ _ _ _ _ _ _ _ _ _ _ _ _ _ _ _ _ _ _ _ _ _ _ _ _ _ _ _ _ _ _ _ _ _ _ _ _ _ _ _ _ _ _ _ _ _ _ _ _ _ _ _ _ _ _ _ _ _ _ _ _ _ _ _ _ _ _ HH HB hnt HG2 HL2 HB2 HM2 hll hm hA HI HW HT HR
    · intro x c kl y1 y2 w2 cnt2 hkey hlk hR hat hrg2 hlt2 hg2 hs2 hen
      obtain ⟨x', ex, ekl, hwx⟩ := Maps.keyOf_int_inv Try.underlying2 hkey
      cases ex
      subst ekl
      have hfx : ((txF T A X) x).isSome = true := by
        cases hf : (txF T A X) x with
        | some _ => rfl
        | none =>
          have h1 := hat (.held (.bool true))
          have h2 := hat (.held (.bool false))
          rw [HD2.out.2.1 x, hf] at h1 h2
          rw [← h2] at h1
          simp at h1
      have hRZ := HO.out.1.next hg2 (by exact hsz2) hrg2
      have hbw2 : Below w0.heap.size w0 w2 := by have := hRZ.b; rw [HB.out] at this; exact this
      have hH2 := HH.out.below hbw2
      have e1 : w2.cell? ⟨gh, 1, none⟩ = some (.map (some be)) := cell_blk hH2.blk rfl
      have hlook := hH2.en.look Try.underlying59 (zeroV54 w2) hwx false
      simp only [Bool.false_eq_true, if_false] at hlook
      obtain ⟨o, cp, hv⟩ := row_shape hRZ.row
      subst hv
      have HLeft : Hid (left (.int .i64 x) = true) := hlk
      have HFx : Hid _ := hfx
      have HC0 : Hid (Coll X (txF T A X) left l ∧ l.length + cnt ≤ nt) := HO.out.2
      have HRG0 : Hid (wr.ranges Try.prog 2 anyElem bt r nt D left cnt) := HO.out.1.rg
      have HRZ : Hid _ := hRZ
      have hll : l.length + 1 ≤ 12288 := by have := HO.out.2.2; omega
      clear hkey hlk hR hat hrg2 hg2 hs2 hwx hRZ hbw2 hH2 hfx HO
      by_cases hX : x ∈ X
      · have ee : enF X x = some (.int .u8 65) := by simp [enF, hX]
        rw [ee] at hlook
        simp only [Option.getD_some] at hlook
        have HZ : Hid (RZ B gp gg bt r nt w0 D (fun z => left z && !z.sameKey (.int .i64 x)) cnt2 l (.slice o l.length cp) w2 ∧ Coll X (txF T A X) (fun z => left z && !z.sameKey (.int .i64 x)) l ∧ l.length + cnt2 ≤ nt) := ⟨HRZ.out, HC0.out.1.skip hX, by have := HC0.out.2; omega⟩
        have HMs : Hid (w2.rangeLeft bt r = cnt2 ∧ wr.rangeLeft bt r = cnt) := ⟨HRZ.out.rg.left_eq, HRG0.out.left_eq⟩
        clear ee HC0 HRZ
        go_wp2_with fail
        go_roundw
        case rel => exact ⟨_, _, _, _, HZ⟩
        case measure => rw [HMs.out.1, HMs.out.2]; exact hlt2
      · have ee : enF X x = none := by simp [enF, hX]
        rw [ee] at hlook
        simp only [Option.getD_none] at hlook
        have hb1 : Below w2.heap.size w2 (w2.alloc (.cells #[.int .i64 x] 2)).drew := ((Below.refl _ _).alloc (Nat.le_refl _) _).drew
        have h1 := HRZ.out.below hb1
        have c0 : w2.cell? ⟨gp, 0, none⟩ = some (.pointer (some ⟨gg, 0, none⟩)) := cell_blk HRZ.out.gb.p rfl
        have c1 : w2.cell? ⟨gg, 0, none⟩ = some (.slice o l.length cp) := cell_blk HRZ.out.gb.g rfl
        have q1 : l.length + 1 ≤ maxLen := by unfold maxLen; omega
        have q2 : (l.length + 1) * 8 ≤ 140737488355328 := by omega
        have q3 : B ≤ (w2.alloc (.cells #[.int .i64 x] 2)).drew.heap.size := h1.size
        have H1 : Hid _ := h1
        have HB1 : Hid _ := hb1
        have HCo : Hid (Coll X (txF T A X) (fun z => left z && !z.sameKey (.int .i64 x)) (l ++ [x]) ∧ (l ++ [x]).length + cnt2 ≤ nt) := ⟨HC0.out.1.take hX HLeft.out HFx.out, by have := HC0.out.2; rw [List.length_append]; simp; omega⟩
        clear h1 hb1 ee
        go_wp2_with fail
        refine wp_shade2 (fun KK hKK => ?_)
        have HKK : Hid _ := hKK
        clear hKK
        refine wp_region_but 10 (fun w' => w'.cell? ⟨gp, 0, none⟩ = some (.pointer (some ⟨gg, 0, none⟩)) ∧ w'.cell? ⟨gg, 0, none⟩ = some (.slice o l.length cp)) (by kernel_rfl) ?_
        have hS : (fun w' : World => w'.cell? ⟨gp, 0, none⟩ = some (.pointer (some ⟨gg, 0, none⟩)) ∧ w'.cell? ⟨gg, 0, none⟩ = some (.slice o l.length cp)) w2.drew := ⟨c0, c1⟩
        refine wpBut_take (i := 0) (oi := { dst := some 41, op := Go.Op.load 29 (Go.Operand.tmp 3), type := 29, pos := "graph.go:52", after := #[], guard := none }) (v := .pointer (some ⟨gg, 0, none⟩)) rfl (by kernel_rfl) (by kernel_rfl) (by kernel_rfl) (by kernel_rfl) (fun _ _ _ h => h) (Or.inl ⟨by rfl, fun wx hx => ?_⟩) hS ?_
        · obtain ⟨x0, x1⟩ := hx
          go_simp
        simp only [Act.put, List.setIfInBounds_toArray, List.set_cons_zero, List.set_cons_succ]
        refine wpBut_take (i := 1) (oi := { dst := some 42, op := Go.Op.load 29 (Go.Operand.tmp 3), type := 29, pos := "graph.go:52", after := #[], guard := none }) (v := .pointer (some ⟨gg, 0, none⟩)) rfl (by kernel_rfl) (by kernel_rfl) (by kernel_rfl) (by kernel_rfl) (fun _ _ _ h => h) (Or.inl ⟨by rfl, fun wx hx => ?_⟩) hS ?_
        · obtain ⟨x0, x1⟩ := hx
          go_simp
        simp only [Act.put, List.setIfInBounds_toArray, List.set_cons_zero, List.set_cons_succ]
        refine wpBut_take (i := 2) (oi := { dst := some 43, op := Go.Op.nilCheck (Go.Operand.tmp 42), type := 0, pos := "graph.go:52", after := #[{ on := 1, ground := Go.Ground.data }], guard := none }) (v := .pointer (some ⟨gg, 0, none⟩)) rfl (by kernel_rfl) (by kernel_rfl) (by kernel_rfl) (by kernel_rfl) (fun _ _ _ h => h) (Or.inl ⟨by rfl, fun wx hx => ?_⟩) hS ?_
        · obtain ⟨x0, x1⟩ := hx
          go_simp
        simp only [Act.put, List.setIfInBounds_toArray, List.set_cons_zero, List.set_cons_succ]
        refine wpBut_take (i := 3) (oi := { dst := some 44, op := Go.Op.fieldAddr 57 (Go.Operand.tmp 43) 0, type := 0, pos := "graph.go:52", after := #[{ on := 2, ground := Go.Ground.data }], guard := none }) (v := .pointer (some ⟨gg, 0, none⟩)) rfl (by kernel_rfl) (by kernel_rfl) (by kernel_rfl) (by kernel_rfl) (fun _ _ _ h => h) (Or.inl ⟨by rfl, fun wx hx => ?_⟩) hS ?_
        · obtain ⟨x0, x1⟩ := hx
          go_simp
        simp only [Act.put, List.setIfInBounds_toArray, List.set_cons_zero, List.set_cons_succ]
        refine wpBut_take (i := 4) (oi := { dst := some 45, op := Go.Op.load 23 (Go.Operand.tmp 44), type := 23, pos := "graph.go:52", after := #[{ on := 3, ground := Go.Ground.data }], guard := none }) (v := .slice o l.length cp) rfl (by kernel_rfl) (by kernel_rfl) (by kernel_rfl) (by kernel_rfl) (fun _ _ _ h => h) (Or.inl ⟨by rfl, fun wx hx => ?_⟩) hS ?_
        · obtain ⟨x0, x1⟩ := hx
          go_simp
        simp only [Act.put, List.setIfInBounds_toArray, List.set_cons_zero, List.set_cons_succ]
        refine wpBut_take (i := 5) (oi := { dst := some 46, op := Go.Op.move (Go.Operand.tmp 4), type := 2, pos := "graph.go:52", after := #[], guard := none }) (v := .int .i64 x) rfl (by kernel_rfl) (by kernel_rfl) (by kernel_rfl) (by kernel_rfl) (fun _ _ _ h => h) (Or.inl ⟨by rfl, fun wx hx => ?_⟩) hS ?_
        · obtain ⟨x0, x1⟩ := hx
          go_simp
        simp only [Act.put, List.setIfInBounds_toArray, List.set_cons_zero, List.set_cons_succ]
        refine wpBut_one (i := 6) (o := { dst := some 47, op := Go.Op.buildSlice 23 1 #[(0, Go.Operand.tmp 46)], type := 23, pos := "graph.go:52", after := #[{ on := 5, ground := Go.Ground.data }], guard := none }) (by kernel_rfl) rfl (fun K hK => ?_)
        go_simp
        refine hK.out _ _ ⟨cell_later HB1.out c0, cell_later HB1.out c1⟩ ?_
        clear hK K
        try simp only [Act.put, List.setIfInBounds_toArray, List.set_cons_zero, List.set_cons_succ]
        refine wpBut_one (i := 7) (o := { dst := some 48, op := Go.Op.call { callee := Go.Callee.builtin Go.Builtin.append, args := #[Go.Operand.tmp 45, Go.Operand.tmp 47], argTypes := #[23, 23] }, type := 23, pos := "graph.go:52", after := #[{ on := 4, ground := Go.Ground.data }, { on := 6, ground := Go.Ground.data }], guard := none }) (by kernel_rfl) rfl (fun K hK => ?_)
        refine step_append_lies _ (by rfl) _ _ _ (by rfl) B 2 i0 (.int .i64 0) 1 8 Try.underlying23 hi0 hz0 hz1 hz2 rfl Nat.zero_lt_one (.slice o l.length cp) l.length (int64s l) (by rfl) H1.out.row ⟨w2.heap.size, 0, none⟩ 1 1 [.int .i64 x] (by rfl) (by rfl) (news_64 x 2) (one_64 x) Nat.zero_lt_one q1 q2 q3 (w2.heap.size + 1) (by simp) ?_
        intro g cap w3 hown3 hgrow hat hlt3
        have hA2 := (H1.out.putA hgrow).1
        have hx1 : w3.cell? ⟨gp, 0, none⟩ = some (.pointer (some ⟨gg, 0, none⟩)) := cell_blk hA2.p rfl
        have hx2 : w3.cell? ⟨gg, 0, none⟩ = some (.slice o l.length cp) := cell_blk hA2.g rfl
        have hx6 := frz_blk hA2.g 0
        have hS2 : (fun w' : World => w'.cell? ⟨gp, 0, none⟩ = some (.pointer (some ⟨gg, 0, none⟩)) ∧ w'.cell? ⟨gg, 0, none⟩ = some (.slice o l.length cp)) w3 := ⟨hx1, hx2⟩
        refine hK.out _ _ hS2 ?_
        clear hK K
        try simp only [Act.put, List.setIfInBounds_toArray, List.set_cons_zero, List.set_cons_succ]
        refine wpBut_one (i := 8) (o := { dst := some 49, op := Go.Op.nilCheck (Go.Operand.tmp 41), type := 0, pos := "graph.go:52", after := #[{ on := 0, ground := Go.Ground.data }, { on := 0, ground := Go.Ground.phase }, { on := 1, ground := Go.Ground.phase }, { on := 2, ground := Go.Ground.phase }, { on := 3, ground := Go.Ground.phase }, { on := 4, ground := Go.Ground.phase }, { on := 5, ground := Go.Ground.phase }, { on := 6, ground := Go.Ground.phase }, { on := 7, ground := Go.Ground.phase }], guard := none }) (by kernel_rfl) rfl (fun K hK => ?_)
        go_simp
        refine hK.out _ _ hS2 ?_
        clear hK K
        try simp only [Act.put, List.setIfInBounds_toArray, List.set_cons_zero, List.set_cons_succ]
        refine wpBut_one (i := 9) (o := { dst := some 50, op := Go.Op.fieldAddr 57 (Go.Operand.tmp 49) 0, type := 0, pos := "graph.go:52", after := #[{ on := 8, ground := Go.Ground.data }, { on := 0, ground := Go.Ground.phase }, { on := 1, ground := Go.Ground.phase }, { on := 2, ground := Go.Ground.phase }, { on := 3, ground := Go.Ground.phase }, { on := 4, ground := Go.Ground.phase }, { on := 5, ground := Go.Ground.phase }, { on := 6, ground := Go.Ground.phase }, { on := 7, ground := Go.Ground.phase }], guard := none }) (by kernel_rfl) rfl (fun K hK => ?_)
        go_simp
        refine hK.out _ _ hS2 ?_
        clear hK K
        try simp only [Act.put, List.setIfInBounds_toArray, List.set_cons_zero, List.set_cons_succ]
        refine wpBut_last (o := { dst := none, op := Go.Op.store 23 (Go.Operand.tmp 50) (Go.Operand.tmp 48), type := 0, pos := "graph.go:52", after := #[{ on := 9, ground := Go.Ground.data }, { on := 7, ground := Go.Ground.data }, { on := 7, ground := Go.Ground.chain }, { on := 0, ground := Go.Ground.phase }, { on := 1, ground := Go.Ground.phase }, { on := 2, ground := Go.Ground.phase }, { on := 3, ground := Go.Ground.phase }, { on := 4, ground := Go.Ground.phase }, { on := 5, ground := Go.Ground.phase }, { on := 6, ground := Go.Ground.phase }, { on := 7, ground := Go.Ground.phase }], guard := none }) (by kernel_rfl) rfl (by kernel_rfl) (fun K hK => ?_)
        go_simp
        refine hK.out _ _ ?_
        clear hK K
        refine HKK.out _ _ ?_
        clear HKK KK
        have hZ := HRZ.out.put HB1.out x (v' := .slice (some ⟨g, 0, none⟩) (l.length + 1) cap) hown3 hgrow
        have HZ : Hid (RZ B gp gg bt r nt w0 D (fun z => left z && !z.sameKey (.int .i64 x)) cnt2 (l ++ [x]) (.slice (some ⟨g, 0, none⟩) (l.length + 1) cap) (w3.setCell ⟨gg, 0, none⟩ (.slice (some ⟨g, 0, none⟩) (l.length + 1) cap)) ∧ Coll X (txF T A X) (fun z => left z && !z.sameKey (.int .i64 x)) (l ++ [x]) ∧ (l ++ [x]).length + cnt2 ≤ nt) := ⟨hZ, HCo.out⟩
        have HMs : Hid ((w3.setCell ⟨gg, 0, none⟩ (.slice (some ⟨g, 0, none⟩) (l.length + 1) cap)).rangeLeft bt r = cnt2 ∧ wr.rangeLeft bt r = cnt) := ⟨hZ.rg.left_eq, HRG0.out.left_eq⟩
        clear hZ hown3 hgrow hat hlt3 hA2 hx1 hx2 hx6 hS2 hS c0 c1 q1 q2 q3 H1 HB1 HCo HC0 HRZ hlook hen
        go_wp2_with fail
        go_roundw
        case rel => exact ⟨_, _, _, _, HZ⟩
        case measure => rw [HMs.out.1, HMs.out.2]; exact hlt2
end Go.Proofs.Qxb6626314a
