/-
  Seat b6626314a: the items' lists: the walk.
-/
import Derived.Test.Qxb6626314aV
namespace Go.Proofs.Qxb6626314a
open Go.RowKit Go.Maps Go.Sort
set_option linter.unusedVariables false
set_option linter.unusedSimpArgs false

theorem zeroV21 (w : World) : (zeroValue 21).run Try.prog w = .ok (.int .i32 0) w := by kernel_rfl
theorem itemL_skip (G : List Int) (A : List Ac) (q : Nat) (hq : q < A.length) (h : (A.getD q a0).tx ∉ G) : itemL G (A.take (q + 1)) = itemL G (A.take q) := by
  funext j
  unfold itemL
  rw [← take_A A q hq, List.filter_append]
  simp only [List.filter_cons, List.filter_nil, h, decide_false, Bool.and_false, Bool.false_eq_true, if_false, List.append_nil]
theorem itemL_take (G : List Int) (A : List Ac) (q f : Nat) (hq : q < A.length) (h : (A.getD q a0).tx ∈ G) (hf : (A.getD q a0).item = f) : itemL G (A.take (q + 1)) = updV (itemL G (A.take q)) f (itemL G (A.take q) f ++ [((G.idxOf (A.getD q a0).tx : Int), (A.getD q a0).wr)]) := by
  funext j
  unfold itemL updV
  rw [← take_A A q hq, List.filter_append, List.map_append]
  generalize A.getD q a0 = a at h hf ⊢
  by_cases e : j = f
  · subst e
    rw [if_pos rfl]
    simp [h, hf]
  · rw [if_neg e]
    have : ¬ ((f : Int) = (j : Int)) := by omega
    simp [h, hf, this]
theorem itemL_len (G : List Int) (L : List Ac) (j : Nat) : (itemL G L j).length ≤ L.length := by
  unfold itemL
  rw [List.length_map]
  exact List.length_filter_le _ _
theorem itemL_ix (G : List Int) (L : List Ac) (j k : Nat) (hk : k < (itemL G L j).length) : IsIx G.length ((itemL G L j).getD k (0, false)).1 := by
  have hm : (itemL G L j).getD k (0, false) ∈ itemL G L j := by
    rw [List.getD_eq_getElem?_getD, List.getElem?_eq_getElem hk]
    exact List.getElem_mem hk
  generalize (itemL G L j).getD k (0, false) = p at hm
  unfold itemL at hm
  obtain ⟨a, ha, rfl⟩ := List.mem_map.1 hm
  have := (List.mem_filter.1 ha).2
  simp only [Bool.and_eq_true, decide_eq_true_eq] at this
  exact ⟨_, rfl, List.idxOf_lt_length_of_mem this.2⟩

set_option maxRecDepth 100000 in
set_option maxHeartbeats 2000000 in
theorem g7 {R : Ending → World → Prop} {B0 B gh gp gg ga be bt bi bx m nx ne nt : Nat} {A : List Ac} {G : List Int} {va v1 : Value} {fe ft : Int → Option Value} {w0 w : World} (u1 u2 u4 u6 u7 u8 u9 u10 u11 u12 u13 u14 u15 u16 u17 u18 u19 u20 u21 u22 u23 u24 u25 u26 u27 u28 u29 u30 u31 u32 u33 u34 u35 u36 u37 u38 u39 u40 u41 u42 u43 u44 u45 u46 u47 u48 u49 u50 u51 u52 u53 u54 u55 u56 u57 u58 u59 u60 u61 u62 u63 u64 u65 u66 u67 u68 u69 u70 u71 u72 u73 u74 u75 u76 u77 u78 u79 u80 u81 u82 u83 u84 u85 u86 u87 u88 u89 u90 u91 u92 u93 u94 u95 u96 u97 u98 u99 u100 u101 u102 u103 u104 u105 u106 u107 u108 u109 u110 u111 u112 u113 u114 u115 u116 u117 u118 u119 u120 u121 u122 u123 u124 u125 u126 u127 u128 u129 u130 u131 u132 u133 u134 u135 u136 u137 u138 u139 u140 u141 u142 u143 u144 u145 u146 u147 u148 u149 u150 u151 u152 u153 u154 u155 u156 u157 u158 u159 u160 u161 u162 u163 u164 u165 u166 u167 u168 u169 u170 u171 u172 u173 u174 u175 u176 u177 u178 u179 u180 u181 u182 u183 u184 u185 u186 u187 u188 u189 u190 u191 u192 u193 u194 u195 u196 u197 u198 u199 u200 u201 u202 u203 u204 u205 u206 : Value)
    (HH : Hid (HV B0 gh va be bt bi A ne nt m fe ft w0)) (HB : Hid (B = w0.heap.size)) (HAB : Hid (∃ V, AB B gp gg ga bx m nx G v1 (.slice none 0 0) w0 (fun _ => []) V w)) (hn : G.length ≤ 12288) (hm : m ≤ 4096) (hA : A.length ≤ 4096) (HI : Hid (∀ i, i < A.length → 0 ≤ (A.getD i a0).item ∧ (A.getD i a0).item < m)) (HW : Hid (∀ i, i < A.length → R64 (A.getD i a0).tx))
    (HR : Hid (∀ (VA : Nat → Value) (gs : Nat) (S' : Nat → List Int) (w' : World), GA B gp gg ga m G (itemL G A) VA v1 (.slice (some ⟨gs, 0, none⟩) G.length G.length) w' → (∃ V, RT B 21 1 gs 44 G.length (fun u => (S' u).length) (fun u => ints (S' u)) V w') → Below B w0 w' → (∀ u, u < G.length → (S' u).Pairwise (· < ·) ∧ SameM (S' u) (redJ (itemL G A) m u) ∧ (S' u).length ≤ 100000000) → R (.returned (.pointer (some ⟨gg, 0, none⟩))) w')) :
    Code.wp Try.prog (tl Try.f8 7) (bodyPost Try.prog Try.f8 R) ⟨#[.pointer (some ⟨gh, 0, none⟩), u1, u2, .pointer (some ⟨gp, 0, none⟩), u4, .map (some bx), u6, u7, u8, u9, u10, u11, u12, u13, u14, u15, u16, u17, u18, u19, u20, u21, u22, u23, u24, u25, u26, u27, u28, u29, u30, u31, u32, u33, u34, u35, u36, u37, u38, u39, u40, u41, u42, u43, u44, u45, u46, u47, u48, u49, u50, u51, u52, u53, u54, u55, u56, u57, u58, u59, u60, u61, u62, u63, u64, u65, u66, u67, u68, u69, u70, u71, u72, u73, u74, u75, u76, u77, u78, u79, u80, u81, u82, u83, u84, u85, u86, u87, u88, u89, u90, u91, u92, u93, u94, u95, u96, u97, u98, u99, u100, u101, u102, u103, u104, u105, u106, u107, u108, u109, u110, u111, u112, u113, u114, u115, u116, u117, u118, u119, u120, u121, u122, u123, u124, u125, u126, u127, u128, u129, u130, u131, u132, u133, u134, u135, u136, u137, u138, u139, u140, u141, u142, u143, u144, u145, u146, u147, u148, u149, u150, u151, u152, u153, u154, u155, u156, u157, u158, u159, u160, u161, u162, u163, u164, u165, u166, u167, u168, u169, u170, u171, u172, u173, u174, u175, u176, u177, u178, u179, u180, u181, u182, u183, u184, u185, u186, u187, u188, u189, u190, u191, u192, u193, u194, u195, u196, u197, u198, u199, u200, u201, u202, u203, u204, u205, u206], []⟩ w := by
  obtain ⟨i0, hi0, hz0, hz1, hz2⟩ := info_parts Try.info70
  obtain ⟨oh, ch, hvh⟩ := row_shape HH.out.row
  have hB0 : Below w0.heap.size w0 w := by
    obtain ⟨V, hV⟩ := HAB.out
    have := hV.b
    rw [HB.out] at this
    exact this
  have cg : w.cell? ⟨gh, 0, none⟩ = some (.slice oh A.length ch) := by rw [← hvh]; exact cell_blk (HH.out.below hB0).blk rfl
  have HSl : Hid (Sl w0 oh (flatA A)) := by
    have := HH.out.row
    rw [hvh] at this
    exact sl_of_row this
  have HX0 : Hid (∃ V, AB B gp gg ga bx m nx G v1 (.slice none 0 0) w0 (itemL G (A.take 0)) V w) := by
    have e : itemL G (A.take 0) = fun _ => [] := by funext j; simp [itemL]
    rw [e]; exact HAB.out
  clear hB0 hvh HAB
  rw [tl8_7]
  refine wp_seq_k (fun K hK => ?_)
  conv => arg 2; whnf
  go_wp2_with fail
  clear cg
  go_loopw [91] (fun vq wr => ∃ q : Nat, vq = .int .i64 q ∧ q ≤ A.length ∧ Hid (∃ V, AB B gp gg ga bx m nx G v1 (.slice none 0 0) w0 (itemL G (A.take q)) V wr)) (fun vq _ => A.length - (intOf vq).toNat)
  case atStart => exact ⟨0, rfl, Nat.zero_le _, HX0⟩
  case round =>
    clear HX0
    obtain ⟨q, rfl, hq, HO⟩ := hrel
    by_cases hlt : q < A.length
    · have hlt' : (q : Int) < (A.length : Int) := by omega
      obtain ⟨V, hAB⟩ := HO.out
      have hbel : Below w0.heap.size w0 wr := by
        have := hAB.b
        rw [HB.out] at this
        exact this
      obtain ⟨b, off, hoh, a0', a1', a2'⟩ := acc_cell (HSl.out.below hbel) hlt
      have hit := HI.out q hlt
      have hwf := HW.out q hlt
      have hsk := itemL_skip G A q hlt
      have htk := fun f => itemL_take G A q f hlt
      have hal := fun j => itemL_len G (A.take q) j
      have htl : (A.take q).length ≤ 4096 := by rw [List.length_take]; omega
      generalize hgd : A.getD q a0 = gd at a0' a1' a2' hit hwf hsk htk
      obtain ⟨gt, gi, gw⟩ := gd
      simp only at a0' a1' a2' hit hwf hsk htk
      obtain ⟨f, hf0⟩ : ∃ f : Nat, gi = f := ⟨gi.toNat, by omega⟩
      subst hf0
      have hf : f < m := by omega
      have hf' : (f : Int) < (m : Int) := by omega
      generalize hacc : itemL G (A.take q) = acc at hAB hsk htk hal
      obtain ⟨w2, hw2⟩ : ∃ w2, w2 = wr.alloc (.cells #[.int .i64 gt, .int .i32 f, .bool gw] 67) := ⟨_, rfl⟩
      have hb2 : Below wr.heap.size wr w2 := by rw [hw2]; exact (Below.refl _ _).alloc (Nat.le_refl _) _
      have hblk2 : w2.heap[wr.heap.size]? = some (.cells #[.int .i64 gt, .int .i32 f, .bool gw] 67 (0, 0)) := by rw [hw2]; exact heap_alloc_new wr _
      have hAB2 := hAB.below hb2
      have k0 : w2.cell? ⟨wr.heap.size, 0, none⟩ = some (.int .i64 gt) := cell_blk hblk2 rfl
      have HW2 : Hid (w2 = wr.alloc (.cells #[.int .i64 gt, .int .i32 f, .bool gw] 67)) := hw2
      have HAB2 : Hid _ := hAB2
      have HK2 : Hid _ := hblk2
      have hlk := hAB2.mp.look Try.underlying65 (zeroV21 w2) hwf true
      subst hoh
      clear hw2 hAB hblk2 hb2 hAB2 hbel HO hgd hacc
      by_cases hG : gt ∈ G
      · obtain ⟨ix, hix⟩ : ∃ ix : Nat, ix = G.idxOf gt := ⟨_, rfl⟩
        have e1 : idxF G gt = some (.int .i32 ix) := by rw [hix]; simp [idxF, hG]
        rw [e1] at hlk
        simp only [if_true, Option.getD_some, Option.isSome_some] at hlk
        have HTK : Hid (itemL G (A.take (q + 1)) = updV acc f (acc f ++ [((ix : Int), gw)])) := by rw [hix]; exact htk f hG rfl
        have hl4 : (acc f).length ≤ 4096 := Nat.le_trans (hal f) htl
        clear e1 hsk htk hal hix
        go_upto_region 18 with fail
        rw [← HW2.out]
        clear HW2 a0' a1' a2'
        generalize wr.heap.size = b9 at HK2 k0 ⊢
        have hb1 : Below w2.heap.size w2 (w2.alloc (.cells #[.int .i32 ix, .bool gw] 70)).drew := ((Below.refl _ _).alloc (Nat.le_refl _) _).drew
        have h1 := HAB2.out.below hb1
        obtain ⟨o, cp, hv⟩ := row_shape (HAB2.out.t.row f hf)
        have hra := h1.t.row f hf
        rw [hv] at hra
        have c0 : w2.cell? ⟨gp, 0, none⟩ = some (.pointer (some ⟨gg, 0, none⟩)) := cell_blk HAB2.out.gb.p rfl
        have c1 : w2.cell? ⟨gg, 1, none⟩ = some (.slice (some ⟨ga, 0, none⟩) m m) := cell_blk HAB2.out.gb.g rfl
        have k1 : w2.cell? ⟨b9, 1, none⟩ = some (.int .i32 f) := cell_blk HK2.out rfl
        have k2 : w2.cell? ⟨b9, 2, none⟩ = some (.bool gw) := cell_blk HK2.out rfl
        have c3 : w2.cell? ⟨ga, f, none⟩ = some (.slice o (acc f).length cp) := by rw [← hv]; exact HAB2.out.t.cell hf
        have q1 : (acc f).length + 1 ≤ maxLen := by unfold maxLen; omega
        have q2 : ((acc f).length + 1) * 8 ≤ 140737488355328 := by omega
        have q3 : B ≤ (w2.alloc (.cells #[.int .i32 ix, .bool gw] 70)).drew.heap.size := h1.size
        have HK1 : Hid ((w2.alloc (.cells #[.int .i32 ix, .bool gw] 70)).drew.heap[b9]? = some (.cells #[.int .i64 gt, .int .i32 f, .bool gw] 67 (0, 0))) := blk_below hb1 HK2.out
        have H1 : Hid _ := h1
        have HRa : Hid _ := hra
        have HV : Hid _ := hv
        have HB1 : Hid _ := hb1
        clear h1 hra hv hb1
        go_wp2_with fail
        refine wp_shade2 (fun KK hKK => ?_)
        have HKK : Hid _ := hKK
        clear hKK
        refine wp_region_but 21 (fun w' => w'.cell? ⟨gp, 0, none⟩ = some (.pointer (some ⟨gg, 0, none⟩)) ∧ w'.cell? ⟨gg, 1, none⟩ = some (.slice (some ⟨ga, 0, none⟩) m m) ∧ w'.cell? ⟨b9, 1, none⟩ = some (.int .i32 f) ∧ w'.cell? ⟨b9, 2, none⟩ = some (.bool gw) ∧ w'.cell? ⟨ga, f, none⟩ = some (.slice o (acc f).length cp)) (by kernel_rfl) ?_
        have hS : (fun w' : World => w'.cell? ⟨gp, 0, none⟩ = some (.pointer (some ⟨gg, 0, none⟩)) ∧ w'.cell? ⟨gg, 1, none⟩ = some (.slice (some ⟨ga, 0, none⟩) m m) ∧ w'.cell? ⟨b9, 1, none⟩ = some (.int .i32 f) ∧ w'.cell? ⟨b9, 2, none⟩ = some (.bool gw) ∧ w'.cell? ⟨ga, f, none⟩ = some (.slice o (acc f).length cp)) w2.drew := ⟨c0, c1, k1, k2, c3⟩
        refine wpBut_take (i := 0) (oi := { dst := some 103, op := Go.Op.load 29 (Go.Operand.tmp 3), type := 29, pos := "graph.go:65", after := #[], guard := none }) (v := .pointer (some ⟨gg, 0, none⟩)) rfl (by kernel_rfl) (by kernel_rfl) (by kernel_rfl) (by kernel_rfl) (fun _ _ _ h => h) (Or.inl ⟨by rfl, fun wx hx => ?_⟩) hS ?_
        · obtain ⟨x0, x1, x2, x3, x4⟩ := hx
          go_simp
        simp only [Act.put, List.setIfInBounds_toArray, List.set_cons_zero, List.set_cons_succ]
        refine wpBut_take (i := 1) (oi := { dst := some 104, op := Go.Op.nilCheck (Go.Operand.tmp 103), type := 0, pos := "graph.go:65", after := #[{ on := 0, ground := Go.Ground.data }], guard := none }) (v := .pointer (some ⟨gg, 0, none⟩)) rfl (by kernel_rfl) (by kernel_rfl) (by kernel_rfl) (by kernel_rfl) (fun _ _ _ h => h) (Or.inl ⟨by rfl, fun wx hx => ?_⟩) hS ?_
        · obtain ⟨x0, x1, x2, x3, x4⟩ := hx
          go_simp
        simp only [Act.put, List.setIfInBounds_toArray, List.set_cons_zero, List.set_cons_succ]
        refine wpBut_take (i := 2) (oi := { dst := some 105, op := Go.Op.fieldAddr 57 (Go.Operand.tmp 104) 1, type := 0, pos := "graph.go:65", after := #[{ on := 1, ground := Go.Ground.data }], guard := none }) (v := .pointer (some ⟨gg, 1, none⟩)) rfl (by kernel_rfl) (by kernel_rfl) (by kernel_rfl) (by kernel_rfl) (fun _ _ _ h => h) (Or.inl ⟨by rfl, fun wx hx => ?_⟩) hS ?_
        · obtain ⟨x0, x1, x2, x3, x4⟩ := hx
          go_simp
        simp only [Act.put, List.setIfInBounds_toArray, List.set_cons_zero, List.set_cons_succ]
        refine wpBut_take (i := 3) (oi := { dst := some 106, op := Go.Op.load 55 (Go.Operand.tmp 105), type := 55, pos := "graph.go:65", after := #[{ on := 2, ground := Go.Ground.data }], guard := none }) (v := .slice (some ⟨ga, 0, none⟩) m m) rfl (by kernel_rfl) (by kernel_rfl) (by kernel_rfl) (by kernel_rfl) (fun _ _ _ h => h) (Or.inl ⟨by rfl, fun wx hx => ?_⟩) hS ?_
        · obtain ⟨x0, x1, x2, x3, x4⟩ := hx
          go_simp
        simp only [Act.put, List.setIfInBounds_toArray, List.set_cons_zero, List.set_cons_succ]
        refine wpBut_take (i := 4) (oi := { dst := some 107, op := Go.Op.fieldAddr 67 (Go.Operand.tmp 9) 1, type := 0, pos := "graph.go:65", after := #[], guard := none }) (v := .pointer (some ⟨b9, 1, none⟩)) rfl (by kernel_rfl) (by kernel_rfl) (by kernel_rfl) (by kernel_rfl) (fun _ _ _ h => h) (Or.inl ⟨by rfl, fun wx hx => ?_⟩) hS ?_
        · obtain ⟨x0, x1, x2, x3, x4⟩ := hx
          go_simp
        simp only [Act.put, List.setIfInBounds_toArray, List.set_cons_zero, List.set_cons_succ]
        refine wpBut_take (i := 5) (oi := { dst := some 108, op := Go.Op.load 21 (Go.Operand.tmp 107), type := 21, pos := "graph.go:65", after := #[{ on := 4, ground := Go.Ground.data }], guard := none }) (v := .int .i32 f) rfl (by kernel_rfl) (by kernel_rfl) (by kernel_rfl) (by kernel_rfl) (fun _ _ _ h => h) (Or.inl ⟨by rfl, fun wx hx => ?_⟩) hS ?_
        · obtain ⟨x0, x1, x2, x3, x4⟩ := hx
          go_simp
        simp only [Act.put, List.setIfInBounds_toArray, List.set_cons_zero, List.set_cons_succ]
        refine wpBut_take (i := 6) (oi := { dst := some 109, op := Go.Op.load 29 (Go.Operand.tmp 3), type := 29, pos := "graph.go:65", after := #[], guard := none }) (v := .pointer (some ⟨gg, 0, none⟩)) rfl (by kernel_rfl) (by kernel_rfl) (by kernel_rfl) (by kernel_rfl) (fun _ _ _ h => h) (Or.inl ⟨by rfl, fun wx hx => ?_⟩) hS ?_
        · obtain ⟨x0, x1, x2, x3, x4⟩ := hx
          go_simp
        simp only [Act.put, List.setIfInBounds_toArray, List.set_cons_zero, List.set_cons_succ]
        refine wpBut_take (i := 7) (oi := { dst := some 110, op := Go.Op.nilCheck (Go.Operand.tmp 109), type := 0, pos := "graph.go:65", after := #[{ on := 6, ground := Go.Ground.data }], guard := none }) (v := .pointer (some ⟨gg, 0, none⟩)) rfl (by kernel_rfl) (by kernel_rfl) (by kernel_rfl) (by kernel_rfl) (fun _ _ _ h => h) (Or.inl ⟨by rfl, fun wx hx => ?_⟩) hS ?_
        · obtain ⟨x0, x1, x2, x3, x4⟩ := hx
          go_simp
        simp only [Act.put, List.setIfInBounds_toArray, List.set_cons_zero, List.set_cons_succ]
        refine wpBut_take (i := 8) (oi := { dst := some 111, op := Go.Op.fieldAddr 57 (Go.Operand.tmp 110) 1, type := 0, pos := "graph.go:65", after := #[{ on := 7, ground := Go.Ground.data }], guard := none }) (v := .pointer (some ⟨gg, 1, none⟩)) rfl (by kernel_rfl) (by kernel_rfl) (by kernel_rfl) (by kernel_rfl) (fun _ _ _ h => h) (Or.inl ⟨by rfl, fun wx hx => ?_⟩) hS ?_
        · obtain ⟨x0, x1, x2, x3, x4⟩ := hx
          go_simp
        simp only [Act.put, List.setIfInBounds_toArray, List.set_cons_zero, List.set_cons_succ]
        refine wpBut_take (i := 9) (oi := { dst := some 112, op := Go.Op.load 55 (Go.Operand.tmp 111), type := 55, pos := "graph.go:65", after := #[{ on := 8, ground := Go.Ground.data }], guard := none }) (v := .slice (some ⟨ga, 0, none⟩) m m) rfl (by kernel_rfl) (by kernel_rfl) (by kernel_rfl) (by kernel_rfl) (fun _ _ _ h => h) (Or.inl ⟨by rfl, fun wx hx => ?_⟩) hS ?_
        · obtain ⟨x0, x1, x2, x3, x4⟩ := hx
          go_simp
        simp only [Act.put, List.setIfInBounds_toArray, List.set_cons_zero, List.set_cons_succ]
        refine wpBut_take (i := 10) (oi := { dst := some 113, op := Go.Op.fieldAddr 67 (Go.Operand.tmp 9) 1, type := 0, pos := "graph.go:65", after := #[], guard := none }) (v := .pointer (some ⟨b9, 1, none⟩)) rfl (by kernel_rfl) (by kernel_rfl) (by kernel_rfl) (by kernel_rfl) (fun _ _ _ h => h) (Or.inl ⟨by rfl, fun wx hx => ?_⟩) hS ?_
        · obtain ⟨x0, x1, x2, x3, x4⟩ := hx
          go_simp
        simp only [Act.put, List.setIfInBounds_toArray, List.set_cons_zero, List.set_cons_succ]
        refine wpBut_take (i := 11) (oi := { dst := some 114, op := Go.Op.load 21 (Go.Operand.tmp 113), type := 21, pos := "graph.go:65", after := #[{ on := 10, ground := Go.Ground.data }], guard := none }) (v := .int .i32 f) rfl (by kernel_rfl) (by kernel_rfl) (by kernel_rfl) (by kernel_rfl) (fun _ _ _ h => h) (Or.inl ⟨by rfl, fun wx hx => ?_⟩) hS ?_
        · obtain ⟨x0, x1, x2, x3, x4⟩ := hx
          go_simp
        simp only [Act.put, List.setIfInBounds_toArray, List.set_cons_zero, List.set_cons_succ]
        refine wpBut_take (i := 12) (oi := { dst := some 115, op := Go.Op.indexAddr 55 (Go.Operand.tmp 112) (Go.Operand.tmp 114), type := 0, pos := "graph.go:65", after := #[{ on := 9, ground := Go.Ground.data }, { on := 11, ground := Go.Ground.data }], guard := none }) (v := .pointer (some ⟨ga, f, none⟩)) rfl (by kernel_rfl) (by kernel_rfl) (by kernel_rfl) (by kernel_rfl) (fun _ _ _ h => h) (Or.inl ⟨by rfl, fun wx hx => ?_⟩) hS ?_
        · obtain ⟨x0, x1, x2, x3, x4⟩ := hx
          go_simp
        simp only [Act.put, List.setIfInBounds_toArray, List.set_cons_zero, List.set_cons_succ]
        refine wpBut_take (i := 13) (oi := { dst := some 116, op := Go.Op.load 68 (Go.Operand.tmp 115), type := 68, pos := "graph.go:65", after := #[{ on := 12, ground := Go.Ground.data }], guard := none }) (v := .slice o (acc f).length cp) rfl (by kernel_rfl) (by kernel_rfl) (by kernel_rfl) (by kernel_rfl) (fun _ _ _ h => h) (Or.inl ⟨by rfl, fun wx hx => ?_⟩) hS ?_
        · obtain ⟨x0, x1, x2, x3, x4⟩ := hx
          go_simp
        simp only [Act.put, List.setIfInBounds_toArray, List.set_cons_zero, List.set_cons_succ]
        refine wpBut_take (i := 14) (oi := { dst := some 117, op := Go.Op.move (Go.Operand.tmp 10), type := 21, pos := "graph.go:65", after := #[], guard := none }) (v := .int .i32 ix) rfl (by kernel_rfl) (by kernel_rfl) (by kernel_rfl) (by kernel_rfl) (fun _ _ _ h => h) (Or.inl ⟨by rfl, fun wx hx => ?_⟩) hS ?_
        · obtain ⟨x0, x1, x2, x3, x4⟩ := hx
          go_simp
        simp only [Act.put, List.setIfInBounds_toArray, List.set_cons_zero, List.set_cons_succ]
        refine wpBut_take (i := 15) (oi := { dst := some 118, op := Go.Op.fieldAddr 67 (Go.Operand.tmp 9) 2, type := 0, pos := "graph.go:65", after := #[], guard := none }) (v := .pointer (some ⟨b9, 2, none⟩)) rfl (by kernel_rfl) (by kernel_rfl) (by kernel_rfl) (by kernel_rfl) (fun _ _ _ h => h) (Or.inl ⟨by rfl, fun wx hx => ?_⟩) hS ?_
        · obtain ⟨x0, x1, x2, x3, x4⟩ := hx
          go_simp
        simp only [Act.put, List.setIfInBounds_toArray, List.set_cons_zero, List.set_cons_succ]
        refine wpBut_take (i := 16) (oi := { dst := some 119, op := Go.Op.load 4 (Go.Operand.tmp 118), type := 4, pos := "graph.go:65", after := #[{ on := 15, ground := Go.Ground.data }], guard := none }) (v := .bool gw) rfl (by kernel_rfl) (by kernel_rfl) (by kernel_rfl) (by kernel_rfl) (fun _ _ _ h => h) (Or.inl ⟨by rfl, fun wx hx => ?_⟩) hS ?_
        · obtain ⟨x0, x1, x2, x3, x4⟩ := hx
          go_simp
        simp only [Act.put, List.setIfInBounds_toArray, List.set_cons_zero, List.set_cons_succ]
        refine wpBut_take (i := 17) (oi := { dst := some 120, op := Go.Op.build 70 #[(0, Go.Operand.tmp 117), (1, Go.Operand.tmp 119)], type := 70, pos := "graph.go:65", after := #[{ on := 14, ground := Go.Ground.data }, { on := 16, ground := Go.Ground.data }], guard := none }) (v := .agg #[.int .i32 ix, .bool gw]) rfl (by kernel_rfl) (by kernel_rfl) (by kernel_rfl) (by kernel_rfl) (fun _ _ _ h => h) (Or.inl ⟨by rfl, fun wx hx => ?_⟩) hS ?_
        · obtain ⟨x0, x1, x2, x3, x4⟩ := hx
          go_simp
        simp only [Act.put, List.setIfInBounds_toArray, List.set_cons_zero, List.set_cons_succ]
        refine wpBut_one (i := 18) (o := { dst := some 121, op := Go.Op.buildSlice 68 1 #[(0, Go.Operand.tmp 120)], type := 68, pos := "graph.go:65", after := #[{ on := 17, ground := Go.Ground.data }], guard := none }) (by kernel_rfl) rfl (fun K hK => ?_)
        go_simp
        refine hK.out _ _ ⟨cell_later HB1.out c0, cell_later HB1.out c1, cell_later HB1.out k1, cell_later HB1.out k2, cell_later HB1.out c3⟩ ?_
        clear hK K
        try simp only [Act.put, List.setIfInBounds_toArray, List.set_cons_zero, List.set_cons_succ]
        refine wpBut_one (i := 19) (o := { dst := some 122, op := Go.Op.call { callee := Go.Callee.builtin Go.Builtin.append, args := #[Go.Operand.tmp 116, Go.Operand.tmp 121], argTypes := #[68, 68] }, type := 68, pos := "graph.go:65", after := #[{ on := 13, ground := Go.Ground.data }, { on := 18, ground := Go.Ground.data }], guard := none }) (by kernel_rfl) rfl (fun K hK => ?_)
        refine step_append_lies _ (by rfl) _ _ _ (by rfl) B 70 i0 (.agg #[.int .i32 0, .bool false]) 2 8 Try.underlying68 hi0 hz0 hz1 hz2 rfl (by decide) (.slice o (acc f).length cp) (acc f).length (flatR (acc f)) (by rfl) HRa.out ⟨w2.heap.size, 0, none⟩ 1 1 (rcell (ix, gw)) (by rfl) (by rfl) (news_two ix gw 70) (rcell_one ix gw) Nat.zero_lt_one q1 q2 q3 (w2.heap.size + 1) (by simp) ?_
        intro g cap w3 hown3 hgrow hat hlt3
        have hA2 := H1.out.putA hf HV.out hgrow
        have hx1 : w3.cell? ⟨gp, 0, none⟩ = some (.pointer (some ⟨gg, 0, none⟩)) := cell_blk hA2.1.1.p rfl
        have hx2 : w3.cell? ⟨gg, 1, none⟩ = some (.slice (some ⟨ga, 0, none⟩) m m) := cell_blk hA2.1.1.g rfl
        have hbb := blk_kept hgrow HK1.out (fun e => by
          obtain ⟨_, c, hc⟩ := row_tag HRa.out b9 e.symm
          exact ne_of_tag HK1.out hc (by decide) rfl)
        have hx3 : w3.cell? ⟨b9, 1, none⟩ = some (.int .i32 f) := cell_blk hbb rfl
        have hx4 : w3.cell? ⟨b9, 2, none⟩ = some (.bool gw) := cell_blk hbb rfl
        have hx5 : w3.cell? ⟨ga, f, none⟩ = some (.slice o (acc f).length cp) := (by rw [← HV.out]; exact cell_blk hA2.2 (by simp [hf]))
        have hx6 := frz_blk hA2.2 f
        have hS2 : (fun w' : World => w'.cell? ⟨gp, 0, none⟩ = some (.pointer (some ⟨gg, 0, none⟩)) ∧ w'.cell? ⟨gg, 1, none⟩ = some (.slice (some ⟨ga, 0, none⟩) m m) ∧ w'.cell? ⟨b9, 1, none⟩ = some (.int .i32 f) ∧ w'.cell? ⟨b9, 2, none⟩ = some (.bool gw) ∧ w'.cell? ⟨ga, f, none⟩ = some (.slice o (acc f).length cp)) w3 := ⟨hx1, hx2, hx3, hx4, hx5⟩
        refine hK.out _ _ hS2 ?_
        clear hK K
        try simp only [Act.put, List.setIfInBounds_toArray, List.set_cons_zero, List.set_cons_succ]
        refine wpBut_one (i := 20) (o := { dst := some 123, op := Go.Op.indexAddr 55 (Go.Operand.tmp 106) (Go.Operand.tmp 108), type := 0, pos := "graph.go:65", after := #[{ on := 3, ground := Go.Ground.data }, { on := 5, ground := Go.Ground.data }, { on := 0, ground := Go.Ground.phase }, { on := 1, ground := Go.Ground.phase }, { on := 2, ground := Go.Ground.phase }, { on := 3, ground := Go.Ground.phase }, { on := 4, ground := Go.Ground.phase }, { on := 5, ground := Go.Ground.phase }, { on := 6, ground := Go.Ground.phase }, { on := 7, ground := Go.Ground.phase }, { on := 8, ground := Go.Ground.phase }, { on := 9, ground := Go.Ground.phase }, { on := 10, ground := Go.Ground.phase }, { on := 11, ground := Go.Ground.phase }, { on := 12, ground := Go.Ground.phase }, { on := 13, ground := Go.Ground.phase }, { on := 14, ground := Go.Ground.phase }, { on := 15, ground := Go.Ground.phase }, { on := 16, ground := Go.Ground.phase }, { on := 17, ground := Go.Ground.phase }, { on := 18, ground := Go.Ground.phase }, { on := 19, ground := Go.Ground.phase }], guard := none }) (by kernel_rfl) rfl (fun K hK => ?_)
        go_simp
        refine hK.out _ _ hS2 ?_
        clear hK K
        try simp only [Act.put, List.setIfInBounds_toArray, List.set_cons_zero, List.set_cons_succ]
        refine wpBut_last (o := { dst := none, op := Go.Op.store 68 (Go.Operand.tmp 123) (Go.Operand.tmp 122), type := 0, pos := "graph.go:65", after := #[{ on := 20, ground := Go.Ground.data }, { on := 19, ground := Go.Ground.data }, { on := 19, ground := Go.Ground.chain }, { on := 0, ground := Go.Ground.phase }, { on := 1, ground := Go.Ground.phase }, { on := 2, ground := Go.Ground.phase }, { on := 3, ground := Go.Ground.phase }, { on := 4, ground := Go.Ground.phase }, { on := 5, ground := Go.Ground.phase }, { on := 6, ground := Go.Ground.phase }, { on := 7, ground := Go.Ground.phase }, { on := 8, ground := Go.Ground.phase }, { on := 9, ground := Go.Ground.phase }, { on := 10, ground := Go.Ground.phase }, { on := 11, ground := Go.Ground.phase }, { on := 12, ground := Go.Ground.phase }, { on := 13, ground := Go.Ground.phase }, { on := 14, ground := Go.Ground.phase }, { on := 15, ground := Go.Ground.phase }, { on := 16, ground := Go.Ground.phase }, { on := 17, ground := Go.Ground.phase }, { on := 18, ground := Go.Ground.phase }, { on := 19, ground := Go.Ground.phase }], guard := none }) (by kernel_rfl) rfl (by kernel_rfl) (fun K hK => ?_)
        go_simp
        refine hK.out _ _ ?_
        clear hK K
        refine HKK.out _ _ ?_
        clear HKK KK
        have hZ := HAB2.out.put HB1.out hf ix gw (v' := .slice (some ⟨g, 0, none⟩) ((acc f).length + 1) cap) hown3 (by rw [HV.out]; exact hgrow) (fun g' hg' => by
          have e : g = g' := by simpa [Value.ownBlock] using hg'
          subst e
          rcases hat with e | e
          · left; rw [HV.out]; exact e
          · right; omega)
        have HZ : Hid (∃ V, AB B gp gg ga bx m nx G v1 (.slice none 0 0) w0 (itemL G (A.take (q + 1))) V (w3.setCell ⟨ga, f, none⟩ (.slice (some ⟨g, 0, none⟩) ((acc f).length + 1) cap))) := by
          rw [HTK.out]; exact ⟨_, hZ⟩
        clear hZ hown3 hgrow hat hlt3 hA2 hx1 hx2 hx3 hx4 hx5 hx6 hS2 hS hbb c0 c1 k0 k1 k2 c3 q1 q2 q3 HK1 H1 HRa HV HB1 HAB2 HK2 HTK hlk
        go_wp2_with fail
        go_roundw
        case rel => exact ⟨q + 1, by go_num, by omega, HZ⟩
        case measure => simp [intOf]; omega
      · have e1 : idxF G gt = none := by simp [idxF, hG]
        rw [e1] at hlk
        simp only [if_true, Option.getD_none, Option.isSome_none] at hlk
        have HZ : Hid (∃ V, AB B gp gg ga bx m nx G v1 (.slice none 0 0) w0 (itemL G (A.take (q + 1))) V w2) := by
          rw [hsk hG]; exact ⟨V, HAB2.out⟩
        clear e1 hsk htk hal
        go_upto_region 18 with fail
        rw [← HW2.out]
        clear HW2 a0' a1' a2'
        go_wp2_with fail
        go_roundw
        case rel => exact ⟨q + 1, by go_num, by omega, HZ⟩
        case measure => simp [intOf]; omega
    · have hqe : q = A.length := by omega
      obtain ⟨V, hAB⟩ := HO.out
      rw [hqe, List.take_length] at hAB
      have HZ : Hid _ := hAB
      have HIA : Hid (∀ j, j < m → (itemL G A j).length ≤ 4096 ∧ ∀ k, k < (itemL G A j).length → IsIx G.length ((itemL G A j).getD k (0, false)).1) := fun j _ => ⟨Nat.le_trans (itemL_len G A j) hA, fun k hk => itemL_ix G A j k hk⟩
      have HRV : Hid _ := HR.out V
      clear HO hAB
      subst hqe
      go_wp2_with fail
      exact g8 _ _ _ _ _ _ _ _ _ _ _ _ _ _ _ _ _ _ _ _ _ _ _ _ _ _ _ _ _ _ _ _ _ _ _ _ _ _ _ _ _ _ _ _ _ _ _ _ _ _ _ _ _ _ _ _ _ _ _ _ _ _ _ _ _ _ _ _ _ _ _ _ _ _ _ _ _ _ _ _ _ _ _ _ _ _ _ _ _ _ _ _ _ _ _ _ _ _ _ _ _ _ _ _ _ _ _ _ _ _ _ _ _ _ _ _ _ _ _ _ _ _ _ _ _ _ _ _ _ _ _ _ _ _ _ _ _ _ _ _ _ _ _ _ _ _ _ _ _ _ _ _ _ _ _ _ _ _ _ _ _ _ _ _ _ _ _ _ _ _ _ _ _ _ _ _ _ _ _ _ _ _ _ _ _ _ _ _ _ _ _ _ _ _ _ _ _ _ _ _ _ _ _ _ _ _ HZ hn hm HIA HRV
end Go.Proofs.Qxb6626314a
