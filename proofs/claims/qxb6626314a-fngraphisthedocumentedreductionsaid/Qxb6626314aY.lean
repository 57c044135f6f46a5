/-
  Seat b6626314a: the index of the transactions; the items' table is made.
-/
import Derived.Test.Qxb6626314aX
namespace Go.Proofs.Qxb6626314a
open Go.RowKit Go.Maps Go.Sort
set_option linter.unusedVariables false
set_option linter.unusedSimpArgs false

theorem mkHint (n : Int) (w : World) : (Instr.makeMap 65 (some (.int .i64 n))).run Try.prog w = .ok (.map (some w.heap.size)) (w.alloc (.map #[] 0)) := by kernel_rfl
/-- The counted transactions and their index. -/
structure TI (B gp gg bx : Nat) (G : List Int) (v1 : Value) (w0 : World) (q : Nat) (f : Int → Option Value) (w : World) : Prop where
  gb : GB B gp gg v1 (.slice none 0 0) (.slice none 0 0) w
  tx : w.ownsRow B 2 1 v1 G.length (int64s G)
  mp : MapIs w bx q f
  b : Below B w0 w
  lx : B ≤ bx
def idxQ (G : List Int) (q : Nat) : Int → Option Value := fun k => if k ∈ G.take q then some (.int .i32 (G.idxOf k)) else none
theorem idxQ_zero (G : List Int) : idxQ G 0 = fun _ => none := by funext k; simp [idxQ]
theorem idxQ_all (G : List Int) : idxQ G G.length = idxF G := by funext k; simp [idxQ, idxF]
theorem idxQ_put (G : List Int) (hG : G.Pairwise (· < ·)) (q : Nat) (hq : q < G.length) : putAt (idxQ G q) (G.getD q 0) (.int .i32 q) = idxQ G (q + 1) := by
  funext k
  have e : G.take (q + 1) = G.take q ++ [G.getD q 0] := by rw [List.take_add_one]; simp [hq]
  unfold putAt idxQ
  rw [e]
  by_cases hk : k = G.getD q 0
  · have hi : G.idxOf k = q := idxOf_first G q k hq hk.symm (fun i hi => by
      rw [List.pairwise_iff_getElem] at hG
      have := hG i q (by omega) hq hi
      rw [hk]
      simp [List.getD_eq_getElem?_getD, hq, show i < G.length by omega]
      omega)
    rw [if_pos hk, if_pos (by simp [hk]), hi]
  · rw [if_neg hk]
    simp only [List.mem_append, List.mem_singleton, hk, or_false]

set_option maxRecDepth 100000 in
set_option maxHeartbeats 2000000 in
theorem g6 {R : Ending → World → Prop} {B0 B gh gp gg be bt bi bx m ne nt : Nat} {A : List Ac} {G : List Int} {va v1 : Value} {fe ft : Int → Option Value} {w0 w : World} (u1 u2 u4 u6 u7 u8 u9 u10 u11 u12 u13 u14 u15 u16 u17 u18 u19 u20 u21 u22 u23 u24 u25 u26 u27 u28 u29 u30 u31 u32 u33 u34 u35 u36 u37 u38 u39 u40 u41 u42 u43 u44 u45 u46 u47 u48 u49 u50 u51 u52 u53 u54 u55 u56 u57 u58 u59 u60 u61 u62 u63 u64 u65 u66 u67 u68 u69 u70 u71 u72 u73 u74 u75 u76 u77 u78 u79 u80 u81 u82 u83 u84 u85 u86 u87 u88 u89 u90 u91 u92 u93 u94 u95 u96 u97 u98 u99 u100 u101 u102 u103 u104 u105 u106 u107 u108 u109 u110 u111 u112 u113 u114 u115 u116 u117 u118 u119 u120 u121 u122 u123 u124 u125 u126 u127 u128 u129 u130 u131 u132 u133 u134 u135 u136 u137 u138 u139 u140 u141 u142 u143 u144 u145 u146 u147 u148 u149 u150 u151 u152 u153 u154 u155 u156 u157 u158 u159 u160 u161 u162 u163 u164 u165 u166 u167 u168 u169 u170 u171 u172 u173 u174 u175 u176 u177 u178 u179 u180 u181 u182 u183 u184 u185 u186 u187 u188 u189 u190 u191 u192 u193 u194 u195 u196 u197 u198 u199 u200 u201 u202 u203 u204 u205 u206 : Value)
    (HH : Hid (HV B0 gh va be bt bi A ne nt m fe ft w0)) (HB : Hid (B = w0.heap.size)) (HTI : Hid (TI B gp gg bx G v1 w0 G.length (idxF G) w)) (hn : G.length ≤ 12288) (hm : m ≤ 4096) (hA : A.length ≤ 4096) (HI : Hid (∀ i, i < A.length → 0 ≤ (A.getD i a0).item ∧ (A.getD i a0).item < m)) (HW : Hid (∀ i, i < A.length → R64 (A.getD i a0).tx))
    (HR : Hid (∀ (v1 : Value) (ga : Nat) (VA : Nat → Value) (gs : Nat) (S' : Nat → List Int) (w' : World), GA B gp gg ga m G (itemL G A) VA v1 (.slice (some ⟨gs, 0, none⟩) G.length G.length) w' → (∃ V, RT B 21 1 gs 44 G.length (fun u => (S' u).length) (fun u => ints (S' u)) V w') → Below B w0 w' → (∀ u, u < G.length → (S' u).Pairwise (· < ·) ∧ SameM (S' u) (redJ (itemL G A) m u) ∧ (S' u).length ≤ 100000000) → R (.returned (.pointer (some ⟨gg, 0, none⟩))) w')) :
    Code.wp Try.prog (tl Try.f8 6) (bodyPost Try.prog Try.f8 R) ⟨#[.pointer (some ⟨gh, 0, none⟩), u1, u2, .pointer (some ⟨gp, 0, none⟩), u4, .map (some bx), u6, u7, u8, u9, u10, u11, u12, u13, u14, u15, u16, u17, u18, u19, u20, u21, u22, u23, u24, u25, u26, u27, u28, u29, u30, u31, u32, u33, u34, u35, u36, u37, u38, u39, u40, u41, u42, u43, u44, u45, u46, u47, u48, u49, u50, u51, u52, u53, u54, u55, u56, u57, u58, u59, u60, u61, u62, u63, u64, u65, u66, u67, u68, u69, u70, u71, u72, u73, u74, u75, u76, u77, u78, u79, u80, u81, u82, u83, u84, u85, u86, u87, u88, u89, u90, u91, u92, u93, u94, u95, u96, u97, u98, u99, u100, u101, u102, u103, u104, u105, u106, u107, u108, u109, u110, u111, u112, u113, u114, u115, u116, u117, u118, u119, u120, u121, u122, u123, u124, u125, u126, u127, u128, u129, u130, u131, u132, u133, u134, u135, u136, u137, u138, u139, u140, u141, u142, u143, u144, u145, u146, u147, u148, u149, u150, u151, u152, u153, u154, u155, u156, u157, u158, u159, u160, u161, u162, u163, u164, u165, u166, u167, u168, u169, u170, u171, u172, u173, u174, u175, u176, u177, u178, u179, u180, u181, u182, u183, u184, u185, u186, u187, u188, u189, u190, u191, u192, u193, u194, u195, u196, u197, u198, u199, u200, u201, u202, u203, u204, u205, u206], []⟩ w := by
  obtain ⟨i0, hi0, hz0, hz1, hz2⟩ := info_parts Try.info68
  have hB0 : Below w0.heap.size w0 w := by have := HTI.out.b; rw [HB.out] at this; exact this
  have HHw : Hid _ := HH.out.below hB0
  have c0 : w.cell? ⟨gp, 0, none⟩ = some (.pointer (some ⟨gg, 0, none⟩)) := cell_blk HTI.out.gb.p rfl
  have c1 : w.cell? ⟨gh, 3, none⟩ = some (.map (some bi)) := cell_blk HHw.out.blk rfl
  have q3 : B ≤ w.drew.heap.size := by rw [HB.out]; exact hB0.size
  clear hB0
  rw [tl8_6]
  refine wp_seq_k (fun K hK => ?_)
  conv => arg 2; whnf
  go_wp2_with fail
  refine wp_shade2 (fun KK hKK => ?_)
  have HKK : Hid _ := hKK
  clear hKK
  refine wp_region_but 9 (fun w' => w'.cell? ⟨gp, 0, none⟩ = some (.pointer (some ⟨gg, 0, none⟩)) ∧ w'.cell? ⟨gh, 3, none⟩ = some (.map (some bi)) ∧ ∀ ty, (Builtin.len_ #[61] ty #[.map (some bi)]).run Try.prog w' = .ok (.int .i64 m) w') (by kernel_rfl) ?_
  have hS : (fun w' : World => w'.cell? ⟨gp, 0, none⟩ = some (.pointer (some ⟨gg, 0, none⟩)) ∧ w'.cell? ⟨gh, 3, none⟩ = some (.map (some bi)) ∧ ∀ ty, (Builtin.len_ #[61] ty #[.map (some bi)]).run Try.prog w' = .ok (.int .i64 m) w') w.drew := ⟨c0, c1, (HHw.out.below ((Below.refl w.heap.size w).drew)).it.len⟩
  refine wpBut_take (i := 0) (oi := { dst := some 77, op := Go.Op.load 29 (Go.Operand.tmp 3), type := 29, pos := "graph.go:62", after := #[], guard := none }) (v := .pointer (some ⟨gg, 0, none⟩)) rfl (by kernel_rfl) (by kernel_rfl) (by kernel_rfl) (by kernel_rfl) (fun _ _ _ h => h) (Or.inl ⟨by rfl, fun wx hx => ?_⟩) hS ?_
  · obtain ⟨x0, x1, x2⟩ := hx
    go_simp
  simp only [Act.put, List.setIfInBounds_toArray, List.set_cons_zero, List.set_cons_succ]
  refine wpBut_take (i := 1) (oi := { dst := some 78, op := Go.Op.move (Go.Operand.tmp 0), type := 27, pos := "graph.go:62", after := #[], guard := none }) (v := .pointer (some ⟨gh, 0, none⟩)) rfl (by kernel_rfl) (by kernel_rfl) (by kernel_rfl) (by kernel_rfl) (fun _ _ _ h => h) (Or.inl ⟨by rfl, fun wx hx => ?_⟩) hS ?_
  · obtain ⟨x0, x1, x2⟩ := hx
    go_simp
  simp only [Act.put, List.setIfInBounds_toArray, List.set_cons_zero, List.set_cons_succ]
  refine wpBut_take (i := 2) (oi := { dst := some 79, op := Go.Op.nilCheck (Go.Operand.tmp 78), type := 0, pos := "graph.go:62", after := #[{ on := 1, ground := Go.Ground.data }], guard := none }) (v := .pointer (some ⟨gh, 0, none⟩)) rfl (by kernel_rfl) (by kernel_rfl) (by kernel_rfl) (by kernel_rfl) (fun _ _ _ h => h) (Or.inl ⟨by rfl, fun wx hx => ?_⟩) hS ?_
  · obtain ⟨x0, x1, x2⟩ := hx
    go_simp
  simp only [Act.put, List.setIfInBounds_toArray, List.set_cons_zero, List.set_cons_succ]
  refine wpBut_take (i := 3) (oi := { dst := some 80, op := Go.Op.fieldAddr 63 (Go.Operand.tmp 79) 3, type := 0, pos := "graph.go:62", after := #[{ on := 2, ground := Go.Ground.data }], guard := none }) (v := .pointer (some ⟨gh, 3, none⟩)) rfl (by kernel_rfl) (by kernel_rfl) (by kernel_rfl) (by kernel_rfl) (fun _ _ _ h => h) (Or.inl ⟨by rfl, fun wx hx => ?_⟩) hS ?_
  · obtain ⟨x0, x1, x2⟩ := hx
    go_simp
  simp only [Act.put, List.setIfInBounds_toArray, List.set_cons_zero, List.set_cons_succ]
  refine wpBut_take (i := 4) (oi := { dst := some 81, op := Go.Op.load 61 (Go.Operand.tmp 80), type := 61, pos := "graph.go:62", after := #[{ on := 3, ground := Go.Ground.data }], guard := none }) (v := .map (some bi)) rfl (by kernel_rfl) (by kernel_rfl) (by kernel_rfl) (by kernel_rfl) (fun _ _ _ h => h) (Or.inl ⟨by rfl, fun wx hx => ?_⟩) hS ?_
  · obtain ⟨x0, x1, x2⟩ := hx
    go_simp
  simp only [Act.put, List.setIfInBounds_toArray, List.set_cons_zero, List.set_cons_succ]
  refine wpBut_take (i := 5) (oi := { dst := some 82, op := Go.Op.call { callee := Go.Callee.builtin Go.Builtin.len, args := #[Go.Operand.tmp 81], argTypes := #[61] }, type := 3, pos := "graph.go:62", after := #[{ on := 4, ground := Go.Ground.data }], guard := none }) (v := .int .i64 m) rfl (by kernel_rfl) (by kernel_rfl) (by kernel_rfl) (by kernel_rfl) (fun _ _ _ h => h) (Or.inl ⟨by rfl, fun wx hx => ?_⟩) hS ?_
  · obtain ⟨x0, x1, x2⟩ := hx
    go_simp
  simp only [Act.put, List.setIfInBounds_toArray, List.set_cons_zero, List.set_cons_succ]
  refine wpBut_one (i := 6) (o := { dst := some 83, op := Go.Op.makeSlice 55 (Go.Operand.tmp 82) (Go.Operand.tmp 82), type := 55, pos := "graph.go:62", after := #[{ on := 5, ground := Go.Ground.data }, { on := 5, ground := Go.Ground.data }], guard := none }) (by kernel_rfl) rfl (fun K hK => ?_)
  refine step_make _ (by rfl) (.tmp 82) (.tmp 82) 55 (by rfl) B 68 i0 (.slice none 0 0) 1 Try.underlying55 hi0 hz0 hz1 m (by rfl) (by rfl) (by rw [hz2]; omega) (by unfold maxLen; omega) q3 ?_
  intro w2 hown2 hgrow2
  have hb2 : Below w.heap.size w w2 := ((Below.refl w.heap.size w).drew).trans (below_of_grown hgrow2)
  have hx1 : w2.cell? ⟨gp, 0, none⟩ = some (.pointer (some ⟨gg, 0, none⟩)) := cell_later hb2 c0
  have hx2 : w2.cell? ⟨gh, 3, none⟩ = some (.map (some bi)) := cell_later hb2 c1
  have hS2 : (fun w' : World => w'.cell? ⟨gp, 0, none⟩ = some (.pointer (some ⟨gg, 0, none⟩)) ∧ w'.cell? ⟨gh, 3, none⟩ = some (.map (some bi)) ∧ ∀ ty, (Builtin.len_ #[61] ty #[.map (some bi)]).run Try.prog w' = .ok (.int .i64 m) w') w2 := ⟨hx1, hx2, (HHw.out.below hb2).it.len⟩
  refine hK.out _ _ hS2 ?_
  clear hK K
  try simp only [Act.put, List.setIfInBounds_toArray, List.set_cons_zero, List.set_cons_succ]
  refine wpBut_one (i := 7) (o := { dst := some 84, op := Go.Op.nilCheck (Go.Operand.tmp 77), type := 0, pos := "graph.go:62", after := #[{ on := 0, ground := Go.Ground.data }, { on := 0, ground := Go.Ground.phase }, { on := 1, ground := Go.Ground.phase }, { on := 2, ground := Go.Ground.phase }, { on := 3, ground := Go.Ground.phase }, { on := 4, ground := Go.Ground.phase }, { on := 5, ground := Go.Ground.phase }, { on := 6, ground := Go.Ground.phase }], guard := none }) (by kernel_rfl) rfl (fun K hK => ?_)
  go_simp
  refine hK.out _ _ hS2 ?_
  clear hK K
  try simp only [Act.put, List.setIfInBounds_toArray, List.set_cons_zero, List.set_cons_succ]
  refine wpBut_one (i := 8) (o := { dst := some 85, op := Go.Op.fieldAddr 57 (Go.Operand.tmp 84) 1, type := 0, pos := "graph.go:62", after := #[{ on := 7, ground := Go.Ground.data }, { on := 0, ground := Go.Ground.phase }, { on := 1, ground := Go.Ground.phase }, { on := 2, ground := Go.Ground.phase }, { on := 3, ground := Go.Ground.phase }, { on := 4, ground := Go.Ground.phase }, { on := 5, ground := Go.Ground.phase }, { on := 6, ground := Go.Ground.phase }], guard := none }) (by kernel_rfl) rfl (fun K hK => ?_)
  go_simp
  refine hK.out _ _ hS2 ?_
  clear hK K
  try simp only [Act.put, List.setIfInBounds_toArray, List.set_cons_zero, List.set_cons_succ]
  have hx3 : w2.cell? ⟨gg, 1, none⟩ = some (.slice none 0 0) := cell_blk (HTI.out.gb.below hb2).g rfl
  have hx4 := frz_blk (HTI.out.gb.below hb2).g 1
  refine wpBut_last (o := { dst := none, op := Go.Op.store 55 (Go.Operand.tmp 85) (Go.Operand.tmp 83), type := 0, pos := "graph.go:62", after := #[{ on := 8, ground := Go.Ground.data }, { on := 6, ground := Go.Ground.data }, { on := 5, ground := Go.Ground.chain }, { on := 0, ground := Go.Ground.phase }, { on := 1, ground := Go.Ground.phase }, { on := 2, ground := Go.Ground.phase }, { on := 3, ground := Go.Ground.phase }, { on := 4, ground := Go.Ground.phase }, { on := 5, ground := Go.Ground.phase }, { on := 6, ground := Go.Ground.phase }], guard := none }) (by kernel_rfl) rfl (by kernel_rfl) (fun K hK => ?_)
  go_simp
  refine hK.out _ _ ?_
  clear hK K
  refine HKK.out _ _ ?_
  clear HKK KK
  have hT2 := HTI.out.gb.below hb2
  have hab : AB B gp gg w.heap.size bx m G.length G v1 (.slice none 0 0) w0 (fun _ => []) (fun _ => .slice none 0 0) (w2.setCell ⟨gg, 1, none⟩ (.slice (some ⟨w.heap.size, 0, none⟩) m m)) := by
    obtain ⟨r1, r2⟩ := row_block hown2
    rw [made1 _ _ rfl] at r1
    have hs := grown_setCell (w := w2) gg 1 (.slice (some ⟨w.heap.size, 0, none⟩) m m)
    have hgg : gg < w.heap.size := (Array.getElem?_eq_some_iff.1 HTI.out.gb.g).1
    have r3 := blk_kept hs r1 (by simp; omega)
    refine ⟨hT2.set1 _, row_kept (row_below HTI.out.tx hb2) hs (fun g hv => ?_), RT.made r3 q3 (by decide), (HTI.out.mp.kept (grown_of_below hb2) (by simp)).kept hs ?_, (HTI.out.b.trans (hb2.mono q3)).setCell hT2.lg _, HTI.out.lx⟩
    · obtain ⟨_, c, hc⟩ := row_tag (row_below HTI.out.tx hb2) g hv
      simpa using ne_of_tag hc hT2.g (by decide)
    · obtain ⟨es, cl, hmm⟩ := (HTI.out.mp.kept (grown_of_below hb2) (by simp)).isMap
      simpa using Ne.symm (ne_of_map hT2.g hmm)
  have HAB : Hid (∃ V, AB B gp gg w.heap.size bx m G.length G v1 (.slice none 0 0) w0 (fun _ => []) V (w2.setCell ⟨gg, 1, none⟩ (.slice (some ⟨w.heap.size, 0, none⟩) m m))) := ⟨_, hab⟩
  have HR2 : Hid _ := HR.out v1 w.heap.size
  clear hab hown2 hgrow2 hb2 hx1 hx2 hx3 hx4 hT2 hS2 hS HTI c0 c1 q3 HHw
  go_wp2_with fail
  exact g7 _ _ _ _ _ _ _ _ _ _ _ _ _ _ _ _ _ _ _ _ _ _ _ _ _ _ _ _ _ _ _ _ _ _ _ _ _ _ _ _ _ _ _ _ _ _ _ _ _ _ _ _ _ _ _ _ _ _ _ _ _ _ _ _ _ _ _ _ _ _ _ _ _ _ _ _ _ _ _ _ _ _ _ _ _ _ _ _ _ _ _ _ _ _ _ _ _ _ _ _ _ _ _ _ _ _ _ _ _ _ _ _ _ _ _ _ _ _ _ _ _ _ _ _ _ _ _ _ _ _ _ _ _ _ _ _ _ _ _ _ _ _ _ _ _ _ _ _ _ _ _ _ _ _ _ _ _ _ _ _ _ _ _ _ _ _ _ _ _ _ _ _ _ _ _ _ _ _ _ _ _ _ _ _ _ _ _ _ _ _ _ _ _ _ _ _ _ _ _ _ _ _ _ _ HH HB HAB hn hm hA HI HW HR2

set_option maxRecDepth 100000 in
set_option maxHeartbeats 2000000 in
theorem g5 {R : Ending → World → Prop} {B0 B gh gp gg be bt bi bx m ne nt : Nat} {A : List Ac} {G : List Int} {va v1 : Value} {fe ft : Int → Option Value} {w0 w : World} (u1 u2 u4 u6 u7 u8 u9 u10 u11 u12 u13 u14 u15 u16 u17 u18 u19 u20 u21 u22 u23 u24 u25 u26 u27 u28 u29 u30 u31 u32 u33 u34 u35 u36 u37 u38 u39 u40 u41 u42 u43 u44 u45 u46 u47 u48 u49 u50 u51 u52 u53 u54 u55 u56 u57 u58 u59 u60 u61 u62 u63 u64 u65 u66 u67 u68 u69 u70 u71 u72 u73 u74 u75 u76 u77 u78 u79 u80 u81 u82 u83 u84 u85 u86 u87 u88 u89 u90 u91 u92 u93 u94 u95 u96 u97 u98 u99 u100 u101 u102 u103 u104 u105 u106 u107 u108 u109 u110 u111 u112 u113 u114 u115 u116 u117 u118 u119 u120 u121 u122 u123 u124 u125 u126 u127 u128 u129 u130 u131 u132 u133 u134 u135 u136 u137 u138 u139 u140 u141 u142 u143 u144 u145 u146 u147 u148 u149 u150 u151 u152 u153 u154 u155 u156 u157 u158 u159 u160 u161 u162 u163 u164 u165 u166 u167 u168 u169 u170 u171 u172 u173 u174 u175 u176 u177 u178 u179 u180 u181 u182 u183 u184 u185 u186 u187 u188 u189 u190 u191 u192 u193 u194 u195 u196 u197 u198 u199 u200 u201 u202 u203 u204 u205 u206 : Value)
    (HH : Hid (HV B0 gh va be bt bi A ne nt m fe ft w0)) (HB : Hid (B = w0.heap.size)) (HTI : Hid (TI B gp gg bx G v1 w0 0 (fun _ => none) w)) (HG : Hid (G.Pairwise (· < ·))) (HGR : Hid (∀ k, k < G.length → R64 (G.getD k 0))) (hn : G.length ≤ 12288) (hm : m ≤ 4096) (hA : A.length ≤ 4096) (HI : Hid (∀ i, i < A.length → 0 ≤ (A.getD i a0).item ∧ (A.getD i a0).item < m)) (HW : Hid (∀ i, i < A.length → R64 (A.getD i a0).tx))
    (HR : Hid (∀ (v1 : Value) (ga : Nat) (VA : Nat → Value) (gs : Nat) (S' : Nat → List Int) (w' : World), GA B gp gg ga m G (itemL G A) VA v1 (.slice (some ⟨gs, 0, none⟩) G.length G.length) w' → (∃ V, RT B 21 1 gs 44 G.length (fun u => (S' u).length) (fun u => ints (S' u)) V w') → Below B w0 w' → (∀ u, u < G.length → (S' u).Pairwise (· < ·) ∧ SameM (S' u) (redJ (itemL G A) m u) ∧ (S' u).length ≤ 100000000) → R (.returned (.pointer (some ⟨gg, 0, none⟩))) w')) :
    Code.wp Try.prog (tl Try.f8 5) (bodyPost Try.prog Try.f8 R) ⟨#[.pointer (some ⟨gh, 0, none⟩), u1, u2, .pointer (some ⟨gp, 0, none⟩), u4, .map (some bx), u6, u7, u8, u9, u10, u11, u12, u13, u14, u15, u16, u17, u18, u19, u20, u21, u22, u23, u24, u25, u26, u27, u28, u29, u30, u31, u32, u33, u34, u35, u36, u37, u38, u39, u40, u41, u42, u43, u44, u45, u46, u47, u48, u49, u50, u51, u52, u53, u54, u55, u56, u57, u58, u59, u60, u61, u62, u63, u64, u65, u66, u67, u68, u69, u70, u71, u72, u73, u74, u75, u76, u77, u78, u79, u80, u81, u82, u83, u84, u85, u86, u87, u88, u89, u90, u91, u92, u93, u94, u95, u96, u97, u98, u99, u100, u101, u102, u103, u104, u105, u106, u107, u108, u109, u110, u111, u112, u113, u114, u115, u116, u117, u118, u119, u120, u121, u122, u123, u124, u125, u126, u127, u128, u129, u130, u131, u132, u133, u134, u135, u136, u137, u138, u139, u140, u141, u142, u143, u144, u145, u146, u147, u148, u149, u150, u151, u152, u153, u154, u155, u156, u157, u158, u159, u160, u161, u162, u163, u164, u165, u166, u167, u168, u169, u170, u171, u172, u173, u174, u175, u176, u177, u178, u179, u180, u181, u182, u183, u184, u185, u186, u187, u188, u189, u190, u191, u192, u193, u194, u195, u196, u197, u198, u199, u200, u201, u202, u203, u204, u205, u206], []⟩ w := by
  obtain ⟨ot, ct, hv1⟩ := row_shape HTI.out.tx
  subst hv1
  have c0 : w.cell? ⟨gp, 0, none⟩ = some (.pointer (some ⟨gg, 0, none⟩)) := cell_blk HTI.out.gb.p rfl
  have c1 : w.cell? ⟨gg, 0, none⟩ = some (.slice ot G.length ct) := cell_blk HTI.out.gb.g rfl
  have HX0 : Hid (TI B gp gg bx G (.slice ot G.length ct) w0 0 (idxQ G 0) w) := by rw [idxQ_zero]; exact HTI.out
  clear HTI
  rw [tl8_5]
  refine wp_seq_k (fun K hK => ?_)
  conv => arg 2; whnf
  go_wp2_with fail
  clear c0 c1
  go_loopw [67] (fun vq wr => ∃ q : Nat, vq = .int .i64 q ∧ q ≤ G.length ∧ Hid (TI B gp gg bx G (.slice ot G.length ct) w0 q (idxQ G q) wr)) (fun vq _ => G.length - (intOf vq).toNat)
  case atStart => exact ⟨0, rfl, Nat.zero_le _, HX0⟩
  case round =>
    clear HX0
    obtain ⟨q, rfl, hq, HO⟩ := hrel
    by_cases hlt : q < G.length
    · have hlt' : (q : Int) < (G.length : Int) := by omega
      obtain ⟨b, off, hot, cq⟩ := i64_cell (sl_of_row HO.out.tx) hlt
      obtain ⟨w1, hrun, hm1, hg1⟩ := HO.out.mp.store Try.underlying65 (HGR.out q hlt) (by unfold maxLen; omega) (.int .i32 q)
      rw [idxQ_put G HG.out q hlt] at hm1
      have hZ : TI B gp gg bx G (.slice ot G.length ct) w0 (q + 1) (idxQ G (q + 1)) w1 := by
        obtain ⟨es, cl, hmm⟩ := HO.out.mp.isMap
        refine ⟨HO.out.gb.kept hg1 (by simpa using ne_of_map HO.out.gb.p hmm) (by simpa using ne_of_map HO.out.gb.g hmm), row_kept HO.out.tx hg1 (fun g hv => ?_), hm1, HO.out.b.trans (below_grown (Nat.le_trans HO.out.gb.lg (Nat.le_of_lt (Array.getElem?_eq_some_iff.1 HO.out.gb.g).1)) hg1 HO.out.lx), HO.out.lx⟩
        obtain ⟨_, c, hc⟩ := row_tag HO.out.tx g hv
        simpa using ne_of_map hc hmm
      have HZ : Hid (TI B gp gg bx G (.slice ot G.length ct) w0 (q + 1) (idxQ G (q + 1)) w1) := hZ
      generalize G.getD q 0 = gq at cq hrun
      clear hZ hm1 hg1 HO
      subst hot
      go_wp2_with fail
      go_roundw
      case rel => exact ⟨q + 1, by go_num, by omega, HZ⟩
      case measure => simp [intOf]; omega
    · have hqe : q = G.length := by omega
      have HZ : Hid (TI B gp gg bx G (.slice ot G.length ct) w0 G.length (idxF G) wr) := by
        have := HO.out
        rw [hqe, idxQ_all] at this
        exact this
      clear HO
      subst hqe
      go_wp2_with fail
      exact g6 _ _ _ _ _ _ _ _ _ _ _ _ _ _ _ _ _ _ _ _ _ _ _ _ _ _ _ _ _ _ _ _ _ _ _ _ _ _ _ _ _ _ _ _ _ _ _ _ _ _ _ _ _ _ _ _ _ _ _ _ _ _ _ _ _ _ _ _ _ _ _ _ _ _ _ _ _ _ _ _ _ _ _ _ _ _ _ _ _ _ _ _ _ _ _ _ _ _ _ _ _ _ _ _ _ _ _ _ _ _ _ _ _ _ _ _ _ _ _ _ _ _ _ _ _ _ _ _ _ _ _ _ _ _ _ _ _ _ _ _ _ _ _ _ _ _ _ _ _ _ _ _ _ _ _ _ _ _ _ _ _ _ _ _ _ _ _ _ _ _ _ _ _ _ _ _ _ _ _ _ _ _ _ _ _ _ _ _ _ _ _ _ _ _ _ _ _ _ _ _ _ _ _ _ HH HB HZ hn hm hA HI HW HR
end Go.Proofs.Qxb6626314a
