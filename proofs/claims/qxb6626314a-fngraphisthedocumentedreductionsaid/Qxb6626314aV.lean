/-
  Seat b6626314a: the successors' table is made.
-/
import Derived.Test.Qxb6626314aT
namespace Go.Proofs.Qxb6626314a
open Go.RowKit Go.Maps Go.Sort
set_option linter.unusedVariables false
set_option linter.unusedSimpArgs false

theorem Try.info44 : (Try.prog.info? 44).map (fun i => (i.zero, i.size, i.bytes)) = some (some (.slice none 0 0), 1, 24) := by kernel_rfl
theorem Try.info68 : (Try.prog.info? 68).map (fun i => (i.zero, i.size, i.bytes)) = some (some (.slice none 0 0), 1, 24) := by kernel_rfl
/-- 'make' at a step of a region that draws its order. -/
theorem step_make {P : Program} (w : World) {ops : Array Oper} {o : Oper} {a : Act} {K : Act → World → Prop} {Q : Exit → Act → World → Prop} {E : Prop}
    (hgd : o.guard = none) (l c : Operand) (t : TypeId) (hop : o.op = Op.makeSlice t l c)
    (base : Nat) (e : TypeId) (i : TypeInfo) (z : Value) (size : Nat) (h1 : P.underlying t = some (.slice e)) (h2 : P.info? e = some i) (h3 : i.zero = some z) (h4 : i.size = size)
    (n : Nat) (hl : a.eval l = .int .i64 n) (hc : a.eval c = .int .i64 n) (b2 : i.bytes * n ≤ 281474976710656) (b3 : n ≤ maxLen) (b4 : base ≤ w.heap.size)
    (hK : ∀ w', w'.ownsRow base e size (.slice (some ⟨w.heap.size, 0, none⟩) n n) n (madeCells z.cells (n * size)).toList → w.grownBy w' none → K (a.put o.dst (.slice (some ⟨w.heap.size, 0, none⟩) n n)) w') :
    if Region.wanted o (yielded ops a.tmps) = true then Oper.wp P o a w K Q else E := by
  have hw : Region.wanted o (yielded ops a.tmps) = true := by simp [Region.wanted, hgd]
  rw [if_pos hw]
  obtain ⟨w', hrun, r1, r2⟩ := run_make_full (P := P) w base t e i z size h1 h2 h3 h4 .i64 .i64 n b2 b3 b4
  unfold Oper.wp
  simp [execOp, hop, hl, hc, hrun, Result.andThen]
  exact hK w' r1 r2

set_option maxRecDepth 100000 in
set_option maxHeartbeats 2000000 in
theorem g8 {R : Ending → World → Prop} {B gp gg ga bx m nx : Nat} {G : List Int} {acc : Nat → List (Int × Bool)} {VA : Nat → Value} {v1 : Value} {w0 w : World} (u0 u1 u2 u4 u5 u6 u7 u8 u9 u10 u11 u12 u13 u14 u15 u16 u17 u18 u19 u20 u21 u22 u23 u24 u25 u26 u27 u28 u29 u30 u31 u32 u33 u34 u35 u36 u37 u38 u39 u40 u41 u42 u43 u44 u45 u46 u47 u48 u49 u50 u51 u52 u53 u54 u55 u56 u57 u58 u59 u60 u61 u62 u63 u64 u65 u66 u67 u68 u69 u70 u71 u72 u73 u74 u75 u76 u77 u78 u79 u80 u81 u82 u83 u84 u85 u86 u87 u88 u89 u90 u91 u92 u93 u94 u95 u96 u97 u98 u99 u100 u101 u102 u103 u104 u105 u106 u107 u108 u109 u110 u111 u112 u113 u114 u115 u116 u117 u118 u119 u120 u121 u122 u123 u124 u125 u126 u127 u128 u129 u130 u131 u132 u133 u134 u135 u136 u137 u138 u139 u140 u141 u142 u143 u144 u145 u146 u147 u148 u149 u150 u151 u152 u153 u154 u155 u156 u157 u158 u159 u160 u161 u162 u163 u164 u165 u166 u167 u168 u169 u170 u171 u172 u173 u174 u175 u176 u177 u178 u179 u180 u181 u182 u183 u184 u185 u186 u187 u188 u189 u190 u191 u192 u193 u194 u195 u196 u197 u198 u199 u200 u201 u202 u203 u204 u205 u206 : Value)
    (HAB : Hid (AB B gp gg ga bx m nx G v1 (.slice none 0 0) w0 acc VA w)) (hn : G.length ≤ 12288) (hm : m ≤ 4096) (HA : Hid (∀ j, j < m → (acc j).length ≤ 4096 ∧ ∀ k, k < (acc j).length → IsIx G.length ((acc j).getD k (0, false)).1))
    (HR : Hid (∀ (gs : Nat) (S' : Nat → List Int) (w' : World), GA B gp gg ga m G acc VA v1 (.slice (some ⟨gs, 0, none⟩) G.length G.length) w' → (∃ V, RT B 21 1 gs 44 G.length (fun u => (S' u).length) (fun u => ints (S' u)) V w') → Below B w0 w' → (∀ u, u < G.length → (S' u).Pairwise (· < ·) ∧ SameM (S' u) (redJ acc m u) ∧ (S' u).length ≤ 100000000) → R (.returned (.pointer (some ⟨gg, 0, none⟩))) w')) :
    Code.wp Try.prog (tl Try.f8 8) (bodyPost Try.prog Try.f8 R) ⟨#[u0, u1, u2, .pointer (some ⟨gp, 0, none⟩), u4, u5, u6, u7, u8, u9, u10, u11, u12, u13, u14, u15, u16, u17, u18, u19, u20, u21, u22, u23, u24, u25, u26, u27, u28, u29, u30, u31, u32, u33, u34, u35, u36, u37, u38, u39, u40, u41, u42, u43, u44, u45, u46, u47, u48, u49, u50, u51, u52, u53, u54, u55, u56, u57, u58, u59, u60, u61, u62, u63, u64, u65, u66, u67, u68, u69, u70, u71, u72, u73, u74, u75, u76, u77, u78, u79, u80, u81, u82, u83, u84, u85, u86, u87, u88, u89, u90, u91, u92, u93, u94, u95, u96, u97, u98, u99, u100, u101, u102, u103, u104, u105, u106, u107, u108, u109, u110, u111, u112, u113, u114, u115, u116, u117, u118, u119, u120, u121, u122, u123, u124, u125, u126, u127, u128, u129, u130, u131, u132, u133, u134, u135, u136, u137, u138, u139, u140, u141, u142, u143, u144, u145, u146, u147, u148, u149, u150, u151, u152, u153, u154, u155, u156, u157, u158, u159, u160, u161, u162, u163, u164, u165, u166, u167, u168, u169, u170, u171, u172, u173, u174, u175, u176, u177, u178, u179, u180, u181, u182, u183, u184, u185, u186, u187, u188, u189, u190, u191, u192, u193, u194, u195, u196, u197, u198, u199, u200, u201, u202, u203, u204, u205, u206], []⟩ w := by
  obtain ⟨i0, hi0, hz0, hz1, hz2⟩ := info_parts Try.info44
  obtain ⟨ot, ct, hv1⟩ := row_shape HAB.out.tx
  subst hv1
  have c0 : w.cell? ⟨gp, 0, none⟩ = some (.pointer (some ⟨gg, 0, none⟩)) := cell_blk HAB.out.gb.p rfl
  have c1 : w.cell? ⟨gg, 0, none⟩ = some (.slice ot G.length ct) := cell_blk HAB.out.gb.g rfl
  have q3 : B ≤ w.drew.heap.size := HAB.out.size
  rw [tl8_8]
  refine wp_seq_k (fun K hK => ?_)
  conv => arg 2; whnf
  go_wp2_with fail
  refine wp_shade2 (fun KK hKK => ?_)
  have HKK : Hid _ := hKK
  clear hKK
  refine wp_region_but 9 (fun w' => w'.cell? ⟨gp, 0, none⟩ = some (.pointer (some ⟨gg, 0, none⟩)) ∧ w'.cell? ⟨gg, 0, none⟩ = some (.slice ot G.length ct)) (by kernel_rfl) ?_
  have hS : (fun w' : World => w'.cell? ⟨gp, 0, none⟩ = some (.pointer (some ⟨gg, 0, none⟩)) ∧ w'.cell? ⟨gg, 0, none⟩ = some (.slice ot G.length ct)) w.drew := ⟨c0, c1⟩
  refine wpBut_take (i := 0) (oi := { dst := some 125, op := Go.Op.load 29 (Go.Operand.tmp 3), type := 29, pos := "graph.go:69", after := #[], guard := none }) (v := .pointer (some ⟨gg, 0, none⟩)) rfl (by kernel_rfl) (by kernel_rfl) (by kernel_rfl) (by kernel_rfl) (fun _ _ _ h => h) (Or.inl ⟨by rfl, fun wx hx => ?_⟩) hS ?_
  · obtain ⟨x0, x1⟩ := hx
    go_simp
  simp only [Act.put, List.setIfInBounds_toArray, List.set_cons_zero, List.set_cons_succ]
  refine wpBut_take (i := 1) (oi := { dst := some 126, op := Go.Op.load 29 (Go.Operand.tmp 3), type := 29, pos := "graph.go:69", after := #[], guard := none }) (v := .pointer (some ⟨gg, 0, none⟩)) rfl (by kernel_rfl) (by kernel_rfl) (by kernel_rfl) (by kernel_rfl) (fun _ _ _ h => h) (Or.inl ⟨by rfl, fun wx hx => ?_⟩) hS ?_
  · obtain ⟨x0, x1⟩ := hx
    go_simp
  simp only [Act.put, List.setIfInBounds_toArray, List.set_cons_zero, List.set_cons_succ]
  refine wpBut_take (i := 2) (oi := { dst := some 127, op := Go.Op.nilCheck (Go.Operand.tmp 126), type := 0, pos := "graph.go:69", after := #[{ on := 1, ground := Go.Ground.data }], guard := none }) (v := .pointer (some ⟨gg, 0, none⟩)) rfl (by kernel_rfl) (by kernel_rfl) (by kernel_rfl) (by kernel_rfl) (fun _ _ _ h => h) (Or.inl ⟨by rfl, fun wx hx => ?_⟩) hS ?_
  · obtain ⟨x0, x1⟩ := hx
    go_simp
  simp only [Act.put, List.setIfInBounds_toArray, List.set_cons_zero, List.set_cons_succ]
  refine wpBut_take (i := 3) (oi := { dst := some 128, op := Go.Op.fieldAddr 57 (Go.Operand.tmp 127) 0, type := 0, pos := "graph.go:69", after := #[{ on := 2, ground := Go.Ground.data }], guard := none }) (v := .pointer (some ⟨gg, 0, none⟩)) rfl (by kernel_rfl) (by kernel_rfl) (by kernel_rfl) (by kernel_rfl) (fun _ _ _ h => h) (Or.inl ⟨by rfl, fun wx hx => ?_⟩) hS ?_
  · obtain ⟨x0, x1⟩ := hx
    go_simp
  simp only [Act.put, List.setIfInBounds_toArray, List.set_cons_zero, List.set_cons_succ]
  refine wpBut_take (i := 4) (oi := { dst := some 129, op := Go.Op.load 23 (Go.Operand.tmp 128), type := 23, pos := "graph.go:69", after := #[{ on := 3, ground := Go.Ground.data }], guard := none }) (v := .slice ot G.length ct) rfl (by kernel_rfl) (by kernel_rfl) (by kernel_rfl) (by kernel_rfl) (fun _ _ _ h => h) (Or.inl ⟨by rfl, fun wx hx => ?_⟩) hS ?_
  · obtain ⟨x0, x1⟩ := hx
    go_simp
  simp only [Act.put, List.setIfInBounds_toArray, List.set_cons_zero, List.set_cons_succ]
  refine wpBut_take (i := 5) (oi := { dst := some 130, op := Go.Op.call { callee := Go.Callee.builtin Go.Builtin.len, args := #[Go.Operand.tmp 129], argTypes := #[23] }, type := 3, pos := "graph.go:69", after := #[{ on := 4, ground := Go.Ground.data }], guard := none }) (v := .int .i64 G.length) rfl (by kernel_rfl) (by kernel_rfl) (by kernel_rfl) (by kernel_rfl) (fun _ _ _ h => h) (Or.inl ⟨by rfl, fun wx hx => ?_⟩) hS ?_
  · obtain ⟨x0, x1⟩ := hx
    go_simp
  simp only [Act.put, List.setIfInBounds_toArray, List.set_cons_zero, List.set_cons_succ]
  refine wpBut_one (i := 6) (o := { dst := some 131, op := Go.Op.makeSlice 42 (Go.Operand.tmp 130) (Go.Operand.tmp 130), type := 42, pos := "graph.go:69", after := #[{ on := 5, ground := Go.Ground.data }, { on := 5, ground := Go.Ground.data }], guard := none }) (by kernel_rfl) rfl (fun K hK => ?_)
  refine step_make _ (by rfl) (.tmp 130) (.tmp 130) 42 (by rfl) B 44 i0 (.slice none 0 0) 1 Try.underlying42 hi0 hz0 hz1 G.length (by rfl) (by rfl) (by rw [hz2]; omega) (by unfold maxLen; omega) q3 ?_
  intro w2 hown2 hgrow2
  have hb2 : Below w.heap.size w w2 := ((Below.refl w.heap.size w).drew).trans (below_of_grown hgrow2)
  have hx1 : w2.cell? ⟨gp, 0, none⟩ = some (.pointer (some ⟨gg, 0, none⟩)) := cell_later hb2 c0
  have hx2 : w2.cell? ⟨gg, 0, none⟩ = some (.slice ot G.length ct) := cell_later hb2 c1
  have hS2 : (fun w' : World => w'.cell? ⟨gp, 0, none⟩ = some (.pointer (some ⟨gg, 0, none⟩)) ∧ w'.cell? ⟨gg, 0, none⟩ = some (.slice ot G.length ct)) w2 := ⟨hx1, hx2⟩
  refine hK.out _ _ hS2 ?_
  clear hK K
  try simp only [Act.put, List.setIfInBounds_toArray, List.set_cons_zero, List.set_cons_succ]
  refine wpBut_one (i := 7) (o := { dst := some 132, op := Go.Op.nilCheck (Go.Operand.tmp 125), type := 0, pos := "graph.go:69", after := #[{ on := 0, ground := Go.Ground.data }, { on := 0, ground := Go.Ground.phase }, { on := 1, ground := Go.Ground.phase }, { on := 2, ground := Go.Ground.phase }, { on := 3, ground := Go.Ground.phase }, { on := 4, ground := Go.Ground.phase }, { on := 5, ground := Go.Ground.phase }, { on := 6, ground := Go.Ground.phase }], guard := none }) (by kernel_rfl) rfl (fun K hK => ?_)
  go_simp
  refine hK.out _ _ hS2 ?_
  clear hK K
  try simp only [Act.put, List.setIfInBounds_toArray, List.set_cons_zero, List.set_cons_succ]
  refine wpBut_one (i := 8) (o := { dst := some 133, op := Go.Op.fieldAddr 57 (Go.Operand.tmp 132) 2, type := 0, pos := "graph.go:69", after := #[{ on := 7, ground := Go.Ground.data }, { on := 0, ground := Go.Ground.phase }, { on := 1, ground := Go.Ground.phase }, { on := 2, ground := Go.Ground.phase }, { on := 3, ground := Go.Ground.phase }, { on := 4, ground := Go.Ground.phase }, { on := 5, ground := Go.Ground.phase }, { on := 6, ground := Go.Ground.phase }], guard := none }) (by kernel_rfl) rfl (fun K hK => ?_)
  go_simp
  refine hK.out _ _ hS2 ?_
  clear hK K
  try simp only [Act.put, List.setIfInBounds_toArray, List.set_cons_zero, List.set_cons_succ]
  have hAB2 := HAB.out.below hb2
  have hx3 : w2.cell? ⟨gg, 2, none⟩ = some (.slice none 0 0) := cell_blk hAB2.gb.g rfl
  have hx4 := frz_blk hAB2.gb.g 2
  refine wpBut_last (o := { dst := none, op := Go.Op.store 42 (Go.Operand.tmp 133) (Go.Operand.tmp 131), type := 0, pos := "graph.go:69", after := #[{ on := 8, ground := Go.Ground.data }, { on := 6, ground := Go.Ground.data }, { on := 0, ground := Go.Ground.phase }, { on := 1, ground := Go.Ground.phase }, { on := 2, ground := Go.Ground.phase }, { on := 3, ground := Go.Ground.phase }, { on := 4, ground := Go.Ground.phase }, { on := 5, ground := Go.Ground.phase }, { on := 6, ground := Go.Ground.phase }], guard := none }) (by kernel_rfl) rfl (by kernel_rfl) (fun K hK => ?_)
  go_simp
  refine hK.out _ _ ?_
  clear hK K
  refine HKK.out _ _ ?_
  clear HKK KK
  have hls : LS B gp gg ga w.heap.size m G.length G acc VA (.slice ot G.length ct) w0 (fun _ => []) (fun _ => .slice none 0 0) (.slice none 0 0) [] (w2.setCell ⟨gg, 2, none⟩ (.slice (some ⟨w.heap.size, 0, none⟩) G.length G.length)) := by
    obtain ⟨r1, r2⟩ := row_block hown2
    rw [made1 _ _ rfl] at r1
    have hs := grown_setCell (w := w2) gg 2 (.slice (some ⟨w.heap.size, 0, none⟩) G.length G.length)
    have hgg : gg < w.heap.size := (Array.getElem?_eq_some_iff.1 HAB.out.gb.g).1
    have r3 := blk_kept hs r1 (by simp; omega)
    refine ⟨⟨⟨hAB2.gb.set2 _, row_kept hAB2.tx hs (fun g hv => ?_), hAB2.t.keptT hs (fun g hg => ?_)⟩, RT.made r3 q3 (by decide), hAB2.b.setCell hAB2.gb.lg _⟩, World.ownsRow_nil _ _ _ _, fun i hi g hg => absurd hg (by simp [Value.ownBlock])⟩
    · obtain ⟨_, c, hc⟩ := row_tag hAB2.tx g hv
      simpa using ne_of_tag hc hAB2.gb.g (by decide)
    · cases hg
      exact ⟨_, 57, _, hAB2.gb.g, by decide, by decide⟩
  have HLS : Hid (∃ V, LS B gp gg ga w.heap.size m G.length G acc VA (.slice ot G.length ct) w0 (fun _ => []) V (.slice none 0 0) [] (w2.setCell ⟨gg, 2, none⟩ (.slice (some ⟨w.heap.size, 0, none⟩) G.length G.length))) := ⟨_, hls⟩
  have HR2 : Hid _ := HR.out w.heap.size
  clear hls hown2 hgrow2 hb2 hx1 hx2 hx3 hx4 hAB2 hS2 hS HAB c0 c1 q3
  go_wp2_with fail
  rw [tl8_9]
  refine wp_seq_k (fun K hK => ?_)
  conv => arg 2; whnf
  go_wp2_with fail
  rw [tl8_10]
  refine wp_seq_k (fun K hK => ?_)
  conv => arg 2; whnf
  go_wp2_with fail
  exact g11 _ _ _ _ _ _ _ _ _ _ _ _ _ _ _ _ _ _ _ _ _ _ _ _ _ _ _ _ _ _ _ _ _ _ _ _ _ _ _ _ _ _ _ _ _ _ _ _ _ _ _ _ _ _ _ _ _ _ _ _ _ _ _ _ _ _ _ _ _ _ _ _ _ _ _ _ _ _ _ _ _ _ _ _ _ _ _ _ _ _ _ _ _ _ _ _ _ _ _ _ _ _ _ _ _ _ _ _ _ _ _ _ _ _ _ _ _ _ _ _ _ _ _ _ _ _ _ _ _ _ _ _ _ _ _ _ _ _ _ _ _ _ _ _ _ _ _ _ _ _ _ _ _ _ _ _ _ _ _ _ _ _ _ _ _ _ _ _ _ _ _ _ _ _ _ _ _ _ _ _ _ _ _ _ _ _ _ _ _ _ _ _ _ _ _ _ _ _ _ _ _ _ _ _ HLS hn hm HA HR2
end Go.Proofs.Qxb6626314a
