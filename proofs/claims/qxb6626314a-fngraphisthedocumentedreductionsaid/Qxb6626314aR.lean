/-
  Seat b6626314a: the closure that adds an edge.
-/
import Derived.Test.Qxb6626314aW
namespace Go.Proofs.Qxb6626314a
open Go.RowKit Go.Maps Go.Sort
set_option linter.unusedVariables false
set_option linter.unusedSimpArgs false

theorem Try.info21 : (Try.prog.info? 21).map (fun i => (i.zero, i.size, i.bytes)) = some (some (.int .i32 0), 1, 4) := by kernel_rfl
/-- The successors' table being built. -/
structure SB (B gp gg ga gs m n : Nat) (G : List Int) (acc : Nat → List (Int × Bool)) (VA : Nat → Value) (v1 : Value) (w0 : World) (S : Nat → List Int) (V : Nat → Value) (w : World) : Prop where
  a : GA B gp gg ga m G acc VA v1 (.slice (some ⟨gs, 0, none⟩) n n) w
  t : RT B 21 1 gs 44 n (fun u => (S u).length) (fun u => ints (S u)) V w
  b : Below B w0 w
theorem ints_one (t : Int) : ∀ u ∈ [Value.int .i32 t], u.oneCell' = true := by
  intro u hu
  simp at hu
  subst hu
  rfl
theorem news_one {w : World} (t : Int) (T : TypeId) : ∀ j u, [Value.int .i32 t][j]? = some u → (w.alloc (.cells #[.int .i32 t] T)).drew.cell? ((⟨w.heap.size, 0, none⟩ : Addr).add j) = some u :=
  World.news_of_block (w := (w.alloc (.cells #[.int .i32 t] T)).drew) (cs := #[.int .i32 t]) (t := T) (fr := (0, 0)) (heap_alloc_new w _)
section
variable {B gp gg ga gs m n : Nat} {G : List Int} {acc : Nat → List (Int × Bool)} {VA : Nat → Value} {v1 : Value} {w0 : World} {S : Nat → List Int} {V : Nat → Value} {w : World}
theorem SB.below {w' : World} (h : SB B gp gg ga gs m n G acc VA v1 w0 S V w) (hb : Below w.heap.size w w') : SB B gp gg ga gs m n G acc VA v1 w0 S V w' :=
  ⟨h.a.below hb, h.t.below hb, h.b.trans (hb.mono (Nat.le_trans h.t.lt (Nat.le_of_lt (Array.getElem?_eq_some_iff.1 h.t.blk).1)))⟩
theorem SB.size (h : SB B gp gg ga gs m n G acc VA v1 w0 S V w) : B ≤ w.heap.size := Nat.le_trans h.t.lt (Nat.le_of_lt (Array.getElem?_eq_some_iff.1 h.t.blk).1)
theorem SB.putA {w2 : World} {f : Nat} {v : Value} (h1 : SB B gp gg ga gs m n G acc VA v1 w0 S V w) (hf : f < n) (hv : V f = v) (hg : w.grownBy w2 v.ownBlock) : GA B gp gg ga m G acc VA v1 (.slice (some ⟨gs, 0, none⟩) n n) w2 ∧ w2.heap[gs]? = some (.cells ((List.range n).map V).toArray 44 (0, 0)) := by
  subst hv
  have tagf : ∀ g, (V f).ownBlock = some g → ∃ c, w.heap[g]? = some (.cells c 21 (0, 0)) := fun g hg => (row_tag (h1.t.row f hf) g hg).2
  exact ⟨h1.a.keptT hg (fun g hg => by obtain ⟨c, hc⟩ := tagf g hg; exact ⟨c, 21, _, hc, Or.inl rfl⟩), blk_kept hg h1.t.blk (fun e => by
    obtain ⟨c, hc⟩ := tagf gs e.symm
    exact ne_of_tag hc h1.t.blk (by decide) rfl)⟩
/-- An edge is put. -/
theorem SB.put {w1 w2 : World} (h : SB B gp gg ga gs m n G acc VA v1 w0 S V w) (hb : Below w.heap.size w w1) {f : Nat} (hf : f < n) (t : Int) {v' : Value} (ho : w2.ownsRow B 21 1 v' ((S f).length + 1) (ints (S f) ++ [.int .i32 t])) (hg : w1.grownBy w2 (V f).ownBlock) (hloc : ∀ g, v'.ownBlock = some g → (V f).ownBlock = some g ∨ w.heap.size ≤ g) (hft : (f : Int) ≠ t) :
    SB B gp gg ga gs m n G acc VA v1 w0 (addE S f t) (updV V f v') (w2.setCell ⟨gs, f, none⟩ v') ∧ KeepF (fun k => k = gs ∨ (V f).ownBlock = some k) w (w2.setCell ⟨gs, f, none⟩ v') ∧ ∀ i, i < n → ∀ g, (updV V f v' i).ownBlock = some g → (V i).ownBlock = some g ∨ w.heap.size ≤ g := by
  have h1 := h.below hb
  have tagf : ∀ g, (V f).ownBlock = some g → ∃ c, w1.heap[g]? = some (.cells c 21 (0, 0)) := fun g hg => (row_tag (h1.t.row f hf) g hg).2
  have k12 : KeepF (fun k => (V f).ownBlock = some k) w w2 := (KeepF.of_below hb).trans (KeepF.of_grown hg (fun g hg => hg))
  have hput := h.t.put hf k12 ho hloc
  have hA2 := h1.a.keptT hg (fun g hg => by obtain ⟨c, hc⟩ := tagf g hg; exact ⟨c, 21, _, hc, Or.inl rfl⟩)
  have hgs2 : w2.heap[gs]? = some (.cells ((List.range n).map V).toArray 44 (0, 0)) := blk_kept hg h1.t.blk (fun e => by
    obtain ⟨c, hc⟩ := tagf gs e.symm
    exact ne_of_tag hc h1.t.blk (by decide) rfl)
  have hset := grown_setCell (w := w2) gs f v'
  refine ⟨⟨hA2.keptT hset (fun g hg => by cases hg; exact ⟨_, 44, _, hgs2, Or.inr rfl⟩), ?_, ?_⟩, ?_, ?_⟩
  · have e0 : addE S f t = updV S f (S f ++ [t]) := by simp [addE, hft]
    have e1 : (fun u => ((addE S f t) u).length) = updV (fun u => (S u).length) f ((S f).length + 1) := by
      rw [e0]; funext u; unfold updV; by_cases e : u = f <;> simp [e]
    have e2 : (fun u => ints ((addE S f t) u)) = updV (fun u => ints (S u)) f (ints (S f) ++ [.int .i32 t]) := by
      rw [e0]; funext u; unfold updV; by_cases e : u = f <;> simp [e, ints]
    rw [e1, e2]; exact hput
  · have hb2 : Below B w1 w2 := ⟨hg.os, hg.tape, hg.output, hg.size, fun k hk => hg.block k (Nat.lt_of_lt_of_le hk h1.size) (fun e => by
      have := (row_tag (h1.t.row f hf) k e.symm).1; omega)⟩
    exact (h1.b.trans hb2).setCell h.t.lt _
  · have k3 : KeepF (fun k => k = gs ∨ (V f).ownBlock = some k) w w2 := ⟨k12.os, k12.tape, k12.output, k12.size, fun k hk hn => k12.block k hk (fun e => hn (Or.inr e))⟩
    exact k3.setCell v' (Or.inl rfl)
  · intro i hi g hg'
    by_cases e : i = f
    · subst e; rw [updV_same] at hg'; exact hloc g hg'
    · rw [updV_ne _ _ e] at hg'; exact Or.inl hg'
def EdgeP (B gp gg ga gs m n : Nat) (G : List Int) (acc : Nat → List (Int × Bool)) (VA : Nat → Value) (v1 : Value) (w0 : World) (S : Nat → List Int) (V : Nat → Value) (w : World) (e : Ending) (w' : World) : Prop :=
  e = .returned (.tuple #[]) ∧ ∃ V', SB B gp gg ga gs m n G acc VA v1 w0 S V' w' ∧ (∀ i, i < n → ∀ g, (V' i).ownBlock = some g → (V i).ownBlock = some g ∨ w.heap.size ≤ g) ∧ KeepF (fun k => k = gs ∨ ∃ i, i < n ∧ (V i).ownBlock = some k) w w'
set_option maxRecDepth 100000 in
set_option maxHeartbeats 2000000 in
theorem addEdge_any (h : SB B gp gg ga gs m n G acc VA v1 w0 S V w) {f t : Nat} (hf : f < n) (ht : t ≤ 1000000) (hn : n ≤ 1000000) (hl : (S f).length < 100000000) :
    Calls Try.prog 29 #[.int .i32 f, .int .i32 t, .pointer (some ⟨gp, 0, none⟩)] w (EdgeP B gp gg ga gs m n G acc VA v1 w0 (addE S f t) V w) := by
  obtain ⟨i0, hi, hz0, hz1, hz2⟩ := info_parts Try.info21
  by_cases hft : f = t
  · subst hft
    have HR : Hid (EdgeP B gp gg ga gs m n G acc VA v1 w0 (addE S f f) V w (.returned (.tuple #[])) w) := ⟨rfl, V, by simpa [addE] using h, fun i hi g hg => Or.inl hg, KeepF.refl _ _⟩
    clear h
    go_enter Try.func29, Try.ntmps29
    go_wp2_with fail
    go_end0
    exact HR.out
  · have hft' : ¬ ((f : Int) = (t : Int)) := by omega
    have hb1 : Below w.heap.size w (w.alloc (.cells #[.int .i32 t] 21)).drew := ((Below.refl _ _).alloc (Nat.le_refl _) _).drew
    have h1 := h.below hb1
    obtain ⟨o, cp, hv⟩ := row_shape (h.t.row f hf)
    have hra := h1.t.row f hf
    rw [hv] at hra
    have c0 : w.cell? ⟨gp, 0, none⟩ = some (.pointer (some ⟨gg, 0, none⟩)) := cell_blk h.a.gb.p rfl
    have c2 : w.cell? ⟨gg, 2, none⟩ = some (.slice (some ⟨gs, 0, none⟩) n n) := cell_blk h.a.gb.g rfl
    have c3 : w.cell? ⟨gs, f, none⟩ = some (.slice o (S f).length cp) := by rw [← hv]; exact h.t.cell hf
    have c3d : w.drew.cell? ⟨gs, f, none⟩ = some (.slice o (S f).length cp) := c3
    have c3a : (w.alloc (.cells #[.int .i32 t] 21)).drew.cell? ⟨gs, f, none⟩ = some (.slice o (S f).length cp) := cell_later hb1 c3
    have q1 : (S f).length + 1 ≤ maxLen := by unfold maxLen; omega
    have q2 : ((S f).length + 1) * 4 ≤ 140737488355328 := by omega
    have q3 : B ≤ (w.alloc (.cells #[.int .i32 t] 21)).drew.heap.size := h1.size
    have hfn' : (f : Int) < (n : Int) := by omega
    have H : Hid _ := h
    have H1 : Hid _ := h1
    have HRa : Hid _ := hra
    have HV : Hid _ := hv
    have HB1 : Hid _ := hb1
    clear h h1 hra hv hb1
    go_enter Try.func29, Try.ntmps29
    go_wp2_with fail
    refine wp_shade2 (fun KK hKK => ?_)
    have HKK : Hid _ := hKK
    clear hKK
    refine wp_region_but 16 (fun w' => w'.cell? ⟨gp, 0, none⟩ = some (.pointer (some ⟨gg, 0, none⟩)) ∧ w'.cell? ⟨gg, 2, none⟩ = some (.slice (some ⟨gs, 0, none⟩) n n) ∧ w'.cell? ⟨gs, f, none⟩ = some (.slice o (S f).length cp)) (by kernel_rfl) ?_
    have hS : (fun w' : World => w'.cell? ⟨gp, 0, none⟩ = some (.pointer (some ⟨gg, 0, none⟩)) ∧ w'.cell? ⟨gg, 2, none⟩ = some (.slice (some ⟨gs, 0, none⟩) n n) ∧ w'.cell? ⟨gs, f, none⟩ = some (.slice o (S f).length cp)) w.drew := ⟨c0, c2, c3⟩
    refine wpBut_take (i := 0) (v := .pointer (some ⟨gg, 0, none⟩)) rfl (by kernel_rfl) (by kernel_rfl) (by kernel_rfl) (by kernel_rfl) (fun _ _ _ h => h) (Or.inl ⟨by rfl, fun wx hx => ?_⟩) hS ?_
    · obtain ⟨x0, x1, x2⟩ := hx
      go_simp
    simp only [Act.put, List.setIfInBounds_toArray, List.set_cons_zero, List.set_cons_succ]
    refine wpBut_take (i := 1) (v := .pointer (some ⟨gg, 0, none⟩)) rfl (by kernel_rfl) (by kernel_rfl) (by kernel_rfl) (by kernel_rfl) (fun _ _ _ h => h) (Or.inl ⟨by rfl, fun wx hx => ?_⟩) hS ?_
    · obtain ⟨x0, x1, x2⟩ := hx
      go_simp
    simp only [Act.put, List.setIfInBounds_toArray, List.set_cons_zero, List.set_cons_succ]
    refine wpBut_take (i := 2) (v := .pointer (some ⟨gg, 2, none⟩)) rfl (by kernel_rfl) (by kernel_rfl) (by kernel_rfl) (by kernel_rfl) (fun _ _ _ h => h) (Or.inl ⟨by rfl, fun wx hx => ?_⟩) hS ?_
    · obtain ⟨x0, x1, x2⟩ := hx
      go_simp
    simp only [Act.put, List.setIfInBounds_toArray, List.set_cons_zero, List.set_cons_succ]
    refine wpBut_take (i := 3) (v := .slice (some ⟨gs, 0, none⟩) n n) rfl (by kernel_rfl) (by kernel_rfl) (by kernel_rfl) (by kernel_rfl) (fun _ _ _ h => h) (Or.inl ⟨by rfl, fun wx hx => ?_⟩) hS ?_
    · obtain ⟨x0, x1, x2⟩ := hx
      go_simp
    simp only [Act.put, List.setIfInBounds_toArray, List.set_cons_zero, List.set_cons_succ]
    refine wpBut_take (i := 4) (v := .int .i32 f) rfl (by kernel_rfl) (by kernel_rfl) (by kernel_rfl) (by kernel_rfl) (fun _ _ _ h => h) (Or.inl ⟨by rfl, fun wx hx => ?_⟩) hS ?_
    · obtain ⟨x0, x1, x2⟩ := hx
      go_simp
    simp only [Act.put, List.setIfInBounds_toArray, List.set_cons_zero, List.set_cons_succ]
    refine wpBut_take (i := 5) (v := .pointer (some ⟨gg, 0, none⟩)) rfl (by kernel_rfl) (by kernel_rfl) (by kernel_rfl) (by kernel_rfl) (fun _ _ _ h => h) (Or.inl ⟨by rfl, fun wx hx => ?_⟩) hS ?_
    · obtain ⟨x0, x1, x2⟩ := hx
      go_simp
    simp only [Act.put, List.setIfInBounds_toArray, List.set_cons_zero, List.set_cons_succ]
    refine wpBut_take (i := 6) (v := .pointer (some ⟨gg, 0, none⟩)) rfl (by kernel_rfl) (by kernel_rfl) (by kernel_rfl) (by kernel_rfl) (fun _ _ _ h => h) (Or.inl ⟨by rfl, fun wx hx => ?_⟩) hS ?_
    · obtain ⟨x0, x1, x2⟩ := hx
      go_simp
    simp only [Act.put, List.setIfInBounds_toArray, List.set_cons_zero, List.set_cons_succ]
    refine wpBut_take (i := 7) (v := .pointer (some ⟨gg, 2, none⟩)) rfl (by kernel_rfl) (by kernel_rfl) (by kernel_rfl) (by kernel_rfl) (fun _ _ _ h => h) (Or.inl ⟨by rfl, fun wx hx => ?_⟩) hS ?_
    · obtain ⟨x0, x1, x2⟩ := hx
      go_simp
    simp only [Act.put, List.setIfInBounds_toArray, List.set_cons_zero, List.set_cons_succ]
    refine wpBut_take (i := 8) (v := .slice (some ⟨gs, 0, none⟩) n n) rfl (by kernel_rfl) (by kernel_rfl) (by kernel_rfl) (by kernel_rfl) (fun _ _ _ h => h) (Or.inl ⟨by rfl, fun wx hx => ?_⟩) hS ?_
    · obtain ⟨x0, x1, x2⟩ := hx
      go_simp
    simp only [Act.put, List.setIfInBounds_toArray, List.set_cons_zero, List.set_cons_succ]
    refine wpBut_take (i := 9) (v := .int .i32 f) rfl (by kernel_rfl) (by kernel_rfl) (by kernel_rfl) (by kernel_rfl) (fun _ _ _ h => h) (Or.inl ⟨by rfl, fun wx hx => ?_⟩) hS ?_
    · obtain ⟨x0, x1, x2⟩ := hx
      go_simp
    simp only [Act.put, List.setIfInBounds_toArray, List.set_cons_zero, List.set_cons_succ]
    refine wpBut_take (i := 10) (v := .pointer (some ⟨gs, f, none⟩)) rfl (by kernel_rfl) (by kernel_rfl) (by kernel_rfl) (by kernel_rfl) (fun _ _ _ h => h) (Or.inl ⟨by rfl, fun wx hx => ?_⟩) hS ?_
    · obtain ⟨x0, x1, x2⟩ := hx
      go_simp
    simp only [Act.put, List.setIfInBounds_toArray, List.set_cons_zero, List.set_cons_succ]
    refine wpBut_take (i := 11) (v := .slice o (S f).length cp) rfl (by kernel_rfl) (by kernel_rfl) (by kernel_rfl) (by kernel_rfl) (fun _ _ _ h => h) (Or.inl ⟨by rfl, fun wx hx => ?_⟩) hS ?_
    · obtain ⟨x0, x1, x2⟩ := hx
      go_simp
    simp only [Act.put, List.setIfInBounds_toArray, List.set_cons_zero, List.set_cons_succ]
    refine wpBut_take (i := 12) (v := .int .i32 t) rfl (by kernel_rfl) (by kernel_rfl) (by kernel_rfl) (by kernel_rfl) (fun _ _ _ h => h) (Or.inl ⟨by rfl, fun wx hx => ?_⟩) hS ?_
    · obtain ⟨x0, x1, x2⟩ := hx
      go_simp
    simp only [Act.put, List.setIfInBounds_toArray, List.set_cons_zero, List.set_cons_succ]
    refine wpBut_one (i := 13) (by kernel_rfl) rfl (fun K hK => ?_)
    go_simp
    refine hK.out _ _ ⟨cell_later HB1.out c0, cell_later HB1.out c2, cell_later HB1.out c3⟩ ?_
    clear hK K
    try simp only [Act.put, List.setIfInBounds_toArray, List.set_cons_zero, List.set_cons_succ]
    refine wpBut_one (i := 14) (by kernel_rfl) rfl (fun K hK => ?_)
    refine step_append_lies _ (by rfl) _ _ _ (by rfl) B 21 i0 (.int .i32 0) 1 4 Try.underlying44 hi hz0 hz1 hz2 rfl Nat.zero_lt_one (.slice o (S f).length cp) (S f).length (ints (S f)) (by rfl) HRa.out ⟨w.heap.size, 0, none⟩ 1 1 [.int .i32 t] (by rfl) (by rfl) (news_one t 21) (ints_one t) Nat.zero_lt_one q1 q2 q3 (w.heap.size + 1) (by simp) ?_
    intro g cap w2 hown2 hgrow hat hlt2
    have hA2 := H1.out.putA hf HV.out hgrow
    have hx1 : w2.cell? ⟨gp, 0, none⟩ = some (.pointer (some ⟨gg, 0, none⟩)) := cell_blk hA2.1.gb.p rfl
    have hx2 : w2.cell? ⟨gg, 2, none⟩ = some (.slice (some ⟨gs, 0, none⟩) n n) := cell_blk hA2.1.gb.g rfl
    have hx3 : w2.cell? ⟨gs, f, none⟩ = some (.slice o (S f).length cp) := (by rw [← HV.out]; exact cell_blk hA2.2 (by simp [hf]))
    have hx4 := frz_blk hA2.2 f
    have hS2 : (fun w' : World => w'.cell? ⟨gp, 0, none⟩ = some (.pointer (some ⟨gg, 0, none⟩)) ∧ w'.cell? ⟨gg, 2, none⟩ = some (.slice (some ⟨gs, 0, none⟩) n n) ∧ w'.cell? ⟨gs, f, none⟩ = some (.slice o (S f).length cp)) w2 := ⟨hx1, hx2, hx3⟩
    refine hK.out _ _ hS2 ?_
    clear hK K
    try simp only [Act.put, List.setIfInBounds_toArray, List.set_cons_zero, List.set_cons_succ]
    refine wpBut_take (i := 15) (v := .pointer (some ⟨gs, f, none⟩)) rfl (by kernel_rfl) (by kernel_rfl) (by kernel_rfl) (by kernel_rfl) (fun _ _ _ h => h) (Or.inl ⟨by rfl, fun wx hx => ?_⟩) hS2 ?_
    · obtain ⟨x0, x1, x2⟩ := hx
      go_simp
    simp only [Act.put, List.setIfInBounds_toArray, List.set_cons_zero, List.set_cons_succ]
    refine wpBut_last (by kernel_rfl) rfl (by kernel_rfl) (fun K hK => ?_)
    go_simp
    refine hK.out _ _ ?_
    clear hK K
    refine HKK.out _ _ ?_
    clear HKK KK
    have R := H.out.put HB1.out hf t (v' := .slice (some ⟨g, 0, none⟩) ((S f).length + 1) cap) hown2 (by rw [HV.out]; exact hgrow) (fun g' hg' => by
      have e : g = g' := by simpa [Value.ownBlock] using hg'
      subst e
      rcases hat with e | e
      · left; rw [HV.out]; exact e
      · right; omega) hft'
    have HRR : Hid (EdgeP B gp gg ga gs m n G acc VA v1 w0 (addE S f t) V w (.returned (.tuple #[])) (w2.setCell ⟨gs, f, none⟩ (.slice (some ⟨g, 0, none⟩) ((S f).length + 1) cap))) :=
      ⟨rfl, _, R.1, R.2.2, ⟨R.2.1.os, R.2.1.tape, R.2.1.output, R.2.1.size, fun k hk hn => R.2.1.block k hk (fun e => hn (e.imp id (fun e => ⟨f, hf, e⟩)))⟩⟩
    clear R hown2 hgrow hat hx1 hx2 hx3 hx4 hA2 hS2 hS
    go_wp2_with fail
    go_end0
    exact HRR.out
end
end Go.Proofs.Qxb6626314a
