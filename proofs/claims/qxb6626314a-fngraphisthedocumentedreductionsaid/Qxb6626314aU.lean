/-
  Seat b6626314a: the items' table.
-/
import Derived.Test.Qxb6626314aR
namespace Go.Proofs.Qxb6626314a
open Go.RowKit Go.Maps Go.Sort
set_option linter.unusedVariables false
set_option linter.unusedSimpArgs false

theorem Try.info70 : (Try.prog.info? 70).map (fun i => (i.zero, i.size, i.bytes)) = some (some (.agg #[.int .i32 0, .bool false]), 2, 8) := by kernel_rfl
def idxF (G : List Int) : Int → Option Value := fun k => if k ∈ G then some (.int .i32 (G.idxOf k)) else none
/-- The items' table being built. -/
structure AB (B gp gg ga bx m nx : Nat) (G : List Int) (v1 v3 : Value) (w0 : World) (acc : Nat → List (Int × Bool)) (V : Nat → Value) (w : World) : Prop where
  gb : GB B gp gg v1 (.slice (some ⟨ga, 0, none⟩) m m) v3 w
  tx : w.ownsRow B 2 1 v1 G.length (int64s G)
  t : RT B 70 2 ga 68 m (fun j => (acc j).length) (fun j => flatR (acc j)) V w
  mp : MapIs w bx nx (idxF G)
  b : Below B w0 w
  lx : B ≤ bx
theorem news_two {w : World} (t : Int) (b : Bool) (T : TypeId) : ∀ j u, (rcell (t, b))[j]? = some u → (w.alloc (.cells #[.int .i32 t, .bool b] T)).drew.cell? ((⟨w.heap.size, 0, none⟩ : Addr).add j) = some u :=
  World.news_of_block (w := (w.alloc (.cells #[.int .i32 t, .bool b] T)).drew) (cs := #[.int .i32 t, .bool b]) (t := T) (fr := (0, 0)) (heap_alloc_new w _)
theorem rcell_one (t : Int) (b : Bool) : ∀ u ∈ rcell (t, b), u.oneCell' = true := by
  intro u hu
  simp [rcell] at hu
  rcases hu with rfl | rfl <;> rfl
theorem flatR_len (l : List (Int × Bool)) : (flatR l).length = l.length * 2 := flatMap_len rcell 2 (fun _ => rfl) l
section
variable {B gp gg ga bx m nx : Nat} {G : List Int} {v1 v3 : Value} {w0 : World} {acc : Nat → List (Int × Bool)} {V : Nat → Value} {w : World}
theorem AB.size (h : AB B gp gg ga bx m nx G v1 v3 w0 acc V w) : B ≤ w.heap.size := Nat.le_trans h.t.lt (Nat.le_of_lt (Array.getElem?_eq_some_iff.1 h.t.blk).1)
theorem AB.below {w' : World} (h : AB B gp gg ga bx m nx G v1 v3 w0 acc V w) (hb : Below w.heap.size w w') : AB B gp gg ga bx m nx G v1 v3 w0 acc V w' :=
  ⟨h.gb.below hb, row_below h.tx hb, h.t.below hb, h.mp.kept (grown_of_below hb) (by simp), h.b.trans (hb.mono h.size), h.lx⟩
theorem AB.keptT {w' : World} {row : Option Nat} (h : AB B gp gg ga bx m nx G v1 v3 w0 acc V w) (hg : w.grownBy w' row) (ht : ∀ g, row = some g → ∃ c e fr, w.heap[g]? = some (.cells c e fr) ∧ (e = 70 ∨ e = 68)) :
    GB B gp gg v1 (.slice (some ⟨ga, 0, none⟩) m m) v3 w' ∧ w'.ownsRow B 2 1 v1 G.length (int64s G) ∧ MapIs w' bx nx (idxF G) := by
  refine ⟨h.gb.keptT hg (fun g hr => ?_), row_kept h.tx hg (fun g hv hr => ?_), h.mp.kept hg (fun hr => ?_)⟩
  · obtain ⟨c, e, fr, hc, hh⟩ := ht g hr
    exact ⟨c, e, fr, hc, by rcases hh with rfl | rfl <;> decide, by rcases hh with rfl | rfl <;> decide⟩
  · obtain ⟨c, e, fr, hc, hh⟩ := ht g hr.symm
    obtain ⟨_, cur, hcur⟩ := row_tag h.tx g hv
    exact ne_of_tag hcur hc (by rcases hh with rfl | rfl <;> decide) rfl
  · obtain ⟨c, e, fr, hc, hh⟩ := ht bx hr.symm
    obtain ⟨es, cl, hm⟩ := h.mp.isMap
    rw [hm] at hc; simp at hc
theorem AB.putA {w2 : World} {f : Nat} {v : Value} (h1 : AB B gp gg ga bx m nx G v1 v3 w0 acc V w) (hf : f < m) (hv : V f = v) (hg : w.grownBy w2 v.ownBlock) : (GB B gp gg v1 (.slice (some ⟨ga, 0, none⟩) m m) v3 w2 ∧ w2.ownsRow B 2 1 v1 G.length (int64s G) ∧ MapIs w2 bx nx (idxF G)) ∧ w2.heap[ga]? = some (.cells ((List.range m).map V).toArray 68 (0, 0)) := by
  subst hv
  have tagf : ∀ g, (V f).ownBlock = some g → ∃ c, w.heap[g]? = some (.cells c 70 (0, 0)) := fun g hg => (row_tag (h1.t.row f hf) g hg).2
  exact ⟨h1.keptT hg (fun g hg => by obtain ⟨c, hc⟩ := tagf g hg; exact ⟨c, 70, _, hc, Or.inl rfl⟩), blk_kept hg h1.t.blk (fun e => by
    obtain ⟨c, hc⟩ := tagf ga e.symm
    exact ne_of_tag hc h1.t.blk (by decide) rfl)⟩
/-- An access is put. -/
theorem AB.put {w1 w2 : World} (h : AB B gp gg ga bx m nx G v1 v3 w0 acc V w) (hb : Below w.heap.size w w1) {f : Nat} (hf : f < m) (t : Int) (b : Bool) {v' : Value} (ho : w2.ownsRow B 70 2 v' ((acc f).length + 1) (flatR (acc f) ++ rcell (t, b))) (hg : w1.grownBy w2 (V f).ownBlock) (hloc : ∀ g, v'.ownBlock = some g → (V f).ownBlock = some g ∨ w.heap.size ≤ g) :
    AB B gp gg ga bx m nx G v1 v3 w0 (updV acc f (acc f ++ [(t, b)])) (updV V f v') (w2.setCell ⟨ga, f, none⟩ v') := by
  have h1 := h.below hb
  have k12 : KeepF (fun k => (V f).ownBlock = some k) w w2 := (KeepF.of_below hb).trans (KeepF.of_grown hg (fun g hg => hg))
  have hput := h.t.put hf k12 ho hloc
  have hA2 := h1.putA hf rfl hg
  have hset := grown_setCell (w := w2) ga f v'
  have hG3 : GB B gp gg v1 (.slice (some ⟨ga, 0, none⟩) m m) v3 (w2.setCell ⟨ga, f, none⟩ v') := hA2.1.1.keptT hset (fun g hg => by cases hg; exact ⟨_, 68, _, hA2.2, by decide, by decide⟩)
  refine ⟨hG3, row_kept hA2.1.2.1 hset (fun g hv => ?_), ?_, hA2.1.2.2.kept hset ?_, ?_, h.lx⟩
  · obtain ⟨_, cur, hcur⟩ := row_tag hA2.1.2.1 g hv
    simpa using ne_of_tag hcur hA2.2 (by decide)
  · have e1 : (fun u => ((updV acc f (acc f ++ [(t, b)])) u).length) = updV (fun u => (acc u).length) f ((acc f).length + 1) := by
      funext u; unfold updV; by_cases e : u = f <;> simp [e]
    have e2 : (fun u => flatR ((updV acc f (acc f ++ [(t, b)])) u)) = updV (fun u => flatR (acc u)) f (flatR (acc f) ++ rcell (t, b)) := by
      funext u; unfold updV; by_cases e : u = f <;> simp [e, flatR]
    rw [e1, e2]; exact hput
  · obtain ⟨es, cl, hm⟩ := hA2.1.2.2.isMap
    simpa using Ne.symm (ne_of_map hA2.2 hm)
  · have hb2 : Below B w1 w2 := ⟨hg.os, hg.tape, hg.output, hg.size, fun k hk => hg.block k (Nat.lt_of_lt_of_le hk h1.size) (fun e => by
      have := (row_tag (h1.t.row f hf) k e.symm).1; omega)⟩
    exact (h1.b.trans hb2).setCell h.t.lt _
end
end Go.Proofs.Qxb6626314a
