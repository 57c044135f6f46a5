/-
  Seat b6626314a: the edges, item by item: memory.
-/
import Derived.Test.Qxb6626314aU
namespace Go.Proofs.Qxb6626314a
open Go.RowKit Go.Maps Go.Sort
set_option linter.unusedVariables false
set_option linter.unusedSimpArgs false

/-! ### The edges, item by item -/
theorem addE_len (S : Nat → List Int) (f t : Int) (u : Nat) : (addE S f t u).length ≤ (S u).length + 1 := by
  unfold addE
  by_cases h : f = t
  · simp [h]
  · rw [if_neg h]
    unfold updV
    by_cases e : u = f.toNat <;> simp [e]
structure LS (B gp gg ga gs m n : Nat) (G : List Int) (acc : Nat → List (Int × Bool)) (VA : Nat → Value) (v1 : Value) (w0 : World) (S : Nat → List Int) (V : Nat → Value) (vrd : Value) (rd : List Int) (w : World) : Prop where
  s : SB B gp gg ga gs m n G acc VA v1 w0 S V w
  r : w.ownsRow B 21 1 vrd rd.length (ints rd)
  ap : ∀ i, i < n → ∀ g, vrd.ownBlock = some g → (V i).ownBlock ≠ some g
section
variable {B gp gg ga gs m n : Nat} {G : List Int} {acc : Nat → List (Int × Bool)} {VA : Nat → Value} {v1 : Value} {w0 : World} {S : Nat → List Int} {V : Nat → Value} {vrd : Value} {rd : List Int} {w : World}
theorem LS.below {w' : World} (h : LS B gp gg ga gs m n G acc VA v1 w0 S V vrd rd w) (hb : Below w.heap.size w w') : LS B gp gg ga gs m n G acc VA v1 w0 S V vrd rd w' := ⟨h.s.below hb, row_below h.r hb, h.ap⟩
/-- Behind an edge. -/
theorem LS.edge {w' : World} {S' : Nat → List Int} {e : Ending} (h : LS B gp gg ga gs m n G acc VA v1 w0 S V vrd rd w) (he : EdgeP B gp gg ga gs m n G acc VA v1 w0 S' V w e w') : ∃ V', LS B gp gg ga gs m n G acc VA v1 w0 S' V' vrd rd w' := by
  obtain ⟨_, V', h1, h2, h3⟩ := he
  refine ⟨V', h1, keepF_row h.r h3 (fun g hg hn => ?_), fun i hi g hg hv => ?_⟩
  · rcases hn with e | ⟨i, hi, e⟩
    · subst e
      obtain ⟨_, c, hc⟩ := row_tag h.r g hg
      exact ne_of_tag hc h.s.t.blk (by decide) rfl
    · exact h.ap i hi g hg e
  · rcases h2 i hi g hv with e | e
    · exact h.ap i hi g hg e
    · obtain ⟨_, c, hc⟩ := row_tag h.r g hg
      have := (Array.getElem?_eq_some_iff.1 hc).1
      omega
/-- A block of another tag behind an edge. -/
theorem LS.blk {w' : World} {S' : Nat → List Int} {e : Ending} (h : LS B gp gg ga gs m n G acc VA v1 w0 S V vrd rd w) (he : EdgeP B gp gg ga gs m n G acc VA v1 w0 S' V w e w') {b : Nat} {c : Array Value} {T : TypeId} {fr : Nat × Nat} (hb : w.heap[b]? = some (.cells c T fr)) (h21 : T ≠ 21) (h44 : T ≠ 44) : w'.heap[b]? = some (.cells c T fr) := by
  obtain ⟨_, V', h1, h2, h3⟩ := he
  refine (h3.block b (Array.getElem?_eq_some_iff.1 hb).1 (fun hn => ?_)).trans hb
  rcases hn with e | ⟨i, hi, e⟩
  · subst e; exact ne_of_tag hb h.s.t.blk h44 rfl
  · obtain ⟨_, c', hc⟩ := row_tag (h.s.t.row i hi) b e
    exact ne_of_tag hb hc h21 rfl
/-- A reader is noted. -/
theorem LS.read {w1 w2 : World} (h : LS B gp gg ga gs m n G acc VA v1 w0 S V vrd rd w) (hb : Below w.heap.size w w1) (t : Int) {v' : Value} (ho : w2.ownsRow B 21 1 v' (rd.length + 1) (ints rd ++ [.int .i32 t])) (hg : w1.grownBy w2 vrd.ownBlock) (hloc : ∀ g, v'.ownBlock = some g → vrd.ownBlock = some g ∨ w.heap.size ≤ g) :
    LS B gp gg ga gs m n G acc VA v1 w0 S V v' (rd ++ [t]) w2 := by
  have h1 := h.below hb
  have tagf : ∀ g, vrd.ownBlock = some g → ∃ c, w1.heap[g]? = some (.cells c 21 (0, 0)) := fun g hg => (row_tag h1.r g hg).2
  have hb2 : Below B w1 w2 := ⟨hg.os, hg.tape, hg.output, hg.size, fun k hk => hg.block k (Nat.lt_of_lt_of_le hk h1.s.size) (fun e => by
    have := (row_tag h1.r k e.symm).1; omega)⟩
  refine ⟨⟨h1.s.a.keptT hg (fun g hg => by obtain ⟨c, hc⟩ := tagf g hg; exact ⟨c, 21, _, hc, Or.inl rfl⟩), h1.s.t.kept hg (fun e => by
    obtain ⟨c, hc⟩ := tagf gs e.symm
    exact ne_of_tag hc h1.s.t.blk (by decide) rfl) (fun j hj g hv e => h1.ap j hj g e.symm hv), h1.s.b.trans hb2⟩, ?_, fun i hi g hg' hv => ?_⟩
  · have e1 : ints (rd ++ [t]) = ints rd ++ [.int .i32 t] := by simp [ints]
    rw [e1, List.length_append]; exact ho
  · rcases hloc g hg' with e | e
    · exact h.ap i hi g e hv
    · obtain ⟨_, c, hc⟩ := row_tag (h.s.t.row i hi) g hv
      have := (Array.getElem?_eq_some_iff.1 hc).1
      omega
/-- readers[:0]. -/
theorem LS.cut {o : Option Addr} {k cp : Nat} (h : LS B gp gg ga gs m n G acc VA v1 w0 S V (.slice o k cp) rd w) : LS B gp gg ga gs m n G acc VA v1 w0 S V (.slice o 0 cp) [] w := by
  refine ⟨h.s, ?_, fun i hi g hg => h.ap i hi g (by cases o with | none => exact absurd hg (by simp [Value.ownBlock]) | some a => exact hg)⟩
  rcases h.r.2 with ⟨e, _⟩ | ⟨g, cap, cur, e, h2, h3, h4, h5, h6, h7⟩
  · simp at e
    obtain ⟨rfl, rfl, rfl⟩ := e
    exact World.ownsRow_nil _ _ _ _
  · simp at e
    obtain ⟨rfl, rfl, rfl⟩ := e
    exact ⟨rfl, Or.inr ⟨g, cp, cur, rfl, h2, h3, Nat.zero_le _, h5, h6, by simp [ints]⟩⟩
end
end Go.Proofs.Qxb6626314a
