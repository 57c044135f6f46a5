/-
  Seat b6625890a: the steps opened: a slice of ZStep.
-/
import Derived.Test.Qxb6625890aAJ
import Derived.Test.Qxb6625890aBB
namespace Go.Proofs.Qxb6625890a
open Go.ChangeShapes Go.WideShapes Go.ChangeAt Go.RowKit Go.Deep
set_option linter.unusedVariables false

section
variable {H : Type} {enc : TypeId × Value → H} {W : World} {fuel : Nat}

theorem open_step8 {c0 c1 c2 c3 c4 c5 c6 c7 : Value} {x : DataW H × List MemPlace} (h : DataW.trod enc Try.prog W 0 (fun _ => true) true fuel 41 [c0, c1, c2, c3, c4, c5, c6, c7] = some x) :
    ∃ s : Step, [c0, c1, c2, c3, c4, c5, c6, c7] = scell s ∧ (Lit.int .i32 s.t).wf = true ∧ I32 s.item ∧ I32 s.src := by
  obtain ⟨xs, n, _, _, _, hl, hx⟩ := DataW.trod_struct Try.underlying41 h
  match xs, hl with
  | [y0, y1, y2, y3], _ =>
    have g0 : DataW.trod enc Try.prog W 0 (fun _ => true) true n 39 (([c0, c1, c2, c3, c4, c5, c6, c7].drop 0).take (Try.prog.cellsOf 39)) = some y0 := hx 0 _ rfl
    have g1 : DataW.trod enc Try.prog W 0 (fun _ => true) true n 21 (([c0, c1, c2, c3, c4, c5, c6, c7].drop 5).take (Try.prog.cellsOf 21)) = some y1 := hx 1 _ rfl
    have g2 : DataW.trod enc Try.prog W 0 (fun _ => true) true n 21 (([c0, c1, c2, c3, c4, c5, c6, c7].drop 6).take (Try.prog.cellsOf 21)) = some y2 := hx 2 _ rfl
    have g3 : DataW.trod enc Try.prog W 0 (fun _ => true) true n 21 (([c0, c1, c2, c3, c4, c5, c6, c7].drop 7).take (Try.prog.cellsOf 21)) = some y3 := hx 3 _ rfl
    have k39 : Try.prog.cellsOf 39 = 5 := by kernel_rfl
    have k21 : Try.prog.cellsOf 21 = 1 := by kernel_rfl
    rw [k39] at g0
    rw [k21] at g1 g2 g3
    obtain ⟨kd, tx, it, so, hs, rfl, rfl, rfl, rfl, rfl, _⟩ := open_op5 (c0 := c0) (c1 := c1) (c2 := c2) (c3 := c3) (c4 := c4) g0
    obtain ⟨t, e1, _, w1⟩ := DataW.trod_int Try.underlying21 g1
    obtain ⟨im, e2, _, w2⟩ := DataW.trod_int Try.underlying21 g2
    obtain ⟨sr, e3, _, w3⟩ := DataW.trod_int Try.underlying21 g3
    simp at e1 e2 e3
    subst e1
    subst e2
    subst e3
    exact ⟨⟨kd, tx, it, so, hs, t, im, sr⟩, rfl, w1, i32_of_wf w2, i32_of_wf w3⟩

theorem list8 {α : Type} {cs : List α} (h : cs.length = 8) : ∃ c0 c1 c2 c3 c4 c5 c6 c7, cs = [c0, c1, c2, c3, c4, c5, c6, c7] := by
  match cs, h with
  | [c0, c1, c2, c3, c4, c5, c6, c7], _ => exact ⟨c0, c1, c2, c3, c4, c5, c6, c7, rfl⟩

/-- A slice of ZStep, opened. -/
theorem open_steps {a : Option Addr} {len cap : Nat} {d : DataW H} {p : List MemPlace} (h : DataW.Trod enc Try.prog W 0 (fun _ => true) true 29 (.slice a len cap) d p) :
    ∃ S : List Step, S.length = len ∧ Sl W a (flatS S) ∧ (∀ i, i < S.length → (Lit.int .i32 (S.getD i e0).t).wf = true) ∧ (∀ i, i < S.length → I32 (S.getD i e0).item ∧ I32 (S.getD i e0).src) := by
  obtain ⟨fuel, hf⟩ := h
  have hf' : DataW.trod enc Try.prog W 0 (fun _ => true) true fuel 29 [.slice a len cap] = some (d, p) := hf
  rcases open_slice Try.underlying29 hf' with ⟨hcs, _⟩ | ⟨x, len', cap', m, n, D, Pl, hcs, _, hl, _, hm, _, hx⟩
  · cases hcs
    exact ⟨[], rfl, Sl.nil _ _, fun i hi => absurd hi (by simp), fun i hi => absurd hi (by simp)⟩
  · cases hcs
    have hm' : len ≤ m := by rw [hm]; split <;> omega
    have k41 : Try.prog.cellsOf 41 = 8 := by kernel_rfl
    rw [k41] at hx
    have inh : Inhabited Step := ⟨e0⟩
    obtain ⟨z, hz⟩ := choose_lt (α := Step) (p := fun i s => (∀ j, j < 8 → W.cell? (x.add (i * 8 + j)) = (scell s)[j]?) ∧ (Lit.int .i32 s.t).wf = true ∧ I32 s.item ∧ I32 s.src) (n := len) (fun i hi => by
      obtain ⟨cs', h1, h2⟩ := hx i (by omega)
      obtain ⟨_, hlen, hcell⟩ := World.cells?_some h1
      obtain ⟨c0, c1, c2, c3, c4, c5, c6, c7, rfl⟩ := list8 hlen
      obtain ⟨s, es, w1, w2, w3⟩ := open_step8 h2
      refine ⟨s, fun j hj => ?_, w1, w2, w3⟩
      have := hcell j hj
      rw [add_add] at this
      rw [← es]
      exact this)
    have hll : ((List.range len).map z).length = len := by simp
    refine ⟨(List.range len).map z, hll, sl_all fun i hi => ?_, fun i hi => ?_, fun i hi => ?_⟩
    · rw [flatS_len, hll] at hi
      have hq : i / 8 < len := by omega
      have h1 := (hz (i / 8) hq).1 (i % 8) (by omega)
      have h2 := flatS_at ((List.range len).map z) (i / 8) (i % 8) (by rw [hll]; exact hq) (by omega)
      rw [getD_map_range z len (i / 8) e0 hq] at h2
      rw [show i / 8 * 8 + i % 8 = i by omega] at h1 h2
      rw [h1, h2]
    · rw [hll] at hi
      rw [getD_map_range z len i e0 hi]
      exact (hz i hi).2.1
    · rw [hll] at hi
      rw [getD_map_range z len i e0 hi]
      exact (hz i hi).2.2
end

end Go.Proofs.Qxb6625890a
