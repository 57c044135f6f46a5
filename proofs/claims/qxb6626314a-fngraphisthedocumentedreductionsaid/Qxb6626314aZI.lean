/-
  Seat b6626314a: the arguments opened.
-/
import Derived.Test.Qxb6626314aZB
import Derived.Deep.SlicePairs
import Derived.ProofKit
import Derived.OpenShut
import Derived.ChangeOld
import Derived.Below
namespace Go.Proofs.Qxb6626314a
open Go.ChangeShapes Go.WideShapes Go.ChangeAt Go.RowKit Go.Deep
set_option linter.unusedVariables false
/-! ### The arguments opened -/
theorem sl_all {W : World} {x : Addr} {cs : List Value} (h : ∀ i, i < cs.length → W.cell? (x.add i) = cs[i]?) : Sl W (some x) cs := by
  intro hne
  have h0 : 0 < cs.length := List.length_pos_iff.2 hne
  obtain ⟨b, off, spot⟩ := x
  have hc := h 0 h0
  rw [List.getElem?_eq_getElem h0] at hc
  have hspot : spot = none := by simpa [Addr.add] using World.cell?_spot hc
  subst hspot
  refine ⟨b, off, rfl, fun i hi => ?_⟩
  have := h i hi
  rw [add_eq] at this
  exact this
theorem getD_map_range {α : Type} (f : Nat → α) (len k : Nat) (d : α) (h : k < len) : ((List.range len).map f).getD k d = f k := by
  rw [List.getD_eq_getElem?_getD, List.getElem?_map, List.getElem?_range h]; rfl
section
variable {H : Type} {enc : TypeId × Value → H} {W : World} {fuel : Nat}
theorem open_acc3 {c0 c1 c2 : Value} {x : DataW H × List MemPlace} (h : DataW.trod enc Try.prog W 0 (fun _ => true) true fuel 37 [c0, c1, c2] = some x) :
    ∃ a : Ac, [c0, c1, c2] = acell a ∧ R64 a.tx := by
  obtain ⟨xs, n, _, _, _, hl, hx⟩ := DataW.trod_struct Try.underlying37 h
  match xs, hl with
  | [y0, y1, y2], _ =>
    have g0 : DataW.trod enc Try.prog W 0 (fun _ => true) true n 2 (([c0, c1, c2].drop 0).take (Try.prog.cellsOf 2)) = some y0 := hx 0 _ rfl
    have g1 : DataW.trod enc Try.prog W 0 (fun _ => true) true n 21 (([c0, c1, c2].drop 1).take (Try.prog.cellsOf 21)) = some y1 := hx 1 _ rfl
    have g2 : DataW.trod enc Try.prog W 0 (fun _ => true) true n 4 (([c0, c1, c2].drop 2).take (Try.prog.cellsOf 4)) = some y2 := hx 2 _ rfl
    have k2 : Try.prog.cellsOf 2 = 1 := by kernel_rfl
    have k21 : Try.prog.cellsOf 21 = 1 := by kernel_rfl
    have k4 : Try.prog.cellsOf 4 = 1 := by kernel_rfl
    rw [k2] at g0
    rw [k21] at g1
    rw [k4] at g2
    obtain ⟨t, e1, _, w1⟩ := DataW.trod_int Try.underlying2 g0
    obtain ⟨im, e2, _, w2⟩ := DataW.trod_int Try.underlying21 g1
    obtain ⟨b, e3, _⟩ := DataW.trod_bool Try.underlying4 g2
    simp at e1 e2 e3
    subst e1
    subst e2
    subst e3
    exact ⟨⟨t, im, b⟩, rfl, w1⟩
theorem list3 {α : Type} {cs : List α} (h : cs.length = 3) : ∃ c0 c1 c2, cs = [c0, c1, c2] := by
  match cs, h with
  | [c0, c1, c2], _ => exact ⟨c0, c1, c2, rfl⟩
theorem open_accs {a : Option Addr} {len cap : Nat} {d : DataW H} {p : List MemPlace} (h : DataW.Trod enc Try.prog W 0 (fun _ => true) true 22 (.slice a len cap) d p) :
    ∃ A : List Ac, A.length = len ∧ Sl W a (flatA A) ∧ ∀ i, i < A.length → R64 (A.getD i a0).tx := by
  obtain ⟨fuel, hf⟩ := h
  have hf' : DataW.trod enc Try.prog W 0 (fun _ => true) true fuel 22 [.slice a len cap] = some (d, p) := hf
  rcases open_slice Try.underlying22 hf' with ⟨hcs, _⟩ | ⟨x, len', cap', m, n, D, Pl, hcs, _, hl, _, hm, _, hx⟩
  · cases hcs
    exact ⟨[], rfl, Sl.nil _ _, fun i hi => absurd hi (by simp)⟩
  · cases hcs
    have hm' : len ≤ m := by rw [hm]; split <;> omega
    have k37 : Try.prog.cellsOf 37 = 3 := by kernel_rfl
    rw [k37] at hx
    have inh : Inhabited Ac := ⟨a0⟩
    obtain ⟨z, hz⟩ := choose_lt (α := Ac) (p := fun i s => (∀ j, j < 3 → W.cell? (x.add (i * 3 + j)) = (acell s)[j]?) ∧ R64 s.tx) (n := len) (fun i hi => by
      obtain ⟨cs', h1, h2⟩ := hx i (by omega)
      obtain ⟨_, hlen, hcell⟩ := World.cells?_some h1
      obtain ⟨c0, c1, c2, rfl⟩ := list3 hlen
      obtain ⟨s, es, w1⟩ := open_acc3 h2
      refine ⟨s, fun j hj => ?_, w1⟩
      have := hcell j hj
      rw [add_add] at this
      rw [← es]
      exact this)
    have hll : ((List.range len).map z).length = len := by simp
    refine ⟨(List.range len).map z, hll, sl_all fun i hi => ?_, fun i hi => ?_⟩
    · rw [flatA_len, hll] at hi
      have hq : i / 3 < len := by omega
      have h1 := (hz (i / 3) hq).1 (i % 3) (by omega)
      have h2 := flatA_at ((List.range len).map z) (i / 3) (i % 3) (by rw [hll]; exact hq) (by omega)
      rw [getD_map_range z len (i / 3) a0 hq] at h2
      rw [show i / 3 * 3 + i % 3 = i by omega] at h1 h2
      rw [h1, h2]
    · rw [hll] at hi
      rw [getD_map_range z len i a0 hi]
      exact (hz i hi).2
theorem open_i64s {a : Option Addr} {len cap : Nat} {d : DataW H} {p : List MemPlace} (h : DataW.Trod enc Try.prog W 0 (fun _ => true) true 23 (.slice a len cap) d p) :
    ∃ T : List Int, T.length = len ∧ Sl W a (int64s T) ∧ ∀ i, i < T.length → R64 (T.getD i 0) := by
  obtain ⟨fuel, hf⟩ := h
  have hf' : DataW.trod enc Try.prog W 0 (fun _ => true) true fuel 23 [.slice a len cap] = some (d, p) := hf
  rcases open_slice Try.underlying23 hf' with ⟨hcs, _⟩ | ⟨x, len', cap', m, n, D, Pl, hcs, _, hl, _, hm, _, hx⟩
  · cases hcs
    exact ⟨[], rfl, Sl.nil _ _, fun i hi => absurd hi (by simp)⟩
  · cases hcs
    have hm' : len ≤ m := by rw [hm]; split <;> omega
    have k2 : Try.prog.cellsOf 2 = 1 := by kernel_rfl
    rw [k2] at hx
    obtain ⟨z, hz⟩ := choose_lt (α := Int) (p := fun i s => W.cell? (x.add i) = some (.int .i64 s) ∧ R64 s) (n := len) (fun i hi => by
      obtain ⟨cs', h1, h2⟩ := hx i (by omega)
      obtain ⟨_, hlen, hcell⟩ := World.cells?_some h1
      match cs', hlen with
      | [c0], _ =>
        obtain ⟨t, e1, _, w1⟩ := DataW.trod_int Try.underlying2 h2
        simp at e1
        subst e1
        refine ⟨t, ?_, w1⟩
        have := hcell 0 (by simp)
        rw [add_add] at this
        simpa using this)
    have hll : ((List.range len).map z).length = len := by simp
    refine ⟨(List.range len).map z, hll, sl_all fun i hi => ?_, fun i hi => ?_⟩
    · rw [int64s_len, hll] at hi
      rw [(hz i hi).1]
      simp [int64s, hi]
    · rw [hll] at hi
      rw [getD_map_range z len i 0 hi]
      exact (hz i hi).2
end
end Go.Proofs.Qxb6626314a
