/-
  Seat b6626221a: 'Rows.FnWantNumbersGranteesByFirstAppearanceAndKeepsItsOwnYearsSaid' proved out of the walk.
-/
import Derived.Test.Qxb6626221aO
import Derived.ProofKit
import Derived.OpenShut
import Derived.ChangeOld
import Derived.Below
namespace Go.Proofs.Qxb6626221a.fnWantNumbersGranteesByFirstAppearanceAndKeepsItsOwnYearsP
open Go.ChangeShapes Go.WideShapes Go.ChangeAt Go.RowKit
set_option linter.unusedVariables false

theorem own : ownKnob Try.prog.godebug = none := by kernel_rfl
theorem laidOut : laidOutB Try.prog = true := by kernel_rfl

/-- A slice of strings, opened. -/
theorem open_strs {H : Type} {enc : TypeId × Value → H} {W : World} {a : Option Addr} {len cap : Nat} {d : DataW H} {ps : List MemPlace} (h : DataW.Trod enc Try.prog W 0 (fun _ => true) true 22 (.slice a len cap) d ps) :
    ∃ ss : List ByteArray, ss.length = len ∧ Strs W a ss ∧ (∀ i, (ss.getD i ByteArray.empty).size ≤ maxLen) ∧ len ≤ maxLen ∧ len ≤ cap := by
  obtain ⟨fuel, hf⟩ := h
  rcases open_strings Try.underlying22 Try.underlying9 (by kernel_rfl) hf with ⟨hcs, _⟩ | ⟨x, l, c, ss, hcs, _, hl, hm, hz, _, hcell, hws⟩
  · simp [Value.cells] at hcs
    obtain ⟨rfl, rfl, rfl⟩ := hcs
    exact ⟨[], rfl, fun h => absurd rfl h, fun i => by simp, by unfold maxLen; omega, Nat.le_refl _⟩
  · simp [Value.cells] at hcs
    obtain ⟨rfl, rfl, rfl⟩ := hcs
    simp at hz
    refine ⟨ss.take len, by simp; omega, ?_, ?_, by omega, hl⟩
    · intro hne
      have h0 : 0 < ss.length := by
        cases ss with
        | nil => simp at hne
        | cons _ _ => simp
      obtain ⟨b, off, spot⟩ := x
      have hc := hcell 0 h0
      have hspot : spot = none := by simpa [Addr.add] using World.cell?_spot hc
      subst hspot
      refine ⟨b, off, rfl, fun i hi => ?_⟩
      have h1 : i < ss.length := by simp at hi; omega
      have h2 : i < len := by simp at hi; omega
      have := hcell i h1
      rw [add_eq] at this
      rw [this]
      simp [h1, h2]
    · intro i
      by_cases h1 : i < (ss.take len).length
      · have : (ss.take len).getD i ByteArray.empty ∈ ss := by
          rw [List.getD_eq_getElem?_getD, List.getElem?_eq_getElem h1]
          exact List.mem_of_mem_take (List.getElem_mem h1)
        exact hws _ this
      · rw [List.getD_eq_getElem?_getD, List.getElem?_eq_none (by omega)]
        exact Nat.zero_le _

/-- A slice of int, opened. -/
theorem open_int64s {H : Type} {enc : TypeId × Value → H} {W : World} {a : Option Addr} {len cap : Nat} {d : DataW H} {ps : List MemPlace} (h : DataW.Trod enc Try.prog W 0 (fun _ => true) true 23 (.slice a len cap) d ps) :
    ∃ zs : List Int, zs.length = len ∧ IntsO W a zs ∧ len ≤ maxLen ∧ (∀ i, (Lit.int .i64 (zs.getD i 0)).wf = true) := by
  obtain ⟨fuel, hf⟩ := h
  rcases open_ints Try.underlying23 Try.underlying3 (by kernel_rfl) hf with ⟨hcs, _⟩ | ⟨x, l, c, zs, hcs, _, hl, hm, hz, _, hcell, hwz⟩
  · simp [Value.cells] at hcs
    obtain ⟨rfl, rfl, rfl⟩ := hcs
    exact ⟨[], rfl, ⟨fun _ => rfl, fun ad e => by cases e⟩, by unfold maxLen; omega, fun i => by simp; decide⟩
  · simp [Value.cells] at hcs
    obtain ⟨rfl, rfl, rfl⟩ := hcs
    simp at hz
    refine ⟨zs.take len, by simp; omega, ⟨fun e => absurd e (by simp), fun ad e hne => ?_⟩, by omega, ?_⟩
    · cases e
      have h0 : 0 < zs.length := by
        cases zs with
        | nil => simp at hne
        | cons _ _ => simp
      obtain ⟨b, off, spot⟩ := x
      have hc := hcell 0 h0
      have hspot : spot = none := by simpa [Addr.add] using World.cell?_spot hc
      subst hspot
      refine ⟨b, off, rfl, fun i hi => ?_⟩
      have h1 : i < zs.length := by simp at hi; omega
      have h2 : i < len := by simp at hi; omega
      have := hcell i h1
      rw [add_eq] at this
      rw [this]
      simp [h1, h2]
    · intro i
      by_cases h1 : i < (zs.take len).length
      · have : (zs.take len).getD i 0 ∈ zs := by
          rw [List.getD_eq_getElem?_getD, List.getElem?_eq_getElem h1]
          exact List.mem_of_mem_take (List.getElem_mem h1)
        exact hwz _ this
      · rw [List.getD_eq_getElem?_getD, List.getElem?_eq_none (by omega)]
        decide

set_option maxRecDepth 100000 in
theorem lifted (os : Os) (started : os.Started) (H : Type) (enc : TypeId × Value → H) :
    ReturnsInHanded {} Try.checked os 3 .any (Rows.fnWantNumbersGranteesByFirstAppearanceAndKeepsItsOwnYearsSpec.pre6 enc Try.prog Try.f3 Rows.fnWantNumbersGranteesByFirstAppearanceAndKeepsItsOwnYearsRow.domain false) (Rows.fnWantNumbersGranteesByFirstAppearanceAndKeepsItsOwnYearsSpec.post enc Try.prog Try.f3 false true false false) := by
  refine returnsInHanded_of_change (C := Try.checked) own started (by kernel_rfl) Try.func3
    (ChangeSpec.witness6 (enc := enc) (C := Try.checked) false ⟨#[], #[.slice none 0 0, .slice none 0 0], []⟩ 8 (by kernel_rfl) (by kernel_rfl) (by kernel_rfl) (by kernel_rfl)) ?_
  intro W base args ds gs before hval0 hW hcnd _
  have hval : ∀ (j : Nat) t v, Try.f3.params[j]? = some t → args[j]? = some v → Value.okWide Try.prog W .any base t v := hval0
  have hW' := hW
  obtain ⟨p, q, hA0, hV, rfl, hfz, hnd⟩ := hW
  have hA : DataW.TrodAll enc Try.prog W 0 (fun _ => true) true Try.f3.params.toList args.toList ds p := hA0
  rw [Try.params3] at hA hval
  obtain ⟨v0, vs0, d0, ds0, p0, q0, hargs, rfl, rfl, h0, r0⟩ := trodAll_cons hA
  obtain ⟨v1, vs1, d1, ds1, p1, q1, rfl, rfl, rfl, h1, r1⟩ := trodAll_cons r0
  obtain ⟨rfl, rfl, rfl⟩ := trodAll_nil r1
  obtain rfl : args = #[v0, v1] := by cases args; simp_all
  obtain ⟨rfl, rfl⟩ := trodVars_none hV
  have k0 := h0
  have lt0 : ∀ x ∈ p0, x.block < W.heap.size := by obtain ⟨m, hm⟩ := k0; exact DataW.trod_lt m _ _ _ hm
  have k1 := h1
  have lt1 : ∀ x ∈ p1, x.block < W.heap.size := by obtain ⟨m, hm⟩ := k1; exact DataW.trod_lt m _ _ _ hm
  obtain ⟨a0, len0, cap0, rfl⟩ := okWide_slice Try.underlying22 (hval 0 22 v0 rfl rfl)
  obtain ⟨z0, rfl, s0, y0, m0, c0⟩ := open_strs h0
  obtain ⟨a1, len1, cap1, rfl⟩ := okWide_slice Try.underlying23 (hval 1 23 v1 rfl rfl)
  obtain ⟨z1, rfl, s1, m1, y1⟩ := open_int64s h1
  clear hA0 hval0
  refine (law_numbers a0 cap0 z0 a1 cap1 z1 W s0 y0 m0 s1 m1).mono fun e W' ⟨he, bel⟩ => ?_
  subst he
  exact ⟨_, rfl, _, _, _, [], _, [], hW', trodAll_mk1 (shut_bool Try.underlying4 _), (trodAll_cons_mk (Below.trod laidOut (by kernel_rfl) (of_decide_eq_true (by kernel_rfl)) k0 bel lt0) (trodAll_cons_mk (Below.trod laidOut (by kernel_rfl) (of_decide_eq_true (by kernel_rfl)) k1 bel lt1) trodAll_mk0)), rfl, bel.frame _, fun h => by cases h⟩

theorem proved : Rows.FnWantNumbersGranteesByFirstAppearanceAndKeepsItsOwnYearsSaid :=
  OpenClaim.holds_of_wide 3 Try.f3 rfl rfl rfl rfl rfl rfl rfl ⟨rfl, rfl, rfl, rfl, rfl⟩ rfl rfl rfl rfl rfl (by kernel_rfl) Try.func3 (by kernel_rfl)
    (of_decide_eq_true (by kernel_rfl)) (by unfold Func.isWrapper; first | (rw [if_pos (by decide +kernel)]; kernel_rfl) | (rw [if_neg (by decide +kernel)]; exact ⟨rfl, rfl⟩))
    (fun os started H enc _ => lifted os started H enc)

end Go.Proofs.Qxb6626221a.fnWantNumbersGranteesByFirstAppearanceAndKeepsItsOwnYearsP

namespace Go.Proofs.Qxb6626221a
theorem fnWantNumbersGranteesByFirstAppearanceAndKeepsItsOwnYears_proved : Rows.FnWantNumbersGranteesByFirstAppearanceAndKeepsItsOwnYearsSaid := fnWantNumbersGranteesByFirstAppearanceAndKeepsItsOwnYearsP.proved
end Go.Proofs.Qxb6626221a
