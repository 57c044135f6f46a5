/-
  Seat b6626314a: a region that draws its order, whose last operation writes what another reads.
-/
import Derived.Test.Qxb6626314aQ
namespace Go.Proofs.Qxb6626314a
open Go.RowKit Go.Maps Go.Sort
set_option linter.unusedVariables false

/-! ### A region that draws its order, whose last operation writes what another reads -/
section
variable {P : Program} {ops : Array Oper} {Q : Exit → Act → World → Prop} {md : Region.Mode} {S : World → Prop} {k : Nat}
/-- Whatever order is picked, and S behind every operation but number k. -/
def wpBut (P : Program) (md : Region.Mode) (ops : Array Oper) (Q : Exit → Act → World → Prop) (S : World → Prop) (k : Nat) : Nat → Array Bool → Act → World → Prop
  | 0, listed, a, w => Region.ready md ops listed = [] ∧ Q .normal a w
  | fuel + 1, listed, a, w => (Region.ready md ops listed = [] → Q .normal a w) ∧
    ∀ i ∈ Region.ready md ops listed, wpOp P ops Q i (fun a' w' => (i ≠ k → S w') ∧ wpBut P md ops Q S k fuel (listed.setIfInBounds i true) a' w') a w
theorem wpAny_of_but : ∀ (fuel : Nat) (listed : Array Bool) (a : Act) (w : World), wpBut P md ops Q S k fuel listed a w → wpAny P md ops Q fuel listed a w
  | 0, _, _, _, h => h
  | fuel + 1, _, _, _, h => ⟨h.1, fun i hi => wpOp_mono (fun a' w' h' => wpAny_of_but fuel _ a' w' h'.2) (h.2 i hi)⟩
def waitsFor (md : Region.Mode) (ops : Array Oper) (k i : Nat) : Bool := match ops[k]? with
  | some o => o.after.any fun e => Region.binds md e && decide (e.on = i)
  | none => false
theorem wpBut_first {i : Nat} {oi : Oper} {v : Value} (hi : ops[i]? = some oi) (hw : waitsFor md ops k i = true) (hsel : ∀ (j : Nat) (o : Oper) cs b, ops[j]? = some o → o.op ≠ .select cs b)
    (hQ : ∀ c a w, Q (.panic c) (a.put oi.dst v) w → Q (.panic c) a w) :
    ∀ (fuel : Nat) (listed : Array Bool) (a : Act) (w : World),
      (∀ j oj, ops[j]? = some oj → j ≠ i → listed.getD j true = false → (∀ e ∈ oj.after, Region.binds md e = true → e.on ≠ i) → oi.apart ops oj = true) →
      i ∈ Region.ready md ops listed → YieldsIf P ops S oi v a → S w →
      wpBut P md ops Q S k fuel (listed.setIfInBounds i true) (a.put oi.dst v) w → wpBut P md ops Q S k (fuel + 1) listed a w := by
  intro fuel
  induction fuel with
  | zero =>
    intro listed a w _ hr hy hS H
    refine ⟨fun h => (by rw [h] at hr; cases hr), fun j hj => ?_⟩
    by_cases hji : j = i
    · subst hji; exact hy.wpOp hi hS ⟨fun _ => hS, H⟩
    · have := ready_mono hj hji
      rw [H.1] at this
      cases this
  | succ fuel ih =>
    intro listed a w hfree hr hy hS H
    refine ⟨fun h => (by rw [h] at hr; cases hr), fun j hj => ?_⟩
    by_cases hji : j = i
    · subst hji; exact hy.wpOp hi hS ⟨fun _ => hS, H⟩
    · have h1 := H.2 j (ready_mono hj hji)
      obtain ⟨hjun, oj, hoj, hall⟩ := mem_ready.1 hj
      have hnot : ∀ e ∈ oj.after, Region.binds md e = true → e.on ≠ i := fun e he hb heq => by
        have h1 := hall e he hb
        have h0 := (mem_ready.1 hr).1
        rw [heq] at h1
        rcases Nat.lt_or_ge i listed.size with h' | h'
        · simp [h'] at h0 h1; rw [h0] at h1; cases h1
        · simp [Array.getElem?_eq_none h'] at h1
      have hjk : j ≠ k := fun e => by
        subst e
        unfold waitsFor at hw
        rw [hoj] at hw
        simp only [Array.any_eq_true'] at hw
        obtain ⟨e, he, hx⟩ := hw
        rw [Bool.and_eq_true, decide_eq_true_eq] at hx
        exact hnot e he hx.1 hx.2
      have h2 := wpOp_putIf hoj (hfree j oj hoj hji hjun hnot) (fun cs b => hsel i oi cs b hi) (fun cs b => hsel j oj cs b hoj) hQ hy h1
      have hfree' : ∀ l ol, ops[l]? = some ol → l ≠ i → (listed.setIfInBounds j true).getD l true = false →
          (∀ e ∈ ol.after, Region.binds md e = true → e.on ≠ i) → oi.apart ops ol = true := fun l ol hl hli hun hno => by
        refine hfree l ol hl hli ?_ hno
        by_cases hjl : j = l
        · subst hjl; exact hjun
        · rw [getD_set_ne true hjl] at hun; exact hun
      refine wpOp_mono (fun a' w' h3 => ⟨fun _ => h3.2.1 hjk, ih (listed.setIfInBounds j true) a' w' hfree' (ready_mono hr (Ne.symm hji)) h3.1 (h3.2.1 hjk) ?_⟩) h2
      rw [Array.setIfInBounds_comm _ _ hji]
      exact h3.2.2
theorem wpBut_take {i : Nat} {oi : Oper} {v : Value} {fuel : Nat} {listed : Array Bool} {a : Act} {w : World} (hi : ops[i]? = some oi) (hw : waitsFor md ops k i = true)
    (hs : Region.noSelect ops = true) (hf : Region.free md ops listed i = true) (hr : (Region.ready md ops listed).contains i = true)
    (hQ : ∀ c a w, Q (.panic c) (a.put oi.dst v) w → Q (.panic c) a w) (hy : YieldsIf P ops S oi v a) (hS : S w)
    (h : wpBut P md ops Q S k fuel (listed.setIfInBounds i true) (a.put oi.dst v) w) : wpBut P md ops Q S k (fuel + 1) listed a w :=
  wpBut_first hi hw (Region.noSelect_spec hs) hQ fuel listed a w (Region.free_spec hi hf) (by simpa using hr) hy hS h
/-- One operation alone may come up now. -/
theorem wpBut_one {i : Nat} {o : Oper} {fuel : Nat} {listed : Array Bool} {a : Act} {w : World} (hr : Region.ready md ops listed = [i]) (ho : ops[i]? = some o)
    (h : ∀ K' : Act → World → Prop, Hid (∀ a w, S w → wpBut P md ops Q S k fuel (listed.setIfInBounds i true) a w → K' a w) → if Region.wanted o (yielded ops a.tmps) = true then Oper.wp P o a w K' Q else K' (a.put o.dst undef) w) :
    wpBut P md ops Q S k (fuel + 1) listed a w :=
  ⟨fun h0 => (by rw [hr] at h0; cases h0), fun j hj => by
    rw [hr, List.mem_singleton] at hj
    subst hj
    exact wpOp_step ho (fun K' hK => h K' (fun a w hS hW => hK a w ⟨fun _ => hS, hW⟩))⟩
/-- The last. -/
theorem wpBut_last {o : Oper} {fuel : Nat} {listed : Array Bool} {a : Act} {w : World} (hr : Region.ready md ops listed = [k]) (ho : ops[k]? = some o) (hr' : Region.ready md ops (listed.setIfInBounds k true) = [])
    (h : ∀ K' : Act → World → Prop, Hid (∀ a w, Q .normal a w → K' a w) → if Region.wanted o (yielded ops a.tmps) = true then Oper.wp P o a w K' Q else K' (a.put o.dst undef) w) :
    wpBut P md ops Q S k (fuel + 1) listed a w :=
  ⟨fun h0 => (by rw [hr] at h0; cases h0), fun j hj => by
    rw [hr, List.mem_singleton] at hj
    subst hj
    refine wpOp_step ho (fun K' hK => h K' (fun a w hW => hK a w ⟨fun hn => absurd rfl hn, ?_⟩))
    cases fuel with
    | zero => exact ⟨hr', hW⟩
    | succ fuel => exact ⟨fun _ => hW, fun i hi => (by rw [hr'] at hi; cases hi)⟩⟩
theorem wp_region_but {id : Nat} {a : Act} {w : World} (k : Nat) (S : World → Prop) (hm : P.follows .mixedOrders = true)
    (h : wpBut P .any ops Q S k ops.size (Array.replicate ops.size false) a w.drew) : (Code.region id ops true).wp P Q a w :=
  wp_region_any hm (wpAny_of_but _ _ _ _ h)
end
end Go.Proofs.Qxb6626314a
