/-
  Seat b6625890a: what one read does to the plain state (no Go in sight).
-/
import Derived.Test.Qxb6625890aV
namespace Go.Proofs.Qxb6625890a
open Go.RowKit Go.Maps
set_option linter.unusedVariables false

def wantB (cf dr : Bool) (k : Nat) : Bool := (k == 1 && dr) || (decide (2 ≤ k) && (dr || cf))
/-- What the law asks of the four pointers behind the first read. -/
def OutR (c0 c1 c2 c3 cf dr : Bool) (x : List Value) (o0 out : Nat → Option OpC) : Prop :=
  ∀ k, k < 4 → (c4 c0 c1 c2 c3 k = true → out k = o0 k ∧ out k ≠ none) ∧ (c4 c0 c1 c2 c3 k = false → (wantB cf dr k = false → out k = none) ∧ (wantB cf dr k = true → ∃ b, out k = some (b, x)))

structure Nest (o : Nat → Option OpC) : Prop where
  n0 : o 0 ≠ none → o 1 ≠ none
  n1 : o 1 ≠ none → o 2 ≠ none
  n2 : o 2 ≠ none → o 3 ≠ none

set_option maxHeartbeats 1000000 in
theorem step_out {o out1 out' : Nat → Option OpC} {cf dr : Bool} {x : List Value} (hn : Nest o) (hm : MeetRel o cf x out1) (hd : DirtyRel dr out1 x out') :
    (∀ k, k < 4 → (o k ≠ none → out' k = o k) ∧ (o k = none → (wantB cf dr k = false → out' k = none) ∧ (wantB cf dr k = true → ∃ b, out' k = some (b, x)))) ∧ out1 0 = o 0 := by
  obtain ⟨n0, n1, n2⟩ := hn
  have h1 : out1 0 = o 0 := by
    rcases hm with ⟨_, _, bl, rfl⟩ | ⟨_, rfl⟩
    · unfold failTo; rw [if_neg (by omega)]
    · rfl
  refine ⟨fun k hk => ?_, h1⟩
  clear h1
  obtain ⟨bl, hm⟩ : ∃ bl, ∀ k, out1 k = if o 2 = none ∧ cf = true ∧ 2 ≤ k ∧ k < 4 ∧ o k = none then some (bl, x) else o k := by
    rcases hm with ⟨m1, m2, bl, rfl⟩ | ⟨m1, rfl⟩
    · refine ⟨bl, fun k => ?_⟩
      unfold failTo
      simp only [m1, m2, true_and]
    · refine ⟨0, fun k => ?_⟩
      rw [if_neg (fun hh => m1 ⟨hh.1, hh.2.1⟩)]
  obtain ⟨b, hd⟩ : ∃ b, ∀ k, out' k = if out1 1 = none ∧ dr = true ∧ 1 ≤ k ∧ k < 4 ∧ out1 k = none then some (b, x) else out1 k := by
    rcases hd with ⟨m2, hf⟩ | ⟨m1, rfl⟩
    · rcases hf with ⟨m1, rfl⟩ | ⟨m1, b, rfl⟩
      · exact ⟨0, fun k => by rw [if_neg (fun hh => m1 hh.1)]⟩
      · refine ⟨b, fun k => ?_⟩
        unfold failTo
        simp only [m1, m2, true_and]
    · exact ⟨0, fun k => by rw [if_neg (fun hh => by rw [m1] at hh; cases hh.2.1)]⟩
  have a0 := hm 0
  have a1 := hm 1
  have a2 := hm 2
  have a3 := hm 3
  have e0 := hd 0
  have e1 := hd 1
  have e2 := hd 2
  have e3 := hd 3
  clear hm hd
  have hk4 : k = 0 ∨ k = 1 ∨ k = 2 ∨ k = 3 := by omega
  unfold wantB
  rcases hk4 with rfl | rfl | rfl | rfl
  · by_cases h0 : o 0 = none <;> simp_all
  · by_cases h0 : o 1 = none <;> cases dr <;> simp_all
  · by_cases h0 : o 1 = none <;> by_cases h2 : o 2 = none <;> cases dr <;> cases cf <;> simp_all
  · by_cases h0 : o 1 = none <;> by_cases h2 : o 2 = none <;> by_cases h3 : o 3 = none <;> cases dr <;> cases cf <;> simp_all

theorem step_nest {o out1 out' : Nat → Option OpC} {cf dr : Bool} {x : List Value} (hn : Nest o) (hm : MeetRel o cf x out1) (hd : DirtyRel dr out1 x out') : Nest out' := by
  obtain ⟨hs, _⟩ := step_out hn hm hd
  have key : ∀ k, k < 3 → (o k ≠ none → o (k + 1) ≠ none) → out' k ≠ none → out' (k + 1) ≠ none := by
    intro k hk hnk ho
    by_cases e : o (k + 1) = none
    · have e0 : o k = none := Classical.byContradiction (fun hh => hnk hh e)
      have hw : wantB cf dr k = true := by
        cases hw : wantB cf dr k with
        | true => rfl
        | false => exact absurd (((hs k (by omega)).2 e0).1 hw) ho
      have hw2 : wantB cf dr (k + 1) = true := by
        have hk3 : k = 0 ∨ k = 1 ∨ k = 2 := by omega
        rcases hk3 with rfl | rfl | rfl <;> revert hw <;> cases cf <;> cases dr <;> decide
      obtain ⟨b, hb⟩ := ((hs (k + 1) (by omega)).2 e).2 hw2
      rw [hb]; simp
    · rw [(hs (k + 1) (by omega)).1 e]; exact e
  exact ⟨key 0 (by omega) hn.n0, key 1 (by omega) hn.n1, key 2 (by omega) hn.n2⟩

theorem c4_some {o : Nat → Option OpC} {b0 b1 b2 b3 : Bool} {k : Nat} (h : (o k).isSome = c4 b0 b1 b2 b3 k) : (c4 b0 b1 b2 b3 k = true → o k ≠ none) ∧ (c4 b0 b1 b2 b3 k = false → o k = none) := by
  rw [← h]
  cases o k <;> simp

theorem nest_of {o : Nat → Option OpC} {b0 b1 b2 b3 : Bool} (h : ∀ k, k < 4 → (o k).isSome = c4 b0 b1 b2 b3 k) (n0 : b0 = true → b1 = true) (n1 : b1 = true → b2 = true) (n2 : b2 = true → b3 = true) : Nest o := by
  have h0 := h 0 (by omega)
  have h1 := h 1 (by omega)
  have h2 := h 2 (by omega)
  have h3 := h 3 (by omega)
  simp only [c4] at h0 h1 h2 h3
  subst h0 h1 h2 h3
  exact ⟨fun h => Option.isSome_iff_ne_none.1 (n0 (Option.isSome_iff_ne_none.2 h)), fun h => Option.isSome_iff_ne_none.1 (n1 (Option.isSome_iff_ne_none.2 h)), fun h => Option.isSome_iff_ne_none.1 (n2 (Option.isSome_iff_ne_none.2 h))⟩

theorem OutR.of {o out1 out' : Nat → Option OpC} {b0 b1 b2 b3 cf dr : Bool} {x : List Value} (h : ∀ k, k < 4 → (o k).isSome = c4 b0 b1 b2 b3 k) (hn : Nest o) (hm : MeetRel o cf x out1) (hd : DirtyRel dr out1 x out') : OutR b0 b1 b2 b3 cf dr x o out' := by
  intro k hk
  obtain ⟨s1, s2⟩ := (step_out hn hm hd).1 k hk
  obtain ⟨c1, c2⟩ := c4_some (h k hk)
  refine ⟨fun hc => ?_, fun hc => s2 (c2 hc)⟩
  rw [s1 (c1 hc)]
  exact ⟨rfl, c1 hc⟩

theorem getD_set_self {l : List (Int × Int)} {i : Nat} {p : Int × Int} (h : i < l.length) : (l.set i p).getD i (0, 0) = p := by
  rw [List.getD_eq_getElem?_getD, List.getElem?_set_self h]; rfl
theorem getD_set_ne {l : List (Int × Int)} {i j : Nat} {p : Int × Int} (h : i ≠ j) : (l.set i p).getD j (0, 0) = l.getD j (0, 0) := by
  rw [List.getD_eq_getElem?_getD, List.getElem?_set_ne h, List.getD_eq_getElem?_getD]
theorem getD_push {l : List (Int × Int)} {p : Int × Int} : (l ++ [p]).getD l.length (0, 0) = p := by
  rw [List.getD_eq_getElem?_getD, List.getElem?_append_right (by omega)]; simp
theorem getD_left {l r : List (Int × Int)} {i : Nat} (h : i < l.length) : (l ++ r).getD i (0, 0) = l.getD i (0, 0) := by
  rw [List.getD_eq_getElem?_getD, List.getElem?_append_left h, List.getD_eq_getElem?_getD]

theorem stepI_len (o3 : Option OpC) (g reads : List (Int × Int)) (it : Nat) (t : Int) : (stepI o3 g reads it t).length = g.length := by
  unfold stepI; split <;> simp
theorem stepI_fst (o3 : Option OpC) (g reads : List (Int × Int)) (it : Nat) (t : Int) (i : Nat) (hi : it < g.length) : ((stepI o3 g reads it t).getD i (0, 0)).1 = (g.getD i (0, 0)).1 := by
  unfold stepI; split
  · by_cases e : it = i
    · subst e; rw [getD_set_self hi]
    · rw [getD_set_ne e]
  · rfl
theorem stepI_snd (o3 : Option OpC) (g reads : List (Int × Int)) (it : Nat) (t : Int) (i : Nat) (e : i ≠ it) : ((stepI o3 g reads it t).getD i (0, 0)).2 = (g.getD i (0, 0)).2 := by
  unfold stepI; split
  · rw [getD_set_ne (Ne.symm e)]
  · rfl
theorem stepR_pre (o3 : Option OpC) (g reads : List (Int × Int)) (it : Nat) (t : Int) : reads.length ≤ (stepR o3 g reads it t).length ∧ (stepR o3 g reads it t).length ≤ reads.length + 1 ∧ ∀ i, i < reads.length → (stepR o3 g reads it t).getD i (0, 0) = reads.getD i (0, 0) := by
  unfold stepR; split
  · exact ⟨by simp, by simp, fun i hi => getD_left hi⟩
  · exact ⟨Nat.le_refl _, by omega, fun i hi => rfl⟩

/-- The items of a grown table. -/
theorem grow_all {items : List (Int × Int)} {it : Nat} {p : Int × Int → Prop} (h1 : ∀ i, i < items.length → p (items.getD i (0, 0))) (h2 : p (-1, -1)) : ∀ i, i < (growL items it).length → p ((growL items it).getD i (0, 0)) := by
  intro i hi
  unfold growL at hi ⊢
  by_cases e : it = items.length
  · rw [if_pos e] at hi ⊢
    by_cases e2 : i < items.length
    · rw [getD_left e2]; exact h1 i e2
    · have : i = items.length := by simp at hi; omega
      subst this; rw [getD_push]; exact h2
  · rw [if_neg e] at hi ⊢; exact h1 i hi

theorem fresh_false {g reads : List (Int × Int)} {it : Nat} {t : Int} (h : fresh g reads it t = false) : 0 ≤ (g.getD it (0, 0)).2 ∧ (reads.getD (g.getD it (0, 0)).2.toNat (0, 0)).1 = t := by
  unfold fresh at h
  rw [Bool.or_eq_false_iff] at h
  obtain ⟨h1, h2⟩ := h
  simp at h1 h2
  exact ⟨h1, h2⟩

/-- The whole of it, behind one read. -/
structure OneRead (ends : List Int) (out' : Nat → Option OpC) (g reads0 items' reads' : List (Int × Int)) (it : Nat) (t src : Int) : Prop where
  ag : Again ends out' items' reads' it t src
  gi : items'.length = g.length ∧ ∀ i, i < items'.length → (items'.getD i (0, 0)).1 = (g.getD i (0, 0)).1 ∧ (i ≠ it → (items'.getD i (0, 0)).2 = (g.getD i (0, 0)).2)
  pre : reads0.length ≤ reads'.length ∧ ∀ i, i < reads0.length → reads'.getD i (0, 0) = reads0.getD i (0, 0)
  pre2 : reads'.length ≤ reads0.length + 1
  fr : FirstR (out' 3) items' reads' it t reads0.length (g.getD it (0, 0)).2
  W : ∀ i, i < items'.length → (items'.getD i (0, 0)).1 < ends.length
  R : ∀ i, i < items'.length → (items'.getD i (0, 0)).2 < reads'.length

theorem one_read {ends : List Int} {o out1 out' : Nat → Option OpC} {items0 reads0 : List (Int × Int)} {it : Nat} {t src : Int} {x : List Value} (hn : Nest o) (hit : it ≤ items0.length)
    (hW : ∀ i, i < items0.length → (items0.getD i (0, 0)).1 < ends.length) (hR : ∀ i, i < items0.length → (items0.getD i (0, 0)).2 < reads0.length)
    (hm : MeetRel o (conf ends ((growL items0 it).getD it (0, 0)).1 t) x out1) (hd : DirtyRel (drt ends src t) out1 x out') :
    OneRead ends out' (growL items0 it) reads0 (stepI (out' 3) (growL items0 it) reads0 it t) (stepR (out' 3) (growL items0 it) reads0 it t) it t src := by
  have hgl := grow_len items0 it hit
  have hW' : ∀ i, i < (growL items0 it).length → ((growL items0 it).getD i (0, 0)).1 < ends.length := grow_all (p := fun q => q.1 < (ends.length : Int)) hW (by show (-1 : Int) < _; omega)
  have hR' : ∀ i, i < (growL items0 it).length → ((growL items0 it).getD i (0, 0)).2 < reads0.length := grow_all (p := fun q => q.2 < (reads0.length : Int)) hR (by show (-1 : Int) < _; omega)
  obtain ⟨hs, h10⟩ := step_out hn hm hd
  generalize growL items0 it = g at *
  have hp := stepR_pre (out' 3) g reads0 it t
  have hl := stepI_len (out' 3) g reads0 it t
  have hcf : out' 2 = none → conf ends (g.getD it (0, 0)).1 t = false := by
    intro h2
    have e : o 2 = none := Classical.byContradiction (fun hh => hh ((hs 2 (by omega)).1 hh ▸ h2))
    cases hc : conf ends (g.getD it (0, 0)).1 t with
    | false => rfl
    | true =>
      rw [hc] at hs
      obtain ⟨b, hb⟩ := ((hs 2 (by omega)).2 e).2 (by cases drt ends src t <;> decide)
      rw [h2] at hb; cases hb
  have hdr : drt ends src t = true → out' 1 ≠ none := by
    intro hdt
    by_cases e : o 1 = none
    · rw [hdt] at hs
      obtain ⟨b, hb⟩ := ((hs 1 (by omega)).2 e).2 (by cases conf ends (g.getD it (0, 0)).1 t <;> decide)
      rw [hb]; simp
    · rw [(hs 1 (by omega)).1 e]; exact e
  have hag : Again ends out' (stepI (out' 3) g reads0 it t) (stepR (out' 3) g reads0 it t) it t src := by
    refine ⟨by omega, fun h2 => ?_, hdr, fun h3 => ?_⟩
    · rw [stepI_fst _ _ _ _ _ _ hgl]; exact hcf h2
    · unfold stepI stepR
      by_cases e : fresh g reads0 it t = true
      · rw [if_pos ⟨h3, e⟩, if_pos ⟨h3, e⟩]
        unfold fresh
        rw [getD_set_self hgl]
        show (decide ((reads0.length : Int) < 0) || ((List.getD (reads0 ++ _) (reads0.length : Int).toNat (0, 0)).1 != t)) = false
        rw [show (reads0.length : Int).toNat = reads0.length by omega, getD_push]
        simp
      · rw [if_neg (fun hh => e hh.2), if_neg (fun hh => e hh.2)]
        simpa using e
  have hfr : FirstR (out' 3) (stepI (out' 3) g reads0 it t) (stepR (out' 3) g reads0 it t) it t reads0.length (g.getD it (0, 0)).2 := by
    unfold FirstR stepI stepR
    by_cases h3 : out' 3 = none
    · refine Or.inl ⟨h3, ?_⟩
      by_cases e : fresh g reads0 it t = true
      · rw [if_pos ⟨h3, e⟩, if_pos ⟨h3, e⟩]
        refine ⟨reads0.length, by rw [getD_set_self hgl], by simp, by rw [getD_push], Or.inl ⟨by simp, by rw [getD_push], rfl⟩⟩
      · rw [if_neg (fun hh => e hh.2), if_neg (fun hh => e hh.2)]
        obtain ⟨f1, f2⟩ := fresh_false (by simpa using e)
        have := hR' it hgl
        refine ⟨(g.getD it (0, 0)).2.toNat, by omega, by omega, f2, Or.inr ⟨rfl, by omega⟩⟩
    · refine Or.inr ⟨h3, ?_⟩
      rw [if_neg (fun hh => h3 hh.1), if_neg (fun hh => h3 hh.1)]
      exact ⟨rfl, rfl⟩
  refine ⟨hag, ⟨hl, fun i hi => ⟨stepI_fst _ _ _ _ _ _ hgl, fun e => stepI_snd _ _ _ _ _ _ e⟩⟩, ⟨hp.1, hp.2.2⟩, hp.2.1, hfr, fun i hi => ?_, fun i hi => ?_⟩
  · rw [stepI_fst _ _ _ _ _ _ hgl]; exact hW' i (by omega)
  · have hi' : i < g.length := by omega
    have h1 := hR' i hi'
    have h2 := hp.1
    by_cases e : i = it
    · subst e
      by_cases e : out' 3 = none ∧ fresh g reads0 i t = true
      · unfold stepI stepR
        rw [if_pos e, if_pos e, getD_set_self hgl]
        simp
        omega
      · unfold stepI stepR
        rw [if_neg e, if_neg e]
        exact h1
    · rw [stepI_snd _ _ _ _ _ _ e]
      omega

end Go.Proofs.Qxb6625890a
