/-
  Seat b6626314a: the packed edges, counting: plain.
-/
import Derived.Test.Qxb6626314aZJ
namespace Go.Proofs.Qxb6626314a
open Go.RowKit Go.Maps Go.Sort
set_option linter.unusedVariables false
set_option linter.unusedSimpArgs false
/-! ### The packed edges, plain -/
theorem asc_ext : ∀ (l1 l2 : List Int), l1.Pairwise (· < ·) → l2.Pairwise (· < ·) → (∀ x, x ∈ l1 ↔ x ∈ l2) → l1 = l2
  | [], [], _, _, _ => rfl
  | [], y :: l2, _, _, h => absurd ((h y).2 (by simp)) (by simp)
  | x :: l1, [], _, _, h => absurd ((h x).1 (by simp)) (by simp)
  | x :: l1, y :: l2, h1, h2, h => by
    have a1 := (List.pairwise_cons.1 h1).1
    have a2 := (List.pairwise_cons.1 h2).1
    have e : x = y := by
      rcases List.mem_cons.1 ((h x).1 (by simp)) with e | e
      · exact e
      · rcases List.mem_cons.1 ((h y).2 (by simp)) with e' | e'
        · exact e'.symm
        · have b1 := a2 x e
          have b2 := a1 y e'
          omega
    subst e
    rw [asc_ext l1 l2 (List.pairwise_cons.1 h1).2 (List.pairwise_cons.1 h2).2 (fun z => by
      constructor
      · intro hz
        rcases List.mem_cons.1 ((h z).1 (List.mem_cons_of_mem _ hz)) with e | e
        · have := a1 z hz; omega
        · exact e
      · intro hz
        rcases List.mem_cons.1 ((h z).2 (List.mem_cons_of_mem _ hz)) with e | e
        · have := a2 z hz; omega
        · exact e)]
/-- The successors, packed, in order. -/
def flatP (succ : Nat → List Int) : Nat → List Int
  | 0 => []
  | u + 1 => flatP succ u ++ (succ u).map (pk u)
theorem flatP_mem (succ : Nat → List Int) (x : Int) : ∀ n, x ∈ flatP succ n ↔ ∃ u v, u < n ∧ v ∈ succ u ∧ x = pk u v
  | 0 => by simp [flatP]
  | n + 1 => by
    unfold flatP
    rw [List.mem_append, flatP_mem succ x n, List.mem_map]
    constructor
    · rintro (⟨u, v, a, b, c⟩ | ⟨v, b, c⟩)
      · exact ⟨u, v, by omega, b, c⟩
      · exact ⟨n, v, by omega, b, c.symm⟩
    · rintro ⟨u, v, a, b, c⟩
      by_cases e : u = n
      · subst e; exact Or.inr ⟨v, b, c.symm⟩
      · exact Or.inl ⟨u, v, by omega, b, c⟩
theorem flatP_asc (succ : Nat → List Int) : ∀ n, (∀ u, u < n → (succ u).Pairwise (· < ·) ∧ ∀ v ∈ succ u, 0 ≤ v ∧ v < 4294967296) → (flatP succ n).Pairwise (· < ·)
  | 0, _ => by simp [flatP]
  | n + 1, h => by
    unfold flatP
    rw [List.pairwise_append]
    refine ⟨flatP_asc succ n (fun u hu => h u (by omega)), ?_, fun x hx y hy => ?_⟩
    · rw [List.pairwise_map]
      exact (h n (by omega)).1.imp (fun hab => by unfold pk; omega)
    · obtain ⟨u, v, a, b, rfl⟩ := (flatP_mem succ x n).1 hx
      obtain ⟨v', b', rfl⟩ := List.mem_map.1 hy
      have h1 := (h u (by omega)).2 v b
      have h2 := (h n (by omega)).2 v' b'
      unfold pk
      have : (u : Int) + 1 ≤ (n : Int) := by omega
      omega
theorem flatP_at (succ : Nat → List Int) (u i : Nat) (hi : i < (succ u).length) : ∀ n, u < n → (flatP succ u).length + i < (flatP succ n).length ∧ (flatP succ n).getD ((flatP succ u).length + i) 0 = pk u ((succ u).getD i 0)
  | 0, h => absurd h (by omega)
  | n + 1, h => by
    by_cases e : u = n
    · subst e
      have e2 : flatP succ (u + 1) = flatP succ u ++ (succ u).map (pk u) := rfl
      rw [e2]
      refine ⟨by rw [List.length_append, List.length_map]; omega, ?_⟩
      rw [List.getD_eq_getElem?_getD, List.getElem?_append_right (by omega), Nat.add_sub_cancel_left, List.getElem?_map, List.getElem?_eq_getElem hi, List.getD_eq_getElem?_getD, List.getElem?_eq_getElem hi]
      rfl
    · obtain ⟨a, b⟩ := flatP_at succ u i hi n (by omega)
      have e2 : flatP succ (n + 1) = flatP succ n ++ (succ n).map (pk n) := rfl
      rw [e2]
      refine ⟨by rw [List.length_append]; omega, ?_⟩
      rw [List.getD_eq_getElem?_getD, List.getElem?_append_left a, ← List.getD_eq_getElem?_getD]
      exact b
theorem flatP_len (succ : Nat → List Int) (n : Nat) : (flatP succ (n + 1)).length = (flatP succ n).length + (succ n).length := by
  show (flatP succ n ++ (succ n).map (pk n)).length = _
  rw [List.length_append, List.length_map]
/-! ### Counting -/
def sumF (f : Nat → Nat) : Nat → Nat
  | 0 => 0
  | j + 1 => sumF f j + f j
theorem sumF_mono (f : Nat → Nat) {i j : Nat} (h : i ≤ j) : sumF f i ≤ sumF f j := by
  induction h with
  | refl => exact Nat.le_refl _
  | step _ ih => exact Nat.le_trans ih (Nat.le_add_right _ _)
theorem sumF_upd (f : Nat → Nat) (j0 c : Nat) : ∀ m, sumF (updV f j0 (f j0 + c)) m = sumF f m + (if j0 < m then c else 0)
  | 0 => by simp [sumF]
  | m + 1 => by
    unfold sumF
    rw [sumF_upd f j0 c m]
    by_cases e : m = j0
    · subst e; rw [updV_same]; simp; omega
    · rw [updV_ne _ _ e]
      by_cases h : j0 < m
      · rw [if_pos h, if_pos (by omega)]; omega
      · rw [if_neg h, if_neg (by omega)]; omega
theorem sumF_congr {f g : Nat → Nat} (m : Nat) (h : ∀ j, f j = g j) : sumF f m = sumF g m := by
  have : f = g := funext h
  rw [this]
theorem sum_items (G : List Int) (A : List Ac) (m : Nat) (hI : ∀ i, i < A.length → 0 ≤ (A.getD i a0).item ∧ (A.getD i a0).item < m) : ∀ q, q ≤ A.length → sumF (fun j => (itemL G (A.take q) j).length) m ≤ q
  | 0, _ => by
    have : ∀ m, sumF (fun j => (itemL G (A.take 0) j).length) m = 0 := fun m => by
      induction m with
      | zero => rfl
      | succ m ih => unfold sumF; rw [ih]; simp [itemL]
    rw [this]; exact Nat.le_refl _
  | q + 1, hq => by
    have ih := sum_items G A m hI q (by omega)
    by_cases hG : (A.getD q a0).tx ∈ G
    · obtain ⟨f, hf⟩ : ∃ f : Nat, (A.getD q a0).item = f := ⟨(A.getD q a0).item.toNat, by have := (hI q (by omega)).1; omega⟩
      rw [sumF_congr m (g := updV (fun j => (itemL G (A.take q) j).length) f ((itemL G (A.take q) f).length + 1)) (fun j => by
        rw [itemL_take G A q f (by omega) hG hf]
        unfold updV
        by_cases e : j = f <;> simp [e])]
      rw [sumF_upd (fun j => (itemL G (A.take q) j).length) f 1 m]
      split <;> omega
    · rw [itemL_skip G A q (by omega) hG]; omega
/-! ### Edges by places -/
def EPx (l : List (Int × Bool)) (p q : Nat) (x : Int) : Prop := p < q ∧ q < l.length ∧ (gp2 l p).1 ≠ (gp2 l q).1 ∧ ((gp2 l p).2 = true ∨ (gp2 l q).2 = true) ∧ (∀ r, p < r → r < q → (gp2 l r).2 = false) ∧ x = pk (gp2 l p).1 (gp2 l q).1
theorem EPx_edge {l : List (Int × Bool)} (hix : ∀ p, p < l.length → ∃ t : Nat, (gp2 l p).1 = t) (x : Int) : (∃ p q, EPx l p q x) ↔ ∃ u v, EdK l l.length u v ∧ x = pk u v := by
  constructor
  · rintro ⟨p, q, a, b, c, d, e, f⟩
    obtain ⟨u, hu⟩ := hix p (by omega)
    exact ⟨u, (gp2 l q).1, ⟨p, q, a, b, hu, rfl, by rw [← hu]; exact c, d, e⟩, by rw [f, hu]⟩
  · rintro ⟨u, v, ⟨p, q, a, b, c, d, e, f, g⟩, rfl⟩
    exact ⟨p, q, a, b, by rw [c, d]; exact e, f, g, by rw [c, d]⟩
end Go.Proofs.Qxb6626314a
