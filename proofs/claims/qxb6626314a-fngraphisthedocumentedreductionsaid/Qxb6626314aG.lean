/-
  Seat b6626314a: pdqsort's loop: what it keeps (no Go in sight).
-/
import Derived.Test.Qxb6626314aF
import Derived.Test.Qxb6626314aD
import Derived.Test.Qxb6626314aC
namespace Go.Proofs.Qxb6626314a
open Go.RowKit Go.Maps Go.Sort
set_option linter.unusedVariables false

/-- Whatever does not lie wholly inside [x, y) is in order. -/
def Done (a b x y : Nat) (d : Array Int) : Prop := ∀ i j, a ≤ i → i < j → j < b → (i < x ∨ y ≤ j) → ¬ d[j]! < d[i]!
/-- Nothing of [x, y) is less than what stands just ahead of it. -/
def Ahd (x y : Nat) (d : Array Int) : Prop := x = 0 ∨ ∀ i, x ≤ i → i < y → ¬ d[i]! < d[x - 1]!
theorem lt_false {x y : Int} : ltInt x y = false ↔ ¬ x < y := by unfold ltInt; simp
theorem lt_true {x y : Int} : ltInt x y = true ↔ x < y := by unfold ltInt; simp
theorem Ahd.below {x y : Nat} {d : Array Int} (h : Ahd x y d) : Sort.Below ltInt x y d := by
  rcases h with h | h
  · exact Or.inl h
  · exact Or.inr fun i h1 h2 => lt_false.2 (h i h1 h2)
theorem Done.perm {a b x y : Nat} {d d' : Array Int} (h : Done a b x y d) (hxy : x ≤ y) (hax : a ≤ x) (hyb : y ≤ b) (hb : b ≤ d.size) (hp : PermIn x y d d') : Done a b x y d' := by
  obtain ⟨hs, hout, _⟩ := id hp
  intro i j h1 h2 h3 h4
  by_cases ci : i < x
  · rw [hout i (Or.inl ci)]
    by_cases cj : x ≤ j ∧ j < y
    · exact permIn_all d d' x y (fun v => ¬ v < d[i]!) (by omega) hp (fun k k1 k2 => h i k h1 (by omega) (by omega) (Or.inl ci)) j cj.1 cj.2
    · rw [hout j (by omega)]
      exact h i j h1 h2 h3 (Or.inl ci)
  · have hj : y ≤ j := by omega
    rw [hout j (Or.inr hj)]
    by_cases cy : i < y
    · exact permIn_all d d' x y (fun v => ¬ d[j]! < v) (by omega) hp (fun k k1 k2 => h k j (by omega) (by omega) h3 (Or.inr hj)) i (by omega) cy
    · rw [hout i (by omega)]
      exact h i j h1 h2 h3 (Or.inr hj)
theorem Ahd.perm {x y : Nat} {d d' : Array Int} (h : Ahd x y d) (hb : y ≤ d.size) (hp : PermIn x y d d') : Ahd x y d' := by
  rcases h with h | h
  · exact Or.inl h
  · by_cases hx : x = 0
    · exact Or.inl hx
    · refine Or.inr fun i h1 h2 => ?_
      rw [hp.2.1 (x - 1) (by omega)]
      exact permIn_all d d' x y (fun v => ¬ v < d[x - 1]!) hb hp (fun k k1 k2 => h k k1 k2) i h1 h2
theorem Done.sorted {a b x y : Nat} {d : Array Int} (h : Done a b x y d) (hs : SortedIn ltInt x y d) : SortedIn ltInt a b d := fun i j h1 h2 h3 => by
  rw [lt_false]
  by_cases c : i < x ∨ y ≤ j
  · exact h i j h1 h2 h3 c
  · exact lt_false.1 (hs i j (by omega) h2 (by omega))
theorem Done.start (a b : Nat) (d : Array Int) : Done a b a b d := fun i j h1 h2 h3 h4 => by omega
/-- behind partitionEqual. -/
theorem Done.eq {a b x y mid : Nat} {d : Array Int} {pv : Int} (h : Done a b x y d) (hx : x < mid) (hy : mid ≤ y) (hge : ∀ t, x ≤ t → t < y → ¬ d[t]! < pv) (hl : ∀ t, x ≤ t → t < mid → ¬ pv < d[t]!) (hr : ∀ t, mid ≤ t → t < y → pv < d[t]!) : Done a b mid y d ∧ Ahd mid y d := by
  refine ⟨fun i j h1 h2 h3 h4 => ?_, Or.inr fun i h1 h2 => ?_⟩
  · by_cases c : i < x ∨ y ≤ j
    · exact h i j h1 h2 h3 c
    · have hi := hl i (by omega) (by omega)
      have hj := hge j (by omega) (by omega)
      omega
  · have h5 := hl (mid - 1) (by omega) (by omega)
    have h6 := hr i h1 h2
    omega
/-- behind partition and the left part's sort. -/
theorem Done.left {a b x y mid : Nat} {d d' : Array Int} (h : Done a b x y d) (hx : x ≤ mid) (hy : mid < y) (hyb : y ≤ b) (hb : b ≤ d.size) (hl : ∀ t, x ≤ t → t < mid → d[t]! < d[mid]!) (hr : ∀ t, mid < t → t < y → ¬ d[t]! < d[mid]!) (hp : PermIn x mid d d') (hs : SortedIn ltInt x mid d') (hax : a ≤ x) : Done a b (mid + 1) y d' ∧ Ahd (mid + 1) y d' := by
  have hp2 := permIn_mono d d' x mid x y (Nat.le_refl _) (by omega) (by omega) hp
  have hD := h.perm (by omega) hax hyb hb hp2
  have hm : d'[mid]! = d[mid]! := hp.2.1 mid (by omega)
  have hl' : ∀ t, x ≤ t → t < mid → d'[t]! < d'[mid]! := fun t h1 h2 => by
    rw [hm]; exact permIn_all d d' x mid (fun v => v < d[mid]!) (by omega) hp (fun k k1 k2 => hl k k1 k2) t h1 h2
  have hr' : ∀ t, mid < t → t < y → ¬ d'[t]! < d'[mid]! := fun t h1 h2 => by
    rw [hm, hp.2.1 t (by omega)]; exact hr t h1 h2
  refine ⟨fun i j h1 h2 h3 h4 => ?_, Or.inr fun i h1 h2 => ?_⟩
  · by_cases c : i < x ∨ y ≤ j
    · exact hD i j h1 h2 h3 c
    · by_cases ci : i < mid
      · by_cases cj : j < mid
        · exact lt_false.1 (hs i j (by omega) h2 cj)
        · have k1 := hl' i (by omega) ci
          by_cases e : j = mid
          · subst e; omega
          · have k2 := hr' j (by omega) (by omega)
            omega
      · have e : i = mid := by omega
        subst e
        exact hr' j (by omega) (by omega)
  · rw [Nat.add_sub_cancel]
    exact hr' i (by omega) h2
/-- behind partition and the right part's sort. -/
theorem Done.right {a b x y mid : Nat} {d d' : Array Int} (h : Done a b x y d) (hA : Ahd x y d) (hx : x ≤ mid) (hy : mid < y) (hyb : y ≤ b) (hb : b ≤ d.size) (hl : ∀ t, x ≤ t → t < mid → d[t]! < d[mid]!) (hr : ∀ t, mid < t → t < y → ¬ d[t]! < d[mid]!) (hp : PermIn (mid + 1) y d d') (hs : SortedIn ltInt (mid + 1) y d') (hax : a ≤ x) : Done a b x mid d' ∧ Ahd x mid d' := by
  have hp2 := permIn_mono d d' (mid + 1) y x y (by omega) (Nat.le_refl _) (by omega) hp
  have hD := h.perm (by omega) hax hyb hb hp2
  have hA2 := hA.perm (by omega) hp2
  have hm : d'[mid]! = d[mid]! := hp.2.1 mid (by omega)
  have hl' : ∀ t, x ≤ t → t < mid → d'[t]! < d'[mid]! := fun t h1 h2 => by
    rw [hm, hp.2.1 t (by omega)]; exact hl t h1 h2
  have hr' : ∀ t, mid < t → t < y → ¬ d'[t]! < d'[mid]! := fun t h1 h2 => by
    rw [hm]; exact permIn_all d d' (mid + 1) y (fun v => ¬ v < d[mid]!) (by omega) hp (fun k k1 k2 => hr k (by omega) k2) t (by omega) h2
  refine ⟨fun i j h1 h2 h3 h4 => ?_, ?_⟩
  · by_cases c : i < x ∨ y ≤ j
    · exact hD i j h1 h2 h3 c
    · by_cases cj : mid < j
      · by_cases ci : mid < i
        · exact lt_false.1 (hs i j (by omega) h2 (by omega))
        · have k2 := hr' j cj (by omega)
          by_cases e : i = mid
          · subst e; exact k2
          · have k1 := hl' i (by omega) (by omega)
            omega
      · have e : j = mid := by omega
        subst e
        have k1 := hl' i (by omega) h2
        omega
  · rcases hA2 with h0 | h0
    · exact Or.inl h0
    · exact Or.inr fun i h1 h2 => h0 i h1 (by omega)

end Go.Proofs.Qxb6626314a
