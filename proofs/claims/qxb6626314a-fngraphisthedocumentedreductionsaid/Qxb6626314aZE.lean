/-
  Seat b6626314a: the reduction's edges and the conflicts, plain.
-/
import Derived.Test.Qxb6626314aZD
namespace Go.Proofs.Qxb6626314a
open Go.RowKit Go.Maps Go.Sort
set_option linter.unusedVariables false
set_option linter.unusedSimpArgs false
/-! ### The reduction's edges, plain -/
abbrev gp2 (l : List (Int × Bool)) (p : Nat) : Int × Bool := l.getD p (0, false)
/-- An edge of the reduction among the first k accesses of an item. -/
def EdK (l : List (Int × Bool)) (k u : Nat) (v : Int) : Prop := ∃ p q, p < q ∧ q < k ∧ (gp2 l p).1 = u ∧ (gp2 l q).1 = v ∧ (u : Int) ≠ v ∧ ((gp2 l p).2 = true ∨ (gp2 l q).2 = true) ∧ ∀ r, p < r → r < q → (gp2 l r).2 = false
theorem mem_addE (S : Nat → List Int) (f : Nat) (t : Int) (u : Nat) (v : Int) : v ∈ addE S f t u ↔ v ∈ S u ∨ (u = f ∧ v = t ∧ (f : Int) ≠ t) := by
  unfold addE
  by_cases h : (f : Int) = t
  · simp [h]
  · rw [if_neg h]
    unfold updV
    by_cases e : u = f
    · subst e; simp [h]
    · simp [e]
theorem mem_foldE (t : Int) (u : Nat) (v : Int) : ∀ (rd : List Int) (S : Nat → List Int), (∀ x ∈ rd, ∃ r : Nat, x = r) → (v ∈ (rd.foldl (fun S r => addE S r t) S) u ↔ v ∈ S u ∨ ((u : Int) ∈ rd ∧ v = t ∧ (u : Int) ≠ t))
  | [], S, _ => by simp
  | x :: rd, S, hx => by
    obtain ⟨r, rfl⟩ := hx x (by simp)
    rw [List.foldl_cons, mem_foldE t u v rd (addE S r t) (fun y hy => hx y (List.mem_cons_of_mem _ hy)), mem_addE]
    constructor
    · rintro ((h | ⟨rfl, h2, h3⟩) | ⟨h1, h2, h3⟩)
      · exact Or.inl h
      · exact Or.inr ⟨by simp, h2, h3⟩
      · exact Or.inr ⟨List.mem_cons_of_mem _ h1, h2, h3⟩
    · rintro (h | ⟨h1, h2, h3⟩)
      · exact Or.inl (Or.inl h)
      · rcases List.mem_cons.1 h1 with h | h
        · have e : u = r := by omega
          subst e
          exact Or.inl (Or.inr ⟨rfl, h2, h3⟩)
        · exact Or.inr ⟨h, h2, h3⟩
structure StI (S0 : Nat → List Int) (l : List (Int × Bool)) (k : Nat) (st : (Nat → List Int) × Int × List Int) : Prop where
  e : ∀ u v, v ∈ st.1 u ↔ v ∈ S0 u ∨ EdK l k u v
  lw : (st.2.1 = -1 ∧ ∀ r, r < k → (gp2 l r).2 = false) ∨ (∃ p, p < k ∧ (gp2 l p).2 = true ∧ (gp2 l p).1 = st.2.1 ∧ ∀ r, p < r → r < k → (gp2 l r).2 = false)
  rd : ∀ x, x ∈ st.2.2 ↔ ∃ p, p < k ∧ (gp2 l p).1 = x ∧ ∀ r, p ≤ r → r < k → (gp2 l r).2 = false
theorem StI.step {S0 : Nat → List Int} {l : List (Int × Bool)} {k : Nat} {st : (Nat → List Int) × Int × List Int} (h : StI S0 l k st) (hix : ∀ p, p ≤ k → ∃ t : Nat, (gp2 l p).1 = t) : StI S0 l (k + 1) (stepA st (gp2 l k)) := by
  obtain ⟨S, lw, rd⟩ := st
  obtain ⟨t, ht⟩ := hix k (Nat.le_refl _)
  have hrd : ∀ x ∈ rd, ∃ r : Nat, x = r := fun x hx => by
    obtain ⟨p, hp, e, _⟩ := (h.rd x).1 hx
    obtain ⟨r, hr⟩ := hix p (by omega)
    exact ⟨r, by rw [← e, hr]⟩
  -- the edge from the last writer
  have h1 : ∀ u v, v ∈ (if 0 ≤ lw then addE S lw t else S) u ↔ v ∈ S0 u ∨ EdK l k u v ∨ (v = t ∧ (u : Int) ≠ t ∧ ∃ p, p < k ∧ (gp2 l p).1 = u ∧ (gp2 l p).2 = true ∧ ∀ r, p < r → r < k → (gp2 l r).2 = false) := by
    intro u v
    have he := h.e u v
    simp only at he
    rcases h.lw with ⟨e1, e2⟩ | ⟨p, hp, e1, e2, e3⟩
    · simp only at e1
      rw [if_neg (by omega), he]
      constructor
      · rintro (a | a)
        · exact Or.inl a
        · exact Or.inr (Or.inl a)
      · rintro (a | a | ⟨_, _, p, hp, _, b, _⟩)
        · exact Or.inl a
        · exact Or.inr a
        · rw [e2 p hp] at b; cases b
    · obtain ⟨f, hf⟩ := hix p (by omega)
      simp only at e2
      have hlw : lw = (f : Int) := by rw [← e2, hf]
      rw [if_pos (by omega), hlw, mem_addE, he]
      constructor
      · rintro ((a | a) | ⟨rfl, b, c⟩)
        · exact Or.inl a
        · exact Or.inr (Or.inl a)
        · exact Or.inr (Or.inr ⟨b, c, p, hp, hf, e1, e3⟩)
      · rintro (a | a | ⟨b, c, p', hp', d1, d2, d3⟩)
        · exact Or.inl (Or.inl a)
        · exact Or.inl (Or.inr a)
        · have : p' = p := by
            rcases Nat.lt_trichotomy p' p with x | x | x
            · have := d3 p x hp; rw [e1] at this; cases this
            · exact x
            · have := e3 p' x hp'; rw [d2] at this; cases this
          subst this
          rw [hf] at d1
          exact Or.inr ⟨by omega, b, by have : f = u := by omega
                                        subst this; exact c⟩
  have hsplit : ∀ u v, EdK l (k + 1) u v ↔ EdK l k u v ∨ (v = t ∧ (u : Int) ≠ t ∧ ∃ p, p < k ∧ (gp2 l p).1 = u ∧ ((gp2 l p).2 = true ∨ (gp2 l k).2 = true) ∧ ∀ r, p < r → r < k → (gp2 l r).2 = false) := by
    intro u v
    constructor
    · rintro ⟨p, q, a, b, c, d, e, f, g⟩
      by_cases hq : q = k
      · subst hq
        rw [ht] at d
        exact Or.inr ⟨d.symm, by rw [d]; exact e, p, a, c, f, g⟩
      · exact Or.inl ⟨p, q, a, by omega, c, d, e, f, g⟩
    · rintro (⟨p, q, a, b, c, d, e, f, g⟩ | ⟨a, b, p, c, d, e, f⟩)
      · exact ⟨p, q, a, by omega, c, d, e, f, g⟩
      · exact ⟨p, k, c, by omega, d, by rw [ht, a], by rw [a]; exact b, e, f⟩
  cases hw : (gp2 l k).2 with
  | false =>
    have hst : stepA (S, lw, rd) (gp2 l k) = (if 0 ≤ lw then addE S lw t else S, lw, rd ++ [(t : Int)]) := by
      unfold stepA
      rw [hw, ht]
      simp
    rw [hst]
    refine ⟨fun u v => ?_, ?_, fun x => ?_⟩
    · simp only
      rw [h1 u v, hsplit u v]
      simp only [hw, Bool.false_eq_true, or_false]
    · simp only
      rcases h.lw with ⟨e1, e2⟩ | ⟨p, hp, e1, e2, e3⟩
      · refine Or.inl ⟨e1, fun r hr => ?_⟩
        by_cases x : r = k
        · subst x; exact hw
        · exact e2 r (by omega)
      · refine Or.inr ⟨p, by omega, e1, e2, fun r a b => ?_⟩
        by_cases x : r = k
        · subst x; exact hw
        · exact e3 r a (by omega)
    · simp only
      rw [List.mem_append, List.mem_singleton]
      have := h.rd x
      simp only at this
      rw [this]
      constructor
      · rintro (⟨p, a, b, c⟩ | rfl)
        · exact ⟨p, by omega, b, fun r d e => by
            by_cases y : r = k
            · subst y; exact hw
            · exact c r d (by omega)⟩
        · exact ⟨k, by omega, ht, fun r d e => by
            have : r = k := by omega
            subst this; exact hw⟩
      · rintro ⟨p, a, b, c⟩
        by_cases y : p = k
        · subst y; right; rw [← b, ht]
        · left; exact ⟨p, by omega, b, fun r d e => c r d (by omega)⟩
  | true =>
    have hst : stepA (S, lw, rd) (gp2 l k) = (rd.foldl (fun S r => addE S r (t : Int)) (if 0 ≤ lw then addE S lw t else S), (t : Int), []) := by
      unfold stepA
      rw [hw, ht]
      simp
    rw [hst]
    refine ⟨fun u v => ?_, Or.inr ⟨k, by omega, hw, ht, fun r a b => by omega⟩, fun x => ?_⟩
    · simp only
      rw [mem_foldE _ _ _ _ _ hrd, h1 u v, hsplit u v]
      have hr := h.rd u
      simp only at hr
      rw [hr]
      constructor
      · rintro ((a | a | ⟨b, c, p, d1, d2, d3, d4⟩) | ⟨⟨p, a, b, c⟩, d, e⟩)
        · exact Or.inl a
        · exact Or.inr (Or.inl a)
        · exact Or.inr (Or.inr ⟨b, c, p, d1, d2, Or.inl d3, d4⟩)
        · exact Or.inr (Or.inr ⟨d, e, p, a, b, Or.inr hw, fun r x y => c r (by omega) y⟩)
      · rintro (a | a | ⟨b, c, p, d1, d2, d3, d4⟩)
        · exact Or.inl (Or.inl a)
        · exact Or.inl (Or.inr (Or.inl a))
        · cases hp : (gp2 l p).2 with
          | true => exact Or.inl (Or.inr (Or.inr ⟨b, c, p, d1, d2, hp, d4⟩))
          | false =>
            refine Or.inr ⟨⟨p, d1, d2, fun r x y => ?_⟩, b, c⟩
            by_cases z : r = p
            · subst z; exact hp
            · exact d4 r (by omega) y
    · simp only
      constructor
      · intro hx; simp at hx
      · rintro ⟨p, a, b, c⟩
        have := c k (by omega) (by omega)
        rw [hw] at this; cases this
theorem stK_inv (S0 : Nat → List Int) (l : List (Int × Bool)) (hix : ∀ p, p < l.length → ∃ t : Nat, (gp2 l p).1 = t) : ∀ k, k ≤ l.length → StI S0 l k (stK S0 l k)
  | 0, _ => ⟨fun u v => by
      constructor
      · intro h; exact Or.inl (by simpa [stK] using h)
      · rintro (h | ⟨p, q, a, b, _⟩)
        · simpa [stK] using h
        · omega, Or.inl ⟨by simp [stK], fun r hr => by omega⟩, fun x => by
      constructor
      · intro h; simp [stK] at h
      · rintro ⟨p, a, _⟩; omega⟩
  | k + 1, hk => by
    rw [stK_succ S0 l k (by omega)]
    exact (stK_inv S0 l hix k (by omega)).step (fun p hp => hix p (by omega))
theorem redJ_mem (acc : Nat → List (Int × Bool)) (u : Nat) (v : Int) : ∀ m, (∀ j, j < m → ∀ p, p < (acc j).length → ∃ t : Nat, (gp2 (acc j) p).1 = t) → (v ∈ redJ acc m u ↔ ∃ j, j < m ∧ EdK (acc j) (acc j).length u v)
  | 0, _ => by simp [redJ]
  | m + 1, h => by
    rw [redJ_succ, (stK_inv (redJ acc m) (acc m) (h m (by omega)) (acc m).length (Nat.le_refl _)).e u v, redJ_mem acc u v m (fun j hj => h j (by omega))]
    constructor
    · rintro (⟨j, a, b⟩ | b)
      · exact ⟨j, by omega, b⟩
      · exact ⟨m, by omega, b⟩
    · rintro ⟨j, a, b⟩
      by_cases e : j = m
      · subst e; exact Or.inr b
      · exact Or.inl ⟨j, by omega, b⟩
/-- A closed set that holds an operation's transaction holds that of every later conflicting one. -/
theorem closed_reach (l : List (Int × Bool)) (M : Int → Prop) (hix : ∀ p, p < l.length → ∃ t : Nat, (gp2 l p).1 = t) (hM : ∀ (u : Nat) v, EdK l l.length u v → M u → M v) : ∀ d p q, q - p ≤ d → p < q → q < l.length → ((gp2 l p).2 = true ∨ (gp2 l q).2 = true) → M (gp2 l p).1 → M (gp2 l q).1
  | 0, p, q, hd, hpq, _, _, _ => by omega
  | d + 1, p, q, hd, hpq, hq, hw, hm => by
    by_cases hb : ∃ r, p < r ∧ r < q ∧ (gp2 l r).2 = true
    · obtain ⟨r, a, b, c⟩ := hb
      have h1 := closed_reach l M hix hM d p r (by omega) a (by omega) (Or.inr c) hm
      exact closed_reach l M hix hM d r q (by omega) b hq (Or.inl c) h1
    · by_cases e : (gp2 l p).1 = (gp2 l q).1
      · rw [← e]; exact hm
      · obtain ⟨u, hu⟩ := hix p (by omega)
        refine hM u (gp2 l q).1 ⟨p, q, hpq, hq, hu, rfl, by rw [← hu]; exact e, hw, fun r a b => ?_⟩ (by rw [← hu]; exact hm)
        cases hr : (gp2 l r).2 with
        | false => rfl
        | true => exact absurd ⟨r, a, b, hr⟩ hb

/-! ### From the history to the items' lists and back -/
theorem sublist_pair {α : Type} (d : α) : ∀ {l1 l2 : List α}, l1.Sublist l2 → ∀ p q, p < q → q < l1.length → ∃ p' q', p' < q' ∧ q' < l2.length ∧ l2.getD p' d = l1.getD p d ∧ l2.getD q' d = l1.getD q d := by
  intro l1 l2 h
  induction h with
  | slnil => intro p q _ hq; simp at hq
  | cons a h ih =>
    intro p q hpq hq
    obtain ⟨p', q', a1, a2, a3, a4⟩ := ih p q hpq hq
    exact ⟨p' + 1, q' + 1, by omega, by simp; omega, by simpa using a3, by simpa using a4⟩
  | @cons_cons l₁ l₂ a h ih =>
    intro p q hpq hq
    cases q with
    | zero => omega
    | succ q =>
      have hq' : q < l₁.length := by simpa using hq
      cases p with
      | zero =>
        have hm : ∀ {l1 l2 : List α}, l1.Sublist l2 → ∀ q, q < l1.length → ∃ q', q' < l2.length ∧ l2.getD q' d = l1.getD q d := by
          intro l1 l2 h q hq
          have hmem : l1.getD q d ∈ l2 := h.subset (getD_mem d hq)
          exact mem_getD hmem
        obtain ⟨q', b1, b2⟩ := hm h q hq'
        exact ⟨0, q' + 1, by omega, by simp; omega, by simp, by simpa using b2⟩
      | succ p =>
        obtain ⟨p', q', a1, a2, a3, a4⟩ := ih p q (by omega) hq'
        exact ⟨p' + 1, q' + 1, by omega, by simp; omega, by simpa using a3, by simpa using a4⟩
def itemF (G : List Int) (L : List Ac) (j : Nat) : List Ac := L.filter fun a => decide (a.item = (j : Int)) && decide (a.tx ∈ G)
def enc (G : List Int) (a : Ac) : Int × Bool := ((G.idxOf a.tx : Int), a.wr)
theorem itemL_eq (G : List Int) (L : List Ac) (j : Nat) : itemL G L j = (itemF G L j).map (enc G) := rfl
theorem itemL_getD (G : List Int) (L : List Ac) (j k : Nat) (hk : k < (itemL G L j).length) : gp2 (itemL G L j) k = enc G ((itemF G L j).getD k a0) := by
  have hk' : k < (itemF G L j).length := by rw [itemL_eq, List.length_map] at hk; exact hk
  unfold gp2
  rw [itemL_eq, List.getD_eq_getElem?_getD, List.getElem?_map, List.getElem?_eq_getElem hk', List.getD_eq_getElem?_getD, List.getElem?_eq_getElem hk']
  rfl
theorem itemF_at (G : List Int) (L : List Ac) (j k : Nat) (hk : k < (itemF G L j).length) : ((itemF G L j).getD k a0).item = (j : Int) ∧ ((itemF G L j).getD k a0).tx ∈ G := by
  have := (List.mem_filter.1 (getD_mem a0 hk)).2
  simp only [Bool.and_eq_true, decide_eq_true_eq] at this
  exact this
theorem idx_inj {G : List Int} {x y : Int} (hx : x ∈ G) (hy : y ∈ G) (h : G.idxOf x = G.idxOf y) : x = y := by
  have h1 := List.getElem_idxOf (List.idxOf_lt_length_of_mem hx)
  have h2 := List.getElem_idxOf (List.idxOf_lt_length_of_mem hy)
  rw [← h1, ← h2]
  simp only [h]
theorem getD_idxOf {G : List Int} {x : Int} (hx : x ∈ G) : G.getD (G.idxOf x) 0 = x := by
  rw [List.getD_eq_getElem?_getD, List.getElem?_eq_getElem (List.idxOf_lt_length_of_mem hx)]
  exact List.getElem_idxOf (List.idxOf_lt_length_of_mem hx)
theorem ix_of_item (G : List Int) (A : List Ac) (j p : Nat) (hp : p < (itemL G A j).length) : ∃ t : Nat, (gp2 (itemL G A j) p).1 = t := by
  obtain ⟨t, ht, _⟩ := itemL_ix G A j p hp
  exact ⟨t, ht⟩
/-- Every edge is a conflict. -/
theorem edge_sound {G : List Int} {A : List Ac} {m u : Nat} {v : Int} (h : v ∈ redJ (itemL G A) m u) : ∃ v' : Nat, v = v' ∧ v' < G.length ∧ u < G.length ∧ u ≠ v' ∧ Cf A (G.getD u 0) (G.getD v' 0) := by
  rw [redJ_mem _ _ _ _ (fun j _ p hp => ix_of_item G A j p hp)] at h
  obtain ⟨j, hj, p, q, hpq, hq, hu, hv, hne, hw, _⟩ := h
  rw [itemL_getD G A j p (by omega)] at hu hw
  rw [itemL_getD G A j q hq] at hv hw
  have hl : (itemL G A j).length = (itemF G A j).length := by rw [itemL_eq, List.length_map]
  have ip := itemF_at G A j p (by omega)
  have iq := itemF_at G A j q (by omega)
  obtain ⟨p', q', a1, a2, a3, a4⟩ := sublist_pair a0 (List.filter_sublist (p := fun a => decide (a.item = (j : Int)) && decide (a.tx ∈ G)) (l := A)) p q hpq (by have := hl; unfold itemF at this; omega)
  generalize hP : (itemF G A j).getD p a0 = P at *
  generalize hQ : (itemF G A j).getD q a0 = Q at *
  have hP' : A.getD p' a0 = P := by rw [← hP]; exact a3
  have hQ' : A.getD q' a0 = Q := by rw [← hQ]; exact a4
  have hu' : G.idxOf P.tx = u := by have : (G.idxOf P.tx : Int) = u := hu; omega
  have hv' : (G.idxOf Q.tx : Int) = v := hv
  have hun : u < G.length := by rw [← hu']; exact List.idxOf_lt_length_of_mem ip.2
  have e1 : G.getD u 0 = P.tx := by rw [← hu']; exact getD_idxOf ip.2
  have e2 : G.getD (G.idxOf Q.tx) 0 = Q.tx := getD_idxOf iq.2
  have hne' : u ≠ G.idxOf Q.tx := by omega
  refine ⟨G.idxOf Q.tx, hv'.symm, List.idxOf_lt_length_of_mem iq.2, hun, hne', ?_, p', q', a1, a2, ?_, ?_, ?_, ?_⟩
  · rw [e1, e2]
    intro e
    apply hne'
    rw [← hu', e]
  · rw [hP', e1]
  · rw [hQ', e2]
  · rw [hP', hQ', ip.1, iq.1]
  · rw [hP', hQ']; exact hw
theorem filter_pos {α : Type} (f : α → Bool) (d : α) (l : List α) (i : Nat) (hi : i < l.length) (hf : f (l.getD i d) = true) : ((l.take i).filter f).length < (l.filter f).length ∧ (l.filter f).getD ((l.take i).filter f).length d = l.getD i d := by
  have e : l = l.take i ++ l.getD i d :: l.drop (i + 1) := by
    rw [List.getD_eq_getElem?_getD, List.getElem?_eq_getElem hi]
    simp
  have e2 : l.filter f = (l.take i).filter f ++ l.getD i d :: (l.drop (i + 1)).filter f := by
    conv => lhs; rw [e]
    rw [List.filter_append, List.filter_cons, if_pos hf]
  rw [e2]
  constructor
  · simp
  · simp [List.getD_eq_getElem?_getD]
theorem filter_mono {α : Type} (f : α → Bool) (d : α) (l : List α) (i j : Nat) (hij : i < j) (hj : j < l.length) (hf : f (l.getD i d) = true) : ((l.take i).filter f).length < ((l.take j).filter f).length := by
  have h1 := filter_pos f d (l.take j) i (by rw [List.length_take]; omega) (by
    have : (l.take j).getD i d = l.getD i d := by simp [List.getD_eq_getElem?_getD, List.getElem?_take, hij]
    rw [this]; exact hf)
  rw [List.take_take, Nat.min_eq_left (by omega)] at h1
  exact h1.1
/-- Every conflicting pair is joined by a path. -/
theorem conflict_complete {G : List Int} {A : List Ac} {m : Nat} (hI : ∀ i, i < A.length → 0 ≤ (A.getD i a0).item ∧ (A.getD i a0).item < m) (M : Int → Prop) (hM : ∀ (u : Nat) v, v ∈ redJ (itemL G A) m u → M u → M v) {i j : Nat} (hij : i < j) (hj : j < A.length) (gi : (A.getD i a0).tx ∈ G) (gj : (A.getD j a0).tx ∈ G) (hit : (A.getD i a0).item = (A.getD j a0).item) (hw : (A.getD i a0).wr = true ∨ (A.getD j a0).wr = true) (hm : M (G.idxOf (A.getD i a0).tx : Int)) : M (G.idxOf (A.getD j a0).tx : Int) := by
  obtain ⟨it, hit0⟩ : ∃ it : Nat, (A.getD i a0).item = it := ⟨(A.getD i a0).item.toNat, by have := (hI i (by omega)).1; omega⟩
  have hitm : it < m := by have := (hI i (by omega)).2; omega
  obtain ⟨ff, hff⟩ : ∃ ff : Ac → Bool, ff = fun a => decide (a.item = (it : Int)) && decide (a.tx ∈ G) := ⟨_, rfl⟩
  have fi : ff (A.getD i a0) = true := by rw [hff]; simp only [Bool.and_eq_true, decide_eq_true_eq]; exact ⟨hit0, gi⟩
  have fj : ff (A.getD j a0) = true := by rw [hff]; simp only [Bool.and_eq_true, decide_eq_true_eq]; exact ⟨by rw [← hit]; exact hit0, gj⟩
  have pi := filter_pos ff a0 A i (by omega) fi
  have pj := filter_pos ff a0 A j hj fj
  have mono := filter_mono ff a0 A i j hij hj fi
  generalize ((A.take i).filter ff).length = p at pi mono
  generalize ((A.take j).filter ff).length = q at pj mono
  have hFF : itemF G A it = A.filter ff := by rw [hff]; rfl
  have hl : (itemL G A it).length = (A.filter ff).length := by rw [itemL_eq, List.length_map, hFF]
  have ep : gp2 (itemL G A it) p = enc G (A.getD i a0) := by rw [itemL_getD G A it p (by omega), hFF, pi.2]
  have eq : gp2 (itemL G A it) q = enc G (A.getD j a0) := by rw [itemL_getD G A it q (by omega), hFF, pj.2]
  have := closed_reach (itemL G A it) M (fun p hp => ix_of_item G A it p hp) (fun u v he hu => hM u v ((redJ_mem _ _ _ _ (fun j _ p hp => ix_of_item G A j p hp)).2 ⟨it, hitm, he⟩) hu) (q - p) p q (Nat.le_refl _) mono (by omega) (by rw [ep, eq]; exact hw) (by rw [ep]; exact hm)
  rw [eq] at this
  exact this
end Go.Proofs.Qxb6626314a
