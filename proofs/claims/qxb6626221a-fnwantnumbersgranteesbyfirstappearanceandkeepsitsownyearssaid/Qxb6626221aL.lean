/-
  Seat b6626221a: the plain laws: no Go in sight. 'dst ks': the different ones of ks, in the order of their first places.
-/
namespace Go.Proofs.Qxb6626221a.Pl

abbrev Ky := List UInt8
def add (acc : List Ky) (g : Ky) : List Ky := if g ∈ acc then acc else acc ++ [g]
def dst (ks : List Ky) : List Ky := ks.foldl add []

theorem dst_nil : dst [] = [] := rfl
theorem dst_snoc (ks : List Ky) (g : Ky) : dst (ks ++ [g]) = add (dst ks) g := by simp [dst, List.foldl_append]
theorem fold_prefix (r : List Ky) : ∀ acc : List Ky, ∃ t, r.foldl add acc = acc ++ t := by
  induction r with
  | nil => intro acc; exact ⟨[], by simp⟩
  | cons g r ih =>
    intro acc
    rw [List.foldl_cons]
    obtain ⟨t, ht⟩ := ih (add acc g)
    rw [ht]
    unfold add
    by_cases h : g ∈ acc
    · rw [if_pos h]; exact ⟨t, rfl⟩
    · rw [if_neg h]; exact ⟨[g] ++ t, by simp⟩
theorem dst_append (l r : List Ky) : ∃ t, dst (l ++ r) = dst l ++ t := by
  unfold dst
  rw [List.foldl_append]
  exact fold_prefix r _
theorem mem_fold (r : List Ky) (x : Ky) : ∀ acc : List Ky, x ∈ r.foldl add acc ↔ x ∈ acc ∨ x ∈ r := by
  induction r with
  | nil => intro acc; simp
  | cons g r ih =>
    intro acc
    rw [List.foldl_cons, ih (add acc g)]
    unfold add
    by_cases h : g ∈ acc
    · rw [if_pos h]
      constructor
      · rintro (h1 | h1)
        · exact Or.inl h1
        · exact Or.inr (List.mem_cons_of_mem _ h1)
      · rintro (h1 | h1)
        · exact Or.inl h1
        · rcases List.mem_cons.1 h1 with rfl | h2
          · exact Or.inl h
          · exact Or.inr h2
    · rw [if_neg h]
      simp [or_assoc]
theorem mem_dst (ks : List Ky) (x : Ky) : x ∈ dst ks ↔ x ∈ ks := by
  unfold dst; rw [mem_fold]; simp
theorem take_succ (ks : List Ky) (k : Nat) (h : k < ks.length) : ks.take (k + 1) = ks.take k ++ [ks.getD k []] := by
  rw [List.take_succ_eq_append_getElem h]; simp [h]
theorem dst_take (ks : List Ky) (k : Nat) (h : k < ks.length) : dst (ks.take (k + 1)) = add (dst (ks.take k)) (ks.getD k []) := by
  rw [take_succ ks k h, dst_snoc]
theorem dst_take_new (ks : List Ky) (k : Nat) (h : k < ks.length) (hn : ks.getD k [] ∉ dst (ks.take k)) : dst (ks.take (k + 1)) = dst (ks.take k) ++ [ks.getD k []] := by
  rw [dst_take ks k h, add, if_neg hn]
theorem dst_take_old (ks : List Ky) (k : Nat) (h : k < ks.length) (hn : ks.getD k [] ∈ dst (ks.take k)) : dst (ks.take (k + 1)) = dst (ks.take k) := by
  rw [dst_take ks k h, add, if_pos hn]
theorem take_prefix (ks : List Ky) (k : Nat) : ∃ t, dst ks = dst (ks.take k) ++ t := by
  obtain ⟨t, ht⟩ := dst_append (ks.take k) (ks.drop k)
  rw [List.take_append_drop] at ht
  exact ⟨t, ht⟩
theorem dst_len_le (ks : List Ky) : (dst ks).length ≤ ks.length := by
  have : ∀ (r acc : List Ky), (r.foldl add acc).length ≤ acc.length + r.length := by
    intro r
    induction r with
    | nil => intro acc; simp
    | cons g r ih =>
      intro acc
      rw [List.foldl_cons]
      have h1 := ih (add acc g)
      have h2 : (add acc g).length ≤ acc.length + 1 := by unfold add; split <;> simp
      simp only [List.length_cons]; omega
  simpa [dst] using this ks []

/-- A name's number is settled once it has been met. -/
theorem idx_take (ks : List Ky) (k : Nat) (g : Ky) (hg : g ∈ ks.take k) : (dst ks).idxOf g = (dst (ks.take k)).idxOf g := by
  obtain ⟨t, ht⟩ := take_prefix ks k
  rw [ht, List.idxOf_append, if_pos ((mem_dst _ _).2 hg)]
/-- A name that is first met at place k is given the count of names met before. -/
theorem idx_new (ks : List Ky) (k : Nat) (h : k < ks.length) (hn : ks.getD k [] ∉ ks.take k) : (dst ks).idxOf (ks.getD k []) = (dst (ks.take k)).length := by
  have hm : ks.getD k [] ∈ ks.take (k + 1) := by rw [take_succ ks k h]; simp
  have hn' : ks.getD k [] ∉ dst (ks.take k) := fun e => hn ((mem_dst _ _).1 e)
  rw [idx_take ks (k + 1) _ hm, dst_take_new ks k h hn', List.idxOf_append, if_neg hn']
  simp
theorem mem_take {ks : List Ky} {k j : Nat} (hj : j < k) (hk : j < ks.length) : ks.getD j [] ∈ ks.take k := by
  rw [List.mem_take_iff_getElem]
  exact ⟨j, by omega, by simp [hk]⟩
theorem not_mem_take {ks : List Ky} {k : Nat} {g : Ky} (h : ∀ j, j < k → j < ks.length → ks.getD j [] ≠ g) : g ∉ ks.take k := by
  intro hm
  obtain ⟨j, hj, e⟩ := List.mem_take_iff_getElem.1 hm
  have hj' : j < ks.length := by omega
  exact h j (by omega) hj' (by simp [hj']; exact e)

end Go.Proofs.Qxb6626221a.Pl
