/-
  Seat b6626314a: slices.Compact at int32.
-/
import Derived.Test.Qxb6626314aJ
import Derived.Shelf.SlicesE.Compact
import Derived.Ground.SlgnProg
namespace Go.Proofs
open Go.Shelf
shelf_lay_g SlLaysE.n43 Slgn 43 at Try 31 as Try.comp31
end Go.Proofs
namespace Go.Proofs.Qxb6626314a
open Go.RowKit Go.Maps Go.Sort
set_option linter.unusedVariables false

theorem row_take {w : World} {base e g cap n : Nat} {xs : List Value} (h : w.ownsRow base e 1 (.slice (some ⟨g, 0, none⟩) n cap) n xs) {m : Nat} (hm : m ≤ n) : w.ownsRow base e 1 (.slice (some ⟨g, 0, none⟩) m cap) m (xs.take m) := by
  have hl := h.1
  refine ⟨by simp; omega, ?_⟩
  rcases h.2 with ⟨h', _⟩ | ⟨g', cap', cur, h', hb, hg, hc, hm', hs, ht⟩
  · simp at h'
  · simp only [Value.slice.injEq, Option.some.injEq, Addr.mk.injEq, and_true, true_and] at h'
    obtain ⟨rfl, rfl⟩ := h'
    refine Or.inr ⟨g, cap, cur, rfl, hb, hg, by omega, hm', hs, ?_⟩
    rw [← ht, List.take_take]
    congr 1
    omega
theorem compact_len (d : Array Int) (m : Nat) : (Lib.compactUpTo d m).length ≤ m := by
  unfold Lib.compactUpTo
  rw [List.length_map]
  exact Nat.le_trans (List.length_filter_le _ _) (by simp)
theorem zero21 (w : World) : (zeroValue (Try.comp31_ren.t 23)).run Try.prog w = .ok (.int .i32 0) w := by kernel_rfl

set_option maxRecDepth 100000 in
theorem comp_nil (w : World) : Calls Try.prog 31 #[.slice none 0 0] w fun e w' => e = .returned (.slice none 0 0) ∧ w' = w := by
  go_enter Try.func31, Try.ntmps31
  go_wp2_with fail
  go_ret
  exact ⟨rfl, rfl⟩
theorem compact32 (base : Nat) (v : Value) (n : Nat) (xs : List Int) (w : World) (h : w.ownsRow base 21 1 v n (ints xs)) (hn : n ≤ 100000000) :
    Calls Try.prog 31 #[v] w fun e w' => ∃ v' n', e = .returned v' ∧ w'.ownsRow base 21 1 v' n' (ints (Lib.compact xs)) ∧ v'.ownBlock = v.ownBlock ∧ KeepF (fun k => v.ownBlock = some k) w w' := by
  have hl : xs.length = n := by have := h.1; simpa [ints] using this
  rcases id h.2 with ⟨rfl, rfl⟩ | ⟨g, cap, cur, rfl, hbg, hgh, hcap, _⟩
  · obtain rfl : xs = [] := List.eq_nil_of_length_eq_zero hl
    refine (comp_nil w).mono ?_
    rintro e w1 ⟨rfl, rfl⟩
    exact ⟨_, 0, rfl, ⟨rfl, Or.inl ⟨rfl, rfl⟩⟩, rfl, KeepF.refl _ _⟩
  · have hg : g < w.heap.size := (Array.getElem?_eq_some_iff.1 hgh).1
    have hH : Holds (Value.int .i32) w g 0 xs.toArray := fun j hj => by
      have hj' : j < xs.length := by simpa using hj
      rw [Nat.zero_add]
      refine ⟨?_, h.frozenAt j⟩
      rw [h.cellAt j (by omega)]
      simp [ints, hj']
    have hsz : xs.toArray.size = n := by simpa using hl
    have hc := AnyE.slices_Compact Try.comp31 (Value.int .i32) (fun _ => rfl) (EqlAt.intD _ _ .i32) (NeqAt.intD _ _ .i32) 0 zero21 g 0 cap xs.toArray w hH (by omega) (by omega)
    rw [hsz] at hc
    have he : Lib.compactUpTo xs.toArray n = Lib.compact xs := by unfold Lib.compact; rw [hl]
    have hle := compact_len xs.toArray n
    rw [he] at hc hle
    refine hc.mono ?_
    rintro e w1 ⟨rfl, q, rfl⟩
    have hr := row_put (Value.int .i32) (ys := Lib.compact xs ++ List.replicate (n - (Lib.compact xs).length) 0) h (by simp; omega) q
    have hr2 := row_take hr.1 hle
    refine ⟨_, (Lib.compact xs).length, rfl, ?_, rfl, ⟨hr.2.os, hr.2.tape, hr.2.output, hr.2.size, fun k h1 h2 => hr.2.block k h1 (fun e => h2 (by rw [e]; rfl))⟩⟩
    have e2 : List.take (Lib.compact xs).length (List.map (Value.int .i32) (Lib.compact xs ++ List.replicate (n - (Lib.compact xs).length) 0)) = ints (Lib.compact xs) := by
      rw [← List.map_take, List.take_left]
      rfl
    rw [e2] at hr2
    exact hr2
theorem compact_sorted_aux (d : Array Int) (hs : ∀ i j, i < j → j < d.size → d[i]! ≤ d[j]!) : ∀ m, m ≤ d.size → (∀ x, x ∈ Lib.compactUpTo d m ↔ ∃ j, j < m ∧ d[j]! = x) ∧ (Lib.compactUpTo d m).Pairwise (· < ·)
  | 0, _ => ⟨fun x => by simp [Lib.compactUpTo], by simp [Lib.compactUpTo]⟩
  | m + 1, hm => by
    obtain ⟨h1, h2⟩ := compact_sorted_aux d hs m (by omega)
    rw [Lib.compactUpTo_succ]
    by_cases hk : m = 0 ∨ d[m]! ≠ d[m - 1]!
    · have hk' : Lib.keeps d m = true := by simpa [Lib.keeps] using hk
      rw [if_pos hk']
      refine ⟨fun x => ?_, ?_⟩
      · rw [List.mem_append, h1 x, List.mem_singleton]
        constructor
        · rintro (⟨j, hj, e⟩ | rfl)
          · exact ⟨j, by omega, e⟩
          · exact ⟨m, by omega, rfl⟩
        · rintro ⟨j, hj, e⟩
          by_cases hjm : j = m
          · subst hjm; exact Or.inr e.symm
          · exact Or.inl ⟨j, by omega, e⟩
      · rw [List.pairwise_append]
        refine ⟨h2, List.pairwise_singleton _ _, fun a ha b hb => ?_⟩
        rw [List.mem_singleton] at hb
        subst hb
        obtain ⟨j, hj, rfl⟩ := (h1 a).1 ha
        have h3 := hs (m - 1) m (by omega) (by omega)
        have h4 : d[j]! ≤ d[m - 1]! := by
          by_cases e : j = m - 1
          · subst e; exact Int.le_refl _
          · exact hs j (m - 1) (by omega) (by omega)
        rcases hk with hk | hk
        · omega
        · omega
    · have hk' : ¬ Lib.keeps d m = true := by simpa [Lib.keeps] using hk
      rw [if_neg hk', List.append_nil]
      refine ⟨fun x => ?_, h2⟩
      rw [h1 x]
      have hk2 : m ≠ 0 ∧ d[m]! = d[m - 1]! := by
        refine ⟨fun e => hk (Or.inl e), Classical.byContradiction fun e => hk (Or.inr e)⟩
      constructor
      · rintro ⟨j, hj, e⟩; exact ⟨j, by omega, e⟩
      · rintro ⟨j, hj, e⟩
        by_cases hjm : j = m
        · subst hjm; exact ⟨j - 1, by omega, by rw [← hk2.2]; exact e⟩
        · exact ⟨j, by omega, e⟩
theorem compact_sorted (xs : List Int) (hs : xs.Pairwise (· ≤ ·)) : (∀ x, x ∈ Lib.compact xs ↔ x ∈ xs) ∧ (Lib.compact xs).Pairwise (· < ·) := by
  have h := compact_sorted_aux xs.toArray (fun i j hij hj => by
    have hj' : j < xs.length := by simpa using hj
    rw [List.pairwise_iff_getElem] at hs
    have := hs i j (by omega) hj' hij
    rw [getElem!_pos xs.toArray j hj, getElem!_pos xs.toArray i (by simp; omega)]
    simpa using this) xs.length (by simp)
  refine ⟨fun x => ?_, h.2⟩
  have h1 := h.1 x
  unfold Lib.compact
  rw [h1, List.mem_iff_getElem]
  constructor
  · rintro ⟨j, hj, e⟩
    rw [getElem!_pos xs.toArray j (by simpa using hj)] at e
    exact ⟨j, hj, by simpa using e⟩
  · rintro ⟨j, hj, e⟩
    refine ⟨j, hj, ?_⟩
    rw [getElem!_pos xs.toArray j (by simpa using hj)]
    simpa using e

end Go.Proofs.Qxb6626314a
