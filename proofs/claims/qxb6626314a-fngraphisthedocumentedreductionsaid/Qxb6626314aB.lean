/-
  Seat b6626314a: slices.insertionSortOrdered at int32.
-/
import Derived.Test.Qxb6626314aA
namespace Go.Proofs.Qxb6626314a
open Go.RowKit Go.Maps Go.Sort
set_option linter.unusedVariables false

theorem inner_go (a j : Nat) (d : Array Int) (hj : a < j) (hl : ltInt d[j]! d[j - 1]! = true) : insInner ltInt a j d = insInner ltInt a (j - 1) (swp d j (j - 1)) := by
  cases j with
  | zero => omega
  | succ k =>
    rw [insInner]
    rw [show k + 1 - 1 = k by omega] at hl ⊢
    simp [hj, hl]
theorem inner_stop (a j : Nat) (d : Array Int) (h : j ≤ a ∨ ltInt d[j]! d[j - 1]! = false) : insInner ltInt a j d = d := by
  cases j with
  | zero => rw [insInner]
  | succ k =>
    rw [insInner]
    rw [show k + 1 - 1 = k by omega] at h
    rcases h with h | h
    · simp [show ¬ k + 1 > a by omega]
    · simp [h]
theorem outer_go (a b i : Nat) (d : Array Int) (h : i < b) : insOuter ltInt a b i d = insOuter ltInt a b (i + 1) (insInner ltInt a i d) := by rw [insOuter, if_pos h]
theorem outer_stop (a b i : Nat) (d : Array Int) (h : ¬ i < b) : insOuter ltInt a b i d = d := by rw [insOuter, if_neg h]
/-- The row's cells as a family with a name of its own. -/
theorem Rw.fam {w : World} {base g cap : Nat} {d : Array Int} (h : Rw w base g cap d) : ∃ G : Nat → Int, (∀ t, G t = d[t]!) ∧ (∀ t, t < d.size → w.cell? ⟨g, t, none⟩ = some (.int .i32 (G t))) ∧ ∀ t, t < d.size → w.frozen? ⟨g, t, none⟩ = false :=
  ⟨fun t => d[t]!, fun _ => rfl, fun t ht => h.cell ht, fun t _ => h.frozen t⟩

set_option maxHeartbeats 2000000 in
theorem insertion32 (base g cap a b n : Nat) (d : Array Int) (w : World) (hd : d.size = n) (hR : Rw w base g cap d) (hab : a ≤ b) (hb : b ≤ n) (hn : n ≤ 100000000) :
    Calls Try.prog 48 #[.slice (some ⟨g, 0, none⟩) n cap, .int .i64 a, .int .i64 b] w fun e w' => e = .returned (.tuple #[]) ∧ Rw w' base g cap (insertionSort ltInt d a b) ∧ (insertionSort ltInt d a b).size = n ∧ KeepF (fun k => k = g) w w' := by
  have HR : Hid _ := hR
  have HD : Hid _ := hd
  clear hR hd
  go_enter Try.func48, Try.ntmps48
  go_wp2_with fail
  go_loopw [6] (fun vi wr => ∃ (i : Nat) (dk : Array Int), vi = .int .i64 i ∧ a < i ∧ i ≤ b + 1 ∧ Hid (dk.size = n ∧ Rw wr base g cap dk ∧ insOuter ltInt a b i dk = insOuter ltInt a b (a + 1) d ∧ KeepF (fun k => k = g) w wr)) (fun vi _ => b + 1 - (intOf vi).toNat)
  case atStart => exact ⟨a + 1, d, by go_num, by omega, by omega, ⟨HD.out, HR.out, rfl, KeepF.refl _ _⟩⟩
  case round =>
    obtain ⟨i, dk, rfl, hai, hib, HO⟩ := hrel
    clear HR HD
    by_cases hlt : i < b
    · have hlt' : (i : Int) < (b : Int) := by omega
      go_wp2_with fail
      go_loopw [7] (fun vj wr2 => ∃ (j : Nat) (dj : Array Int), vj = .int .i64 j ∧ a ≤ j ∧ j ≤ i ∧ Hid (dj.size = n ∧ Rw wr2 base g cap dj ∧ insInner ltInt a j dj = insInner ltInt a i dk ∧ KeepF (fun k => k = g) w wr2)) (fun vj _ => (intOf vj).toNat)
      case atStart => exact ⟨i, dk, rfl, by omega, by omega, ⟨HO.out.1, HO.out.2.1, rfl, HO.out.2.2.2⟩⟩
      case round =>
        obtain ⟨j, dj, rfl, haj, hji, HI⟩ := hrel
        have hjn : j < n := by omega
        by_cases hja : a < j
        · obtain ⟨j', rfl⟩ : ∃ j', j = j' + 1 := ⟨j - 1, by omega⟩
          obtain ⟨G, hG, hc, hf⟩ := Rw.fam HI.out.2.1
          rw [HI.out.1] at hc hf
          have HG : Hid _ := hG
          have c1 := hc (j' + 1) (by omega)
          have c2 := hc j' (by omega)
          have z1 := hf (j' + 1) (by omega)
          have z2 := hf j' (by omega)
          have hj1 : (j' : Int) + 1 < (n : Int) := by omega
          have hj2 : (j' : Int) < (n : Int) := by omega
          have hj3 : (0 : Int) ≤ (j' : Int) := by omega
          have hj4 : (a : Int) < (j' : Int) + 1 := by omega
          clear hG hc hf
          by_cases hl : G (j' + 1) < G j'
          · have hl' : decide (G (j' + 1) < G j') = true := decide_eq_true hl
            generalize hg1 : G (j' + 1) = x1 at *
            generalize hg2 : G j' = x2 at *
            go_wp2_with fail
            go_quiet (first | (go_at_call 54; refine Calls.quiet_of_same (less32 _ _ _)))
            go_wp2_with fail
            go_region
            all_goals go_wp2_with fail
            go_roundw
            case rel =>
              refine ⟨j', swp dj (j' + 1) j', by go_num, by omega, by omega, ⟨by simp [swp, HI.out.1], ?_, ?_, ((HI.out.2.2.2.drewN _).setCell _ rfl).setCell _ rfl⟩⟩
              · have := (HI.out.2.1.drewN (nq + 1)).swap (j' + 1) j'
                rw [← HG.out, ← HG.out, hg1, hg2] at this
                exact this
              · rw [← HI.out.2.2.1, inner_go a (j' + 1) dj (by omega) (by rw [Nat.add_sub_cancel, ← HG.out, ← HG.out, hg1, hg2]; exact hl')]
                rfl
            case measure => simp [intOf]
          · have hl' : decide (G (j' + 1) < G j') = false := decide_eq_false hl
            have HS : Hid _ := inner_stop a (j' + 1) dj (Or.inr (by rw [Nat.add_sub_cancel, ← HG.out, ← HG.out]; exact hl'))
            generalize G (j' + 1) = x1 at *
            generalize G j' = x2 at *
            go_wp2_with fail
            go_quiet (first | (go_at_call 54; refine Calls.quiet_of_same (less32 _ _ _)))
            go_wp2_with fail
            go_roundw
            case rel => exact ⟨i + 1, dj, by go_num, by omega, by omega, ⟨HI.out.1, HI.out.2.1.drewN _, by rw [← HO.out.2.2.1, outer_go _ _ _ _ hlt, ← HI.out.2.2.1, HS.out], HI.out.2.2.2.drewN _⟩⟩
            case measure => simp [intOf]; omega
        · have hja' : ¬ ((a : Int) < (j : Int)) := by omega
          have HS : Hid _ := inner_stop a j dj (Or.inl (by omega))
          go_wp2_with fail
          go_quiet (first | (go_at_call 54; refine Calls.quiet_of_same (less32 _ _ _)))
          go_wp2_with fail
          go_roundw
          case rel => exact ⟨i + 1, dj, by go_num, by omega, by omega, ⟨HI.out.1, HI.out.2.1.drewN _, by rw [← HO.out.2.2.1, outer_go _ _ _ _ hlt, ← HI.out.2.2.1, HS.out], HI.out.2.2.2.drewN _⟩⟩
          case measure => simp [intOf]; omega
    · have hlt' : ¬ ((i : Int) < (b : Int)) := by omega
      have HF : Hid (Rw wr base g cap (insertionSort ltInt d a b) ∧ (insertionSort ltInt d a b).size = n ∧ KeepF (fun k => k = g) w wr) := by
        have e : insertionSort ltInt d a b = dk := by
          show insOuter ltInt a b (a + 1) d = dk
          rw [← HO.out.2.2.1, outer_stop _ _ _ _ hlt]
        rw [e]
        exact ⟨HO.out.2.1, HO.out.1, HO.out.2.2.2⟩
      go_wp2_with fail
      go_end0
      exact ⟨rfl, HF.out⟩

end Go.Proofs.Qxb6626314a
