/-
  Seat b6626314a: slices.siftDownOrdered, heapSortOrdered at int32.
-/
import Derived.Test.Qxb6626314aB
import Derived.Sort.LotB
namespace Go.Proofs.Qxb6626314a
open Go.RowKit Go.Maps Go.Sort
set_option linter.unusedVariables false

theorem sdEnd {hi F root : Nat} (d : Array Int) (h : hi ≤ 2 * root + 1) : siftDown ltInt hi F root d = d := by rw [siftDown, dif_pos h]
theorem sdRight {hi F root : Nat} (d : Array Int) (h1 : 2 * root + 2 < hi) (h2 : ltInt d[F + (2 * root + 1)]! d[F + (2 * root + 2)]! = true) : siftDown ltInt hi F root d = if ltInt d[F + root]! d[F + (2 * root + 2)]! = true then siftDown ltInt hi F (2 * root + 2) (swp d (F + root) (F + (2 * root + 2))) else d := by
  rw [siftDown, dif_neg (by omega), if_pos (by simp [h1]; exact h2)]
  cases ltInt d[F + root]! d[F + (2 * root + 2)]! with
  | true => simp [h1]
  | false => simp
theorem sdLeft {hi F root : Nat} (d : Array Int) (h0 : 2 * root + 1 < hi) (h1 : 2 * root + 2 < hi → ltInt d[F + (2 * root + 1)]! d[F + (2 * root + 2)]! = false) : siftDown ltInt hi F root d = if ltInt d[F + root]! d[F + (2 * root + 1)]! = true then siftDown ltInt hi F (2 * root + 1) (swp d (F + root) (F + (2 * root + 1))) else d := by
  rw [siftDown, dif_neg (by omega), if_neg (by
    intro hh
    simp only [Bool.and_eq_true, decide_eq_true_eq] at hh
    have := h1 hh.1
    rw [show F + (2 * root + 1) + 1 = F + (2 * root + 2) by omega] at hh
    rw [this] at hh
    cases hh.2)]
  cases ltInt d[F + root]! d[F + (2 * root + 1)]! with
  | true => simp
  | false => simp

set_option maxHeartbeats 2000000 in
theorem sift32 (base g cap lo hi F n : Nat) (d : Array Int) (w : World) (hd : d.size = n) (hR : Rw w base g cap d) (hlo : lo ≤ hi) (hb : F + hi ≤ n) (hn : n ≤ 100000000) :
    Calls Try.prog 63 #[.slice (some ⟨g, 0, none⟩) n cap, .int .i64 lo, .int .i64 hi, .int .i64 F] w fun e w' => e = .returned (.tuple #[]) ∧ Rw w' base g cap (siftDown ltInt hi F lo d) ∧ (siftDown ltInt hi F lo d).size = n ∧ KeepF (fun k => k = g) w w' := by
  have HR : Hid _ := hR
  have HD : Hid _ := hd
  clear hR hd
  go_enter Try.func63, Try.ntmps63
  go_wp2_with fail
  go_loopw [8] (fun v wr => ∃ (root : Nat) (dk : Array Int), v = .int .i64 root ∧ root ≤ hi ∧ Hid (dk.size = n ∧ Rw wr base g cap dk ∧ siftDown ltInt hi F root dk = siftDown ltInt hi F lo d ∧ KeepF (fun k => k = g) w wr)) (fun v _ => hi - (intOf v).toNat)
  case atStart => exact ⟨lo, d, rfl, hlo, ⟨HD.out, HR.out, rfl, KeepF.refl _ _⟩⟩
  case round =>
    obtain ⟨root, dk, rfl, hr, HO⟩ := hrel
    clear HR HD
    have HRET : Hid (siftDown ltInt hi F root dk = dk → ∀ wx : World, Rw wx base g cap dk → KeepF (fun k => k = g) w wx → Rw wx base g cap (siftDown ltInt hi F lo d) ∧ (siftDown ltInt hi F lo d).size = n ∧ KeepF (fun k => k = g) w wx) := fun e wx h1 h2 => by
      rw [← HO.out.2.2.1, e]
      exact ⟨h1, HO.out.1, h2⟩
    by_cases h0 : hi ≤ 2 * root + 1
    · have h0' : (hi : Int) ≤ 2 * (root : Int) + 1 := by omega
      have HF : Hid _ := HRET.out (sdEnd dk h0) wr HO.out.2.1 HO.out.2.2.2
      go_wp2_with fail
      go_end0
      exact ⟨rfl, HF.out⟩
    · have h0' : ¬ ((hi : Int) ≤ 2 * (root : Int) + 1) := by omega
      obtain ⟨G, hG, hc, hf⟩ := Rw.fam HO.out.2.1
      rw [HO.out.1] at hc hf
      have HG : Hid _ := hG
      clear hG
      by_cases h1 : 2 * root + 2 < hi
      · have h1' : 2 * (root : Int) + 1 + 1 < (hi : Int) := by omega
        have c1 := hc (F + (2 * root + 1)) (by omega)
        have c2 := hc (F + (2 * root + 1) + 1) (by omega)
        have m1 : (F : Int) + (2 * (root : Int) + 1) < (n : Int) := by omega
        have m2 : (F : Int) + (2 * (root : Int) + 1) + 1 < (n : Int) := by omega
        have m3 : (0 : Int) ≤ (F : Int) + (2 * (root : Int) + 1) := by omega
        have m4 : (0 : Int) ≤ (F : Int) + (2 * (root : Int) + 1) + 1 := by omega
        have ee : G (F + (2 * root + 1) + 1) = G (F + (2 * root + 2)) := by congr 1
        by_cases hr : G (F + (2 * root + 1)) < G (F + (2 * root + 1) + 1)
        · have hr1 : decide (G (F + (2 * root + 1)) < G (F + (2 * root + 1) + 1)) = true := decide_eq_true hr
          have c3 := hc (F + root) (by omega)
          have c4 := hc (F + (2 * root + 1 + 1)) (by omega)
          have z3 := hf (F + root) (by omega)
          have z4 := hf (F + (2 * root + 1 + 1)) (by omega)
          have m5 : (F : Int) + (root : Int) < (n : Int) := by omega
          have m6 : (F : Int) + (2 * (root : Int) + 1 + 1) < (n : Int) := by omega
          have m7 : (0 : Int) ≤ (F : Int) + (root : Int) := by omega
          have m8 : (0 : Int) ≤ (F : Int) + (2 * (root : Int) + 1 + 1) := by omega
          have hne : F + root ≠ F + (2 * root + 1 + 1) := by omega
          skip
          clear hc hf
          by_cases hl : G (F + root) < G (F + (2 * root + 1 + 1))
          · have hl' : decide (G (F + root) < G (F + (2 * root + 1 + 1))) = true := decide_eq_true hl
            have hN : siftDown ltInt hi F (2 * root + 2) (swp dk (F + root) (F + (2 * root + 2))) = siftDown ltInt hi F lo d := by
              rw [← HO.out.2.2.1, sdRight dk h1 (by rw [← HG.out, ← HG.out]; rw [← ee]; exact hr1), if_pos (by rw [← HG.out, ← HG.out]; exact hl')]
            have HN : Hid _ := hN
            clear hN
            have HSW : Hid (∀ wx : World, Rw wx base g cap dk → Rw ((wx.setCell ⟨g, F + root, none⟩ (.int .i32 (G (F + (2 * root + 1 + 1))))).setCell ⟨g, F + (2 * root + 1 + 1), none⟩ (.int .i32 (G (F + root)))) base g cap (swp dk (F + root) (F + (2 * root + 2)))) := fun wx hx => by
              rw [HG.out, HG.out]
              exact hx.swap _ _
            clear ee
            go_wp2_with fail
            go_quiet (first | (go_at_call 54; refine Calls.quiet_of_same (less32 _ _ _)))
            go_wp2_with fail
            obtain ⟨wq, hwq⟩ : ∃ wq, wq = wr.drewN nq := ⟨_, rfl⟩
            rw [← hwq]
            have hbq : Below wr.heap.size wr wq := by rw [hwq]; exact below_drewN (Below.refl _ _) nq
            have c3 := cell_later hbq c3
            have c4 := cell_later hbq c4
            have z3 : wq.frozen? ⟨g, F + root, none⟩ = false := by rw [hwq]; exact z3
            have z4 : wq.frozen? ⟨g, F + (2 * root + 1 + 1), none⟩ = false := by rw [hwq]; exact z4
            have HRQ : Hid (Rw wq base g cap dk ∧ KeepF (fun k => k = g) w wq) := by rw [hwq]; exact ⟨HO.out.2.1.drewN nq, HO.out.2.2.2.drewN nq⟩
            clear hwq hbq
            go_quiet (first | (go_at_call 54; refine Calls.quiet_of_same (less32 _ _ _)))
            go_wp2_with fail
            go_region
            all_goals go_wp2_with fail
            go_roundw
            case rel =>
              refine ⟨(2 * root + 2), _, by go_num, by omega, ⟨by simp [swp]; exact HO.out.1, ?_, HN.out, ((HRQ.out.2.drewN _).setCell _ rfl).setCell _ rfl⟩⟩
              exact HSW.out _ (HRQ.out.1.drewN _)
            case measure => simp [intOf]; omega
          · have hl' : decide (G (F + root) < G (F + (2 * root + 1 + 1))) = false := decide_eq_false hl
            have HF : Hid _ := HRET.out (by rw [sdRight dk h1 (by rw [← HG.out, ← HG.out]; rw [← ee]; exact hr1), if_neg (by rw [← HG.out, ← HG.out]; simpa [ltInt] using hl)])
            clear ee
            go_wp2_with fail
            go_quiet (first | (go_at_call 54; refine Calls.quiet_of_same (less32 _ _ _)))
            go_wp2_with fail
            obtain ⟨wq, hwq⟩ : ∃ wq, wq = wr.drewN nq := ⟨_, rfl⟩
            rw [← hwq]
            have hbq : Below wr.heap.size wr wq := by rw [hwq]; exact below_drewN (Below.refl _ _) nq
            have c3 := cell_later hbq c3
            have c4 := cell_later hbq c4
            have z3 : wq.frozen? ⟨g, F + root, none⟩ = false := by rw [hwq]; exact z3
            have z4 : wq.frozen? ⟨g, F + (2 * root + 1 + 1), none⟩ = false := by rw [hwq]; exact z4
            have HRQ : Hid (Rw wq base g cap dk ∧ KeepF (fun k => k = g) w wq) := by rw [hwq]; exact ⟨HO.out.2.1.drewN nq, HO.out.2.2.2.drewN nq⟩
            clear hwq hbq
            go_quiet (first | (go_at_call 54; refine Calls.quiet_of_same (less32 _ _ _)))
            go_wp2_with fail
            refine bodyPost_ret (results_none rfl _ _ _) rfl ?_
            exact ⟨rfl, HF.out _ (HRQ.out.1.drewN _) (HRQ.out.2.drewN _)⟩
        · have hr1 : decide (G (F + (2 * root + 1)) < G (F + (2 * root + 1) + 1)) = false := decide_eq_false hr
          have c3 := hc (F + root) (by omega)
          have c4 := hc (F + (2 * root + 1)) (by omega)
          have z3 := hf (F + root) (by omega)
          have z4 := hf (F + (2 * root + 1)) (by omega)
          have m5 : (F : Int) + (root : Int) < (n : Int) := by omega
          have m6 : (F : Int) + (2 * (root : Int) + 1) < (n : Int) := by omega
          have m7 : (0 : Int) ≤ (F : Int) + (root : Int) := by omega
          have m8 : (0 : Int) ≤ (F : Int) + (2 * (root : Int) + 1) := by omega
          have hne : F + root ≠ F + (2 * root + 1) := by omega
          skip
          clear hc hf
          by_cases hl : G (F + root) < G (F + (2 * root + 1))
          · have hl' : decide (G (F + root) < G (F + (2 * root + 1))) = true := decide_eq_true hl
            have hN : siftDown ltInt hi F (2 * root + 1) (swp dk (F + root) (F + (2 * root + 1))) = siftDown ltInt hi F lo d := by
              rw [← HO.out.2.2.1, sdLeft dk (by omega) (fun _ => by rw [← HG.out, ← HG.out]; rw [← ee]; exact hr1), if_pos (by rw [← HG.out, ← HG.out]; exact hl')]
            have HN : Hid _ := hN
            clear hN
            have HSW : Hid (∀ wx : World, Rw wx base g cap dk → Rw ((wx.setCell ⟨g, F + root, none⟩ (.int .i32 (G (F + (2 * root + 1))))).setCell ⟨g, F + (2 * root + 1), none⟩ (.int .i32 (G (F + root)))) base g cap (swp dk (F + root) (F + (2 * root + 1)))) := fun wx hx => by
              rw [HG.out, HG.out]
              exact hx.swap _ _
            clear ee
            go_wp2_with fail
            go_quiet (first | (go_at_call 54; refine Calls.quiet_of_same (less32 _ _ _)))
            go_wp2_with fail
            obtain ⟨wq, hwq⟩ : ∃ wq, wq = wr.drewN nq := ⟨_, rfl⟩
            rw [← hwq]
            have hbq : Below wr.heap.size wr wq := by rw [hwq]; exact below_drewN (Below.refl _ _) nq
            have c3 := cell_later hbq c3
            have c4 := cell_later hbq c4
            have z3 : wq.frozen? ⟨g, F + root, none⟩ = false := by rw [hwq]; exact z3
            have z4 : wq.frozen? ⟨g, F + (2 * root + 1), none⟩ = false := by rw [hwq]; exact z4
            have HRQ : Hid (Rw wq base g cap dk ∧ KeepF (fun k => k = g) w wq) := by rw [hwq]; exact ⟨HO.out.2.1.drewN nq, HO.out.2.2.2.drewN nq⟩
            clear hwq hbq
            go_quiet (first | (go_at_call 54; refine Calls.quiet_of_same (less32 _ _ _)))
            go_wp2_with fail
            go_region
            all_goals go_wp2_with fail
            go_roundw
            case rel =>
              refine ⟨(2 * root + 1), _, by go_num, by omega, ⟨by simp [swp]; exact HO.out.1, ?_, HN.out, ((HRQ.out.2.drewN _).setCell _ rfl).setCell _ rfl⟩⟩
              exact HSW.out _ (HRQ.out.1.drewN _)
            case measure => simp [intOf]; omega
          · have hl' : decide (G (F + root) < G (F + (2 * root + 1))) = false := decide_eq_false hl
            have HF : Hid _ := HRET.out (by rw [sdLeft dk (by omega) (fun _ => by rw [← HG.out, ← HG.out]; rw [← ee]; exact hr1), if_neg (by rw [← HG.out, ← HG.out]; simpa [ltInt] using hl)])
            clear ee
            go_wp2_with fail
            go_quiet (first | (go_at_call 54; refine Calls.quiet_of_same (less32 _ _ _)))
            go_wp2_with fail
            obtain ⟨wq, hwq⟩ : ∃ wq, wq = wr.drewN nq := ⟨_, rfl⟩
            rw [← hwq]
            have hbq : Below wr.heap.size wr wq := by rw [hwq]; exact below_drewN (Below.refl _ _) nq
            have c3 := cell_later hbq c3
            have c4 := cell_later hbq c4
            have z3 : wq.frozen? ⟨g, F + root, none⟩ = false := by rw [hwq]; exact z3
            have z4 : wq.frozen? ⟨g, F + (2 * root + 1), none⟩ = false := by rw [hwq]; exact z4
            have HRQ : Hid (Rw wq base g cap dk ∧ KeepF (fun k => k = g) w wq) := by rw [hwq]; exact ⟨HO.out.2.1.drewN nq, HO.out.2.2.2.drewN nq⟩
            clear hwq hbq
            go_quiet (first | (go_at_call 54; refine Calls.quiet_of_same (less32 _ _ _)))
            go_wp2_with fail
            refine bodyPost_ret (results_none rfl _ _ _) rfl ?_
            exact ⟨rfl, HF.out _ (HRQ.out.1.drewN _) (HRQ.out.2.drewN _)⟩
      · have h1' : decide (2 * (root : Int) + 1 + 1 < (hi : Int)) = false := decide_eq_false (by omega)
        have c3 := hc (F + root) (by omega)
        have c4 := hc (F + (2 * root + 1)) (by omega)
        have z3 := hf (F + root) (by omega)
        have z4 := hf (F + (2 * root + 1)) (by omega)
        have m5 : (F : Int) + (root : Int) < (n : Int) := by omega
        have m6 : (F : Int) + (2 * (root : Int) + 1) < (n : Int) := by omega
        have m7 : (0 : Int) ≤ (F : Int) + (root : Int) := by omega
        have m8 : (0 : Int) ≤ (F : Int) + (2 * (root : Int) + 1) := by omega
        have hne : F + root ≠ F + (2 * root + 1) := by omega
        skip
        clear hc hf
        by_cases hl : G (F + root) < G (F + (2 * root + 1))
        · have hl' : decide (G (F + root) < G (F + (2 * root + 1))) = true := decide_eq_true hl
          have hN : siftDown ltInt hi F (2 * root + 1) (swp dk (F + root) (F + (2 * root + 1))) = siftDown ltInt hi F lo d := by
            rw [← HO.out.2.2.1, sdLeft dk (by omega) (fun hh => absurd hh h1), if_pos (by rw [← HG.out, ← HG.out]; exact hl')]
          have HN : Hid _ := hN
          clear hN
          have HSW : Hid (∀ wx : World, Rw wx base g cap dk → Rw ((wx.setCell ⟨g, F + root, none⟩ (.int .i32 (G (F + (2 * root + 1))))).setCell ⟨g, F + (2 * root + 1), none⟩ (.int .i32 (G (F + root)))) base g cap (swp dk (F + root) (F + (2 * root + 1)))) := fun wx hx => by
            rw [HG.out, HG.out]
            exact hx.swap _ _
          skip
          go_wp2_with fail
          go_quiet (first | (go_at_call 54; refine Calls.quiet_of_same (less32 _ _ _)))
          go_wp2_with fail
          obtain ⟨wq, hwq⟩ : ∃ wq, wq = wr.drewN nq := ⟨_, rfl⟩
          rw [← hwq]
          have hbq : Below wr.heap.size wr wq := by rw [hwq]; exact below_drewN (Below.refl _ _) nq
          have c3 := cell_later hbq c3
          have c4 := cell_later hbq c4
          have z3 : wq.frozen? ⟨g, F + root, none⟩ = false := by rw [hwq]; exact z3
          have z4 : wq.frozen? ⟨g, F + (2 * root + 1), none⟩ = false := by rw [hwq]; exact z4
          have HRQ : Hid (Rw wq base g cap dk ∧ KeepF (fun k => k = g) w wq) := by rw [hwq]; exact ⟨HO.out.2.1.drewN nq, HO.out.2.2.2.drewN nq⟩
          clear hwq hbq
          go_quiet (first | (go_at_call 54; refine Calls.quiet_of_same (less32 _ _ _)))
          go_wp2_with fail
          go_region
          all_goals go_wp2_with fail
          go_roundw
          case rel =>
            refine ⟨(2 * root + 1), _, by go_num, by omega, ⟨by simp [swp]; exact HO.out.1, ?_, HN.out, ((HRQ.out.2.drewN _).setCell _ rfl).setCell _ rfl⟩⟩
            exact HSW.out _ (HRQ.out.1.drewN _)
          case measure => simp [intOf]; omega
        · have hl' : decide (G (F + root) < G (F + (2 * root + 1))) = false := decide_eq_false hl
          have HF : Hid _ := HRET.out (by rw [sdLeft dk (by omega) (fun hh => absurd hh h1), if_neg (by rw [← HG.out, ← HG.out]; simpa [ltInt] using hl)])
          skip
          go_wp2_with fail
          go_quiet (first | (go_at_call 54; refine Calls.quiet_of_same (less32 _ _ _)))
          go_wp2_with fail
          obtain ⟨wq, hwq⟩ : ∃ wq, wq = wr.drewN nq := ⟨_, rfl⟩
          rw [← hwq]
          have hbq : Below wr.heap.size wr wq := by rw [hwq]; exact below_drewN (Below.refl _ _) nq
          have c3 := cell_later hbq c3
          have c4 := cell_later hbq c4
          have z3 : wq.frozen? ⟨g, F + root, none⟩ = false := by rw [hwq]; exact z3
          have z4 : wq.frozen? ⟨g, F + (2 * root + 1), none⟩ = false := by rw [hwq]; exact z4
          have HRQ : Hid (Rw wq base g cap dk ∧ KeepF (fun k => k = g) w wq) := by rw [hwq]; exact ⟨HO.out.2.1.drewN nq, HO.out.2.2.2.drewN nq⟩
          clear hwq hbq
          go_quiet (first | (go_at_call 54; refine Calls.quiet_of_same (less32 _ _ _)))
          go_wp2_with fail
          refine bodyPost_ret (results_none rfl _ _ _) rfl ?_
          exact ⟨rfl, HF.out _ (HRQ.out.1.drewN _) (HRQ.out.2.drewN _)⟩

theorem tdiv_half (hi : Nat) : ((hi : Int) - 1).tdiv 2 = (((hi - 1) / 2 : Nat) : Int) := by
  cases hi with
  | zero => rfl
  | succ k =>
    rw [show (((k + 1 : Nat) : Int) - 1) = (k : Int) by omega, show k + 1 - 1 = k by omega]
    rw [Int.tdiv_eq_ediv_of_nonneg (by omega)]
    omega

set_option maxHeartbeats 2000000 in
theorem heap32 (base g cap a b n : Nat) (d : Array Int) (w : World) (hd : d.size = n) (hR : Rw w base g cap d) (hab : a ≤ b) (hb : b ≤ n) (hn : n ≤ 100000000) :
    Calls Try.prog 49 #[.slice (some ⟨g, 0, none⟩) n cap, .int .i64 a, .int .i64 b] w fun e w' => e = .returned (.tuple #[]) ∧ Rw w' base g cap (heapSort ltInt d a b) ∧ (heapSort ltInt d a b).size = n ∧ KeepF (fun k => k = g) w w' := by
  have HR : Hid _ := hR
  have HD : Hid _ := hd
  clear hR hd
  go_enter Try.func49, Try.ntmps49
  go_wp2_with fail
  obtain ⟨hi, hhi⟩ : ∃ hi, hi = b - a := ⟨_, rfl⟩
  rw [show (b : Int) - (a : Int) = (hi : Int) by omega, tdiv_half]
  obtain ⟨hh, hhh⟩ : ∃ hh, hh = (hi - 1) / 2 := ⟨_, rfl⟩
  rw [← hhh]
  have HH : Hid _ := And.intro hhi hhh
  have hbb : a + hi ≤ n := by omega
  have hhalf : hh ≤ hi := by omega
  clear hhi hhh
  go_loopw [9] (fun v wr => ∃ (k : Nat) (dk : Array Int), v = .int .i64 ((k : Int) - 1) ∧ k ≤ hh + 1 ∧ Hid (dk.size = n ∧ Rw wr base g cap dk ∧ heapBuild ltInt hi a k dk = heapBuild ltInt hi a (hh + 1) d ∧ KeepF (fun k => k = g) w wr)) (fun v _ => (intOf v + 1).toNat)
  case atStart => exact ⟨hh + 1, d, by congr 1; omega, Nat.le_refl _, ⟨HD.out, HR.out, rfl, KeepF.refl _ _⟩⟩
  case round =>
    obtain ⟨k, dk, rfl, hk, HO⟩ := hrel
    clear HR HD
    cases k with
    | succ k =>
      rw [show ((k + 1 : Nat) : Int) - 1 = (k : Int) by omega]
      have hc := sift32 base g cap k hi a n dk wr HO.out.1 HO.out.2.1 (by omega) (by omega) hn
      have HC : Hid _ := hc
      clear hc
      go_wp2_with fail
      refine Calls.mono HC.out ?_
      rintro e w2 ⟨rfl, h1, h2, h3⟩
      have HN : Hid _ := And.intro h1 (And.intro h2 (HO.out.2.2.2.trans h3))
      clear h1 h2 h3 HC
      go_wp2_with fail
      go_roundw
      case rel => exact ⟨k, _, by go_num, by omega, ⟨HN.out.2.1, HN.out.1, by rw [← HO.out.2.2.1]; rfl, HN.out.2.2⟩⟩
      case measure => simp [intOf] <;> omega
    | zero =>
      rw [show ((0 : Nat) : Int) - 1 = -1 by omega]
      obtain ⟨db, hdb⟩ : ∃ db, db = heapBuild ltInt hi a (hh + 1) d := ⟨_, rfl⟩
      have HB : Hid (dk = db ∧ db = heapBuild ltInt hi a (hh + 1) d) := ⟨by rw [hdb, ← HO.out.2.2.1]; rfl, hdb⟩
      clear hdb
      go_wp2_with fail
      go_loopw [10] (fun v wr2 => ∃ (k : Nat) (dj : Array Int), v = .int .i64 ((k : Int) - 1) ∧ k ≤ hi ∧ Hid (dj.size = n ∧ Rw wr2 base g cap dj ∧ heapPop ltInt a k dj = heapPop ltInt a hi db ∧ KeepF (fun k => k = g) w wr2)) (fun v _ => (intOf v + 1).toNat)
      case atStart => exact ⟨hi, dk, by first | rfl | go_num, Nat.le_refl _, ⟨HO.out.1, HO.out.2.1, by rw [HB.out.1], HO.out.2.2.2⟩⟩
      case round =>
        obtain ⟨k, dj, rfl, hk, HI⟩ := hrel
        cases k with
        | succ k =>
          rw [show ((k + 1 : Nat) : Int) - 1 = (k : Int) by omega]
          obtain ⟨G, hG, hc, hf⟩ := Rw.fam HI.out.2.1
          rw [HI.out.1] at hc hf
          have HG : Hid _ := hG
          have c1 := hc (a + k) (by omega)
          have c2 := hc a (by omega)
          have z1 := hf (a + k) (by omega)
          have z2 := hf a (by omega)
          have m1 : (a : Int) + (k : Int) < (n : Int) := by omega
          have m2 : (a : Int) < (n : Int) := by omega
          have m3 : (0 : Int) ≤ (a : Int) + (k : Int) := by omega
          have m4 : (0 : Int) ≤ (a : Int) := by omega
          have HSW : Hid (∀ wx : World, Rw wx base g cap dj → Rw ((wx.setCell ⟨g, a, none⟩ (.int .i32 (G (a + k)))).setCell ⟨g, a + k, none⟩ (.int .i32 (G a))) base g cap (swp dj a (a + k))) := fun wx hx => by
            rw [HG.out, HG.out]
            exact hx.swap _ _
          have HC : Hid (∀ wx : World, Rw wx base g cap (swp dj a (a + k)) → Calls Try.prog 63 #[.slice (some ⟨g, 0, none⟩) n cap, .int .i64 ((0 : Nat) : Int), .int .i64 k, .int .i64 a] wx fun e w' => e = .returned (.tuple #[]) ∧ Rw w' base g cap (siftDown ltInt k a 0 (swp dj a (a + k))) ∧ (siftDown ltInt k a 0 (swp dj a (a + k))).size = n ∧ KeepF (fun k => k = g) wx w') := fun wx hx => sift32 base g cap 0 k a n _ wx (by simp [swp]; exact HI.out.1) hx (by omega) (by omega) hn
          clear hG hc hf
          by_cases hk0 : k = 0
          · subst hk0
            rw [Nat.add_zero] at c1 z1 HSW
            simp only [Nat.add_zero] at HC
            generalize G a = x2 at *
            rw [show ((0 : Nat) : Int) = 0 by rfl]
            go_wp2_with fail
            go_region
            all_goals go_wp2_with fail
            refine Calls.mono (HC.out _ (Rw.drewN (HSW.out _ HI.out.2.1) 1)) ?_
            rintro e w2 ⟨rfl, h1, h2, h3⟩
            have HN : Hid _ := And.intro h1 (And.intro h2 ((KeepF.drewN ((HI.out.2.2.2.setCell _ rfl).setCell _ rfl) 1).trans h3))
            clear h1 h2 h3 HC
            go_wp2_with fail
            go_roundw
            case rel => exact ⟨0, _, by go_num, by omega, ⟨HN.out.2.1, HN.out.1, by rw [← HI.out.2.2.1]; rfl, HN.out.2.2⟩⟩
            case measure => simp [intOf] <;> omega
          · have hne : a ≠ a + k := by omega
            generalize G (a + k) = x1 at *
            generalize G a = x2 at *
            go_wp2_with fail
            go_region
            all_goals go_wp2_with fail
            refine Calls.mono (HC.out _ (Rw.drewN (HSW.out _ HI.out.2.1) 1)) ?_
            rintro e w2 ⟨rfl, h1, h2, h3⟩
            have HN : Hid _ := And.intro h1 (And.intro h2 ((KeepF.drewN ((HI.out.2.2.2.setCell _ rfl).setCell _ rfl) 1).trans h3))
            clear h1 h2 h3 HC
            go_wp2_with fail
            go_roundw
            case rel => exact ⟨k, _, by go_num, by omega, ⟨HN.out.2.1, HN.out.1, by rw [← HI.out.2.2.1]; rfl, HN.out.2.2⟩⟩
            case measure => simp [intOf] <;> omega
        | zero =>
          rw [show ((0 : Nat) : Int) - 1 = -1 by omega]
          have HF : Hid (Rw wr base g cap (heapSort ltInt d a b) ∧ (heapSort ltInt d a b).size = n ∧ KeepF (fun k => k = g) w wr) := by
            have e : heapSort ltInt d a b = dj := by
              unfold heapSort
              rw [← HH.out.1, ← HH.out.2, ← HB.out.2, ← HI.out.2.2.1]
              rfl
            rw [e]
            exact ⟨HI.out.2.1, HI.out.1, HI.out.2.2.2⟩
          go_wp2_with fail
          go_end0
          exact ⟨rfl, HF.out⟩

end Go.Proofs.Qxb6626314a
