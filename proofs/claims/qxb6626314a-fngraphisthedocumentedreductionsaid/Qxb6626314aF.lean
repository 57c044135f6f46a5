/-
  Seat b6626314a: slices.partialInsertionSortOrdered at int32.
-/
import Derived.Test.Qxb6626314aE
namespace Go.Proofs.Qxb6626314a
open Go.RowKit Go.Maps Go.Sort
set_option linter.unusedVariables false

structure RK (w : World) (base g cap n : Nat) (dk : Array Int) (wr : World) : Prop where
  sz : dk.size = n
  row : Rw wr base g cap dk
  keep : KeepF (fun k => k = g) w wr
theorem RK.drewN {w : World} {base g cap n : Nat} {dk : Array Int} {wr : World} (h : RK w base g cap n dk wr) (m : Nat) : RK w base g cap n dk (wr.drewN m) := ⟨h.sz, h.row.drewN m, h.keep.drewN m⟩
theorem RK.swap {w : World} {base g cap n : Nat} {dk : Array Int} {wr : World} (h : RK w base g cap n dk wr) {x y : Nat} {vx vy : Int} (e1 : vx = dk[y]!) (e2 : vy = dk[x]!) : RK w base g cap n (swp dk x y) ((wr.setCell ⟨g, x, none⟩ (.int .i32 vx)).setCell ⟨g, y, none⟩ (.int .i32 vy)) := by
  subst e1
  subst e2
  exact ⟨by rw [size_swp]; exact h.sz, h.row.swap _ _, (h.keep.setCell _ rfl).setCell _ rfl⟩
theorem ssGo (d : Array Int) (b i : Nat) (h : i < b) (hl : ltInt d[i]! d[i - 1]! = false) : scanSorted ltInt d b i = scanSorted ltInt d b (i + 1) := by
  conv => lhs; rw [scanSorted]
  simp [h, hl]
theorem ssEnd (d : Array Int) (b i : Nat) (h : i < b → ltInt d[i]! d[i - 1]! = true) : scanSorted ltInt d b i = i := by
  rw [scanSorted]
  by_cases e : i < b
  · simp [e, h e]
  · simp [e]
theorem sdGo (d : Array Int) (j : Nat) (h : ltInt d[j + 1]! d[j]! = true) : shiftDown ltInt (j + 1) d = shiftDown ltInt j (swp d (j + 1) j) := by rw [shiftDown]; simp [h]
theorem sdStop (d : Array Int) (j : Nat) (h : ltInt d[j + 1]! d[j]! = false) : shiftDown ltInt (j + 1) d = d := by rw [shiftDown]; simp [h]
theorem suGo (d : Array Int) (b j : Nat) (hb : j < b) (h : ltInt d[j]! d[j - 1]! = true) : shiftUp ltInt b j d = shiftUp ltInt b (j + 1) (swp d j (j - 1)) := by
  conv => lhs; rw [shiftUp]
  simp [hb, h]
theorem suStop (d : Array Int) (b j : Nat) (h : j < b → ltInt d[j]! d[j - 1]! = false) : shiftUp ltInt b j d = d := by
  rw [shiftUp]
  by_cases e : j < b
  · simp [e, h e]
  · simp [e]

def PinP (w : World) (base g cap a b n : Nat) (d : Array Int) (e : Ending) (w' : World) : Prop := e = .returned (.bool (partialInsertionSort ltInt d a b).2) ∧ RK w base g cap n (partialInsertionSort ltInt d a b).1 w'
set_option maxRecDepth 100000 in
set_option maxHeartbeats 8000000 in
theorem pins32 (base g cap a b n : Nat) (d : Array Int) (w : World) (hd : d.size = n) (hR : Rw w base g cap d) (hab : a < b) (hb : b ≤ n) (hn : n ≤ 100000000) :
    Calls Try.prog 53 #[.slice (some ⟨g, 0, none⟩) n cap, .int .i64 a, .int .i64 b] w (PinP w base g cap a b n d) := by
  have HR : Hid (RK w base g cap n d w) := ⟨hd, hR, KeepF.refl _ _⟩
  clear hR hd
  go_enter Try.func53, Try.ntmps53
  go_wp2_with fail
  go_loopw [7, 8] (fun vi vj wr => ∃ (i q : Nat) (dk : Array Int), vi = .int .i64 i ∧ vj = .int .i64 q ∧ a < i ∧ i ≤ b ∧ q ≤ 5 ∧ Hid (RK w base g cap n dk wr ∧ partialIns ltInt a b (5 - q) i dk = partialInsertionSort ltInt d a b)) (fun _ vj _ => 5 - (intOf vj).toNat)
  case atStart => exact ⟨a + 1, 0, d, by go_num, rfl, by omega, by omega, by omega, ⟨HR.out, rfl⟩⟩
  case round =>
    obtain ⟨i, q, dk, rfl, rfl, hai, hib, hq, HO⟩ := hrel
    clear HR
    by_cases hq5 : q < 5
    · have hq5' : (q : Int) < 5 := by omega
      obtain ⟨s, hs⟩ : ∃ s, 5 - q = s + 1 := ⟨4 - q, by omega⟩
      have HEQ : Hid (partialIns ltInt a b (s + 1) i dk = partialInsertionSort ltInt d a b) := by rw [← hs]; exact HO.out.2
      have HS : Hid (5 - q = s + 1) := hs
      clear hs
      go_upto_block 2 with fail
      go_cut [7] from 13 to 132 (fun s7 wc => ∃ i2 : Nat, s7 = .int .i64 i2 ∧ i ≤ i2 ∧ i2 ≤ b ∧ Hid (RK w base g cap n dk wc ∧ scanSorted ltInt dk b i = i2))
      case first =>
        go_wp2_with fail
        go_loopw [7] (fun s wi => ∃ i3 : Nat, s = .int .i64 i3 ∧ i ≤ i3 ∧ i3 ≤ b ∧ Hid (RK w base g cap n dk wi ∧ scanSorted ltInt dk b i3 = scanSorted ltInt dk b i)) (fun s _ => ((b : Int) - intOf s).toNat)
        case atStart => exact ⟨i, rfl, by omega, by omega, ⟨HO.out.1, rfl⟩⟩
        case round =>
          obtain ⟨i3, rfl, hi3, hi4, HQ⟩ := hrel
          by_cases hlt : i3 < b
          · obtain ⟨i4, rfl⟩ : ∃ i4, i3 = i4 + 1 := ⟨i3 - 1, by omega⟩
            have hlt' : (i4 : Int) + 1 < (b : Int) := by omega
            obtain ⟨G, hG, hc, hf⟩ := Rw.fam HQ.out.1.row
            rw [HQ.out.1.sz] at hc hf
            have c1 := hc (i4 + 1) (by omega)
            have z1 := hf (i4 + 1) (by omega)
            have m1 : (i4 : Int) + 1 < (n : Int) := by omega
            have HG1 : Hid _ := hG (i4 + 1)
            have c2 := hc (i4) (by omega)
            have z2 := hf (i4) (by omega)
            have m2 : (i4 : Int) < (n : Int) := by omega
            have HG2 : Hid _ := hG (i4)
            clear hG hc hf
            clear HO
            by_cases hl : G (i4 + 1) < G i4
            · have hl' : decide (G (i4 + 1) < G i4) = true := decide_eq_true hl
              have HE : Hid (scanSorted ltInt dk b i = i4 + 1) := by
                rw [← HQ.out.2]
                exact ssEnd dk b (i4 + 1) (fun _ => by rw [Nat.add_sub_cancel, ← HG1.out, ← HG2.out]; exact hl')
              generalize G (i4 + 1) = x1 at *
              generalize G i4 = x2 at *
              go_wp2_with fail
              go_quiet (first | (go_at_call 54; refine Calls.quiet_of_same (less32 _ _ _)))
              go_wp2_with fail
              go_meet
              case rel => exact ⟨i4 + 1, by go_num, by omega, by omega, ⟨HQ.out.1.drewN _, HE.out⟩⟩
            · have hl' : decide (G (i4 + 1) < G i4) = false := decide_eq_false hl
              have HE : Hid (scanSorted ltInt dk b (i4 + 1 + 1) = scanSorted ltInt dk b i) := by
                rw [← HQ.out.2]
                exact (ssGo dk b (i4 + 1) (by omega) (by rw [Nat.add_sub_cancel, ← HG1.out, ← HG2.out]; exact hl')).symm
              generalize G (i4 + 1) = x1 at *
              generalize G i4 = x2 at *
              go_wp2_with fail
              go_quiet (first | (go_at_call 54; refine Calls.quiet_of_same (less32 _ _ _)))
              go_wp2_with fail
              go_roundw
              case rel => exact ⟨i4 + 1 + 1, by go_num, by omega, by omega, ⟨HQ.out.1.drewN _, HE.out⟩⟩
              case measure => simp [intOf]; omega
          · have hlt' : decide ((i3 : Int) < (b : Int)) = false := decide_eq_false (by omega)
            have HE : Hid (scanSorted ltInt dk b i = i3) := by
              rw [← HQ.out.2]
              exact ssEnd dk b i3 (fun hh => absurd hh hlt)
            go_wp2_with fail
            go_quiet (first | (go_at_call 54; refine Calls.quiet_of_same (less32 _ _ _)))
            go_wp2_with fail
            go_meet
            case rel => exact ⟨i3, rfl, by omega, by omega, ⟨HQ.out.1.drewN _, HE.out⟩⟩
      case rest =>
        obtain ⟨i2, rfl, hi2, hi2b, HQ⟩ := hcut
        clear HO
        by_cases hend : i2 = b
        · have hend' : ((i2 : Int) == (b : Int)) = true := by rw [beq_iff_eq]; omega
          have HF : Hid (PinP w base g cap a b n d (.returned (.bool true)) wc) := by
            have e : partialInsertionSort ltInt d a b = (dk, true) := by
              rw [← HEQ.out, partialIns]
              simp only [HQ.out.2]
              rw [if_pos hend]
            unfold PinP
            rw [e]
            exact ⟨rfl, HQ.out.1⟩
          clear HEQ HQ hend
          go_wp2_with fail
          go_ret
          exact HF.out
        · have hend' : ((i2 : Int) == (b : Int)) = false := by rw [beq_eq_false_iff_ne]; omega
          by_cases h50 : b - a < 50
          · have h50' : (b : Int) - (a : Int) < 50 := by omega
            have HF : Hid (PinP w base g cap a b n d (.returned (.bool false)) wc) := by
              have e : partialInsertionSort ltInt d a b = (dk, false) := by
                rw [← HEQ.out, partialIns]
                simp only [HQ.out.2]
                rw [if_neg hend, if_pos h50]
              unfold PinP
              rw [e]
              exact ⟨rfl, HQ.out.1⟩
            clear HEQ HQ hend
            go_wp2_with fail
            go_ret
            exact HF.out
          · have h50' : ¬ ((b : Int) - (a : Int) < 50) := by omega
            obtain ⟨d1, hd1⟩ : ∃ d1, d1 = swp dk i2 (i2 - 1) := ⟨_, rfl⟩
            obtain ⟨d2, hd2⟩ : ∃ d2, d2 = if i2 - a ≥ 2 then shiftDown ltInt (i2 - 1) d1 else d1 := ⟨_, rfl⟩
            obtain ⟨d3, hd3⟩ : ∃ d3, d3 = if b - i2 ≥ 2 then shiftUp ltInt b (i2 + 1) d2 else d2 := ⟨_, rfl⟩
            have hnx : partialIns ltInt a b s i2 d3 = partialInsertionSort ltInt d a b := by
              rw [← HEQ.out, partialIns]
              simp only [HQ.out.2]
              rw [if_neg hend, if_neg h50, hd3, hd2, hd1]
            have HNX : Hid _ := hnx
            have hi2b' : i2 < b := by omega
            have HD : Hid (d1 = swp dk i2 (i2 - 1) ∧ (d2 = if i2 - a ≥ 2 then shiftDown ltInt (i2 - 1) d1 else d1) ∧ d3 = if b - i2 ≥ 2 then shiftUp ltInt b (i2 + 1) d2 else d2) := ⟨hd1, hd2, hd3⟩
            clear hd1 hd2 hd3 HEQ hend hnx
            obtain ⟨i4, hi4⟩ : ∃ i4, i2 = i4 + 1 := ⟨i2 - 1, by omega⟩
            have hi4I : (i2 : Int) - 1 = (i4 : Int) := by omega
            have hi5 : i2 = i4 + 1 := hi4
            obtain ⟨G, hG, hc, hf⟩ := Rw.fam HQ.out.1.row
            rw [HQ.out.1.sz] at hc hf
            have c1 := hc (i2) (by omega)
            have z1 := hf (i2) (by omega)
            have m1 : (i2 : Int) < (n : Int) := by omega
            have HG1 : Hid _ := hG (i2)
            have c2 := hc (i4) (by omega)
            have z2 := hf (i4) (by omega)
            have m2 : (i4 : Int) < (n : Int) := by omega
            have HG2 : Hid _ := hG (i4)
            clear hG hc hf
            have hne : i2 ≠ i4 := by omega
            have HR1 : Hid (∀ m, RK w base g cap n d1 (((wc.setCell ⟨g, i2, none⟩ (.int .i32 (G i4))).setCell ⟨g, i4, none⟩ (.int .i32 (G i2))).drewN m)) := fun m => by
              have h1 := (HQ.out.1.swap (x := i2) (y := i4) HG2.out HG1.out).drewN m
              rw [HD.out.1, show i2 - 1 = i4 by omega]
              exact h1
            generalize G i2 = x1 at *
            generalize G i4 = x2 at *
            have H45 : Hid (i2 = i4 + 1) := hi4
            clear hi4 hi5
            go_upto_region 11 with fail
            go_cut [9] from 13 to 132 (fun s9 wc1 => Hid (RK w base g cap n d1 wc1))
            case first =>
              go_region
              all_goals go_wp2_with fail
              go_meet
              case rel => exact HR1.out 1
            case rest =>
              have HK1 : Hid (RK w base g cap n d1 wc) := hcut
              have hi45 := H45.out
              have hi46 : i4 < i2 := by omega
              have hi47 : i4 < n := by omega
              clear HR1 HQ c1 c2 z1 z2 hcut hi45
              generalize wc = wb at *
              go_upto_if 61 with fail
              go_cut [9] from 13 to 132 (fun s9 wc2 => Hid (RK w base g cap n d2 wc2))
              case first =>
                by_cases h2 : i2 - a ≥ 2
                · have h2' : (2 : Int) ≤ (i2 : Int) - (a : Int) := by omega
                  have HE : Hid (d2 = shiftDown ltInt i4 d1) := by
                    have := HD.out.2.1
                    rw [if_pos h2, show i2 - 1 = i4 by have := H45.out; omega] at this
                    exact this
                  go_wp2_with fail
                  go_loopw [9] (fun v wi => ∃ (k : Nat) (dj : Array Int), v = .int .i64 k ∧ k ≤ i4 ∧ Hid (RK w base g cap n dj wi ∧ shiftDown ltInt k dj = d2)) (fun v _ => (intOf v).toNat)
                  case atStart => exact ⟨i4, d1, by first | rfl | go_num, Nat.le_refl _, ⟨HK1.out, HE.out.symm⟩⟩
                  case round =>
                    obtain ⟨k, dj, rfl, hk, HL⟩ := hrel
                    clear HK1 HE
                    cases k with
                    | zero =>
                      have HZ : Hid (RK w base g cap n d2 wr) := by
                        have := HL.out.2
                        rw [shiftDown] at this
                        rw [← this]; exact HL.out.1
                      rw [show ((0 : Nat) : Int) = 0 by rfl]
                      go_wp2_with fail
                      go_meet
                      case rel => exact HZ.out
                    | succ k =>
                      have hk1 : (1 : Int) ≤ (k : Int) + 1 := by omega
                      obtain ⟨G, hG, hc, hf⟩ := Rw.fam HL.out.1.row
                      rw [HL.out.1.sz] at hc hf
                      have c1 := hc (k + 1) (by omega)
                      have z1 := hf (k + 1) (by omega)
                      have m1 : (k : Int) + 1 < (n : Int) := by omega
                      have HG1 : Hid _ := hG (k + 1)
                      have c2 := hc (k) (by omega)
                      have z2 := hf (k) (by omega)
                      have m2 : (k : Int) < (n : Int) := by omega
                      have HG2 : Hid _ := hG (k)
                      clear hG hc hf
                      by_cases hl : G (k + 1) < G k
                      · have hl' : decide (G (k + 1) < G k) = true := decide_eq_true hl
                        have HZ : Hid (shiftDown ltInt k (swp dj (k + 1) k) = d2) := by
                          have h9 := HL.out.2
                          rw [sdGo dj k (by rw [← HG1.out, ← HG2.out]; exact hl')] at h9
                          exact h9
                        have HW : Hid (∀ m, RK w base g cap n (swp dj (k + 1) k) ((((wr.drewN m).setCell ⟨g, k + 1, none⟩ (.int .i32 (G k))).setCell ⟨g, k, none⟩ (.int .i32 (G (k + 1)))))) := fun m => (HL.out.1.drewN m).swap HG2.out HG1.out
                        have hne : k + 1 ≠ k := by omega
                        generalize G (k + 1) = x1 at *
                        generalize G k = x2 at *
                        go_wp2_with fail
                        go_quiet (first | (go_at_call 54; refine Calls.quiet_of_same (less32 _ _ _)))
                        go_wp2_with fail
                        go_region
                        all_goals go_wp2_with fail
                        go_roundw
                        case rel => exact ⟨k, _, by go_num, by omega, ⟨HW.out _, HZ.out⟩⟩
                        case measure => simp [intOf]
                      · have hl' : decide (G (k + 1) < G k) = false := decide_eq_false hl
                        have HZ : Hid (RK w base g cap n d2 wr) := by
                          have h9 := HL.out.2
                          rw [sdStop dj k (by rw [← HG1.out, ← HG2.out]; exact hl')] at h9
                          rw [← h9]; exact HL.out.1
                        generalize G (k + 1) = x1 at *
                        generalize G k = x2 at *
                        go_wp2_with fail
                        go_quiet (first | (go_at_call 54; refine Calls.quiet_of_same (less32 _ _ _)))
                        go_wp2_with fail
                        go_meet
                        case rel => exact HZ.out.drewN _
                · have h2' : ¬ ((2 : Int) ≤ (i2 : Int) - (a : Int)) := by omega
                  have HZ : Hid (RK w base g cap n d2 wb) := by
                    have := HD.out.2.1
                    rw [if_neg h2] at this
                    rw [this]; exact HK1.out
                  go_wp2_with fail
                  go_meet
                  case rel => exact HZ.out
              case rest =>
                have HK2 : Hid (RK w base g cap n d2 wc) := hcut
                clear HK1 hcut
                generalize wc = wd at *
                by_cases h2 : b - i2 ≥ 2
                · have h2' : (2 : Int) ≤ (b : Int) - (i2 : Int) := by omega
                  have HE : Hid (d3 = shiftUp ltInt b (i2 + 1) d2) := by
                    have := HD.out.2.2
                    rw [if_pos h2] at this
                    exact this
                  skip
                  · go_wp2_with fail
                    go_loopw [10] (fun v wi => ∃ (k : Nat) (dj : Array Int), v = .int .i64 k ∧ i2 < k ∧ k ≤ b ∧ Hid (RK w base g cap n dj wi ∧ shiftUp ltInt b k dj = d3)) (fun v _ => ((b : Int) - intOf v).toNat)
                    case atStart => exact ⟨i2 + 1, d2, by go_num, by omega, by omega, ⟨HK2.out, HE.out.symm⟩⟩
                    case round =>
                      obtain ⟨k, dj, rfl, hk, hkb, HL⟩ := hrel
                      clear HK2 HE
                      by_cases hlt : k < b
                      · obtain ⟨k2, rfl⟩ : ∃ k2, k = k2 + 1 := ⟨k - 1, by omega⟩
                        have hlt' : (k2 : Int) + 1 < (b : Int) := by omega
                        obtain ⟨G, hG, hc, hf⟩ := Rw.fam HL.out.1.row
                        rw [HL.out.1.sz] at hc hf
                        have c1 := hc (k2 + 1) (by omega)
                        have z1 := hf (k2 + 1) (by omega)
                        have m1 : (k2 : Int) + 1 < (n : Int) := by omega
                        have HG1 : Hid _ := hG (k2 + 1)
                        have c2 := hc (k2) (by omega)
                        have z2 := hf (k2) (by omega)
                        have m2 : (k2 : Int) < (n : Int) := by omega
                        have HG2 : Hid _ := hG (k2)
                        clear hG hc hf
                        by_cases hl : G (k2 + 1) < G k2
                        · have hl' : decide (G (k2 + 1) < G k2) = true := decide_eq_true hl
                          have HZ : Hid (shiftUp ltInt b (k2 + 1 + 1) (swp dj (k2 + 1) k2) = d3) := by
                            have h9 := HL.out.2
                            rw [suGo dj b (k2 + 1) hlt (by rw [Nat.add_sub_cancel, ← HG1.out, ← HG2.out]; exact hl')] at h9
                            exact h9
                          have HW : Hid (∀ m, RK w base g cap n (swp dj (k2 + 1) k2) ((((wr.drewN m).setCell ⟨g, k2 + 1, none⟩ (.int .i32 (G k2))).setCell ⟨g, k2, none⟩ (.int .i32 (G (k2 + 1)))))) := fun m => (HL.out.1.drewN m).swap HG2.out HG1.out
                          have hne : k2 + 1 ≠ k2 := by omega
                          generalize G (k2 + 1) = x1 at *
                          generalize G k2 = x2 at *
                          go_wp2_with fail
                          go_quiet (first | (go_at_call 54; refine Calls.quiet_of_same (less32 _ _ _)))
                          go_wp2_with fail
                          go_region
                          all_goals go_wp2_with fail
                          go_roundw
                          case rel => exact ⟨k2 + 1 + 1, _, by go_num, by omega, by omega, ⟨HW.out _, HZ.out⟩⟩
                          case measure => simp [intOf]; omega
                        · have hl' : decide (G (k2 + 1) < G k2) = false := decide_eq_false hl
                          have HZ : Hid (RK w base g cap n d3 wr) := by
                            have h9 := HL.out.2
                            rw [suStop dj b (k2 + 1) (fun _ => by rw [Nat.add_sub_cancel, ← HG1.out, ← HG2.out]; exact hl')] at h9
                            rw [← h9]; exact HL.out.1
                          generalize G (k2 + 1) = x1 at *
                          generalize G k2 = x2 at *
                          go_wp2_with fail
                          go_quiet (first | (go_at_call 54; refine Calls.quiet_of_same (less32 _ _ _)))
                          go_wp2_with fail
                          go_roundw
                          case rel => exact ⟨i2, q + 1, d3, rfl, by go_num, by omega, by omega, by omega, ⟨HZ.out.drewN _, by rw [show 5 - (q + 1) = s by have := HS.out; omega]; exact HNX.out⟩⟩
                          case measure => simp [intOf]; omega
                      · have hlt' : ¬ ((k : Int) < (b : Int)) := by omega
                        have HZ : Hid (RK w base g cap n d3 wr) := by
                          have h9 := HL.out.2
                          rw [suStop dj b k (fun hh => absurd hh hlt)] at h9
                          rw [← h9]; exact HL.out.1
                        go_wp2_with fail
                        go_roundw
                        case rel => exact ⟨i2, q + 1, d3, rfl, by go_num, by omega, by omega, by omega, ⟨HZ.out, by rw [show 5 - (q + 1) = s by have := HS.out; omega]; exact HNX.out⟩⟩
                        case measure => simp [intOf]; omega
                · have h2' : ¬ ((2 : Int) ≤ (b : Int) - (i2 : Int)) := by omega
                  have HK3 : Hid (RK w base g cap n d3 wd) := by
                    have := HD.out.2.2
                    rw [if_neg h2] at this
                    rw [this]; exact HK2.out
                  go_wp2_with fail
                  go_roundw
                  case rel => exact ⟨i2, q + 1, d3, rfl, by go_num, by omega, by omega, by omega, ⟨HK3.out, by rw [show 5 - (q + 1) = s by have := HS.out; omega]; exact HNX.out⟩⟩
                  case measure => simp [intOf]; omega
    · have hq5' : ¬ ((q : Int) < 5) := by omega
      have HF : Hid (PinP w base g cap a b n d (.returned (.bool false)) wr) := by
        have e : partialInsertionSort ltInt d a b = (dk, false) := by
          rw [← HO.out.2, show 5 - q = 0 by omega, partialIns]
        unfold PinP
        rw [e]
        exact ⟨rfl, HO.out.1⟩
      go_wp2_with fail
      go_ret
      exact HF.out

end Go.Proofs.Qxb6626314a
