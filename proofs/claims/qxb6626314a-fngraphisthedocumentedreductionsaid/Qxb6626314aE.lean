/-
  Seat b6626314a: slices.reverseRangeOrdered, partitionOrdered, partitionEqualOrdered at int32.
-/
import Derived.Test.Qxb6626314aB
import Derived.Sort.LotC
namespace Go.Proofs.Qxb6626314a
open Go.RowKit Go.Maps Go.Sort
set_option linter.unusedVariables false

theorem revGo (i j : Nat) (d : Array Int) (h : i < j) : reverseLoop i j d = reverseLoop (i + 1) (j - 1) (swp d i j) := by rw [reverseLoop, if_pos h]
theorem revEnd (i j : Nat) (d : Array Int) (h : ¬ i < j) : reverseLoop i j d = d := by rw [reverseLoop, if_neg h]
theorem swp_size (d : Array Int) (i j : Nat) : (swp d i j).size = d.size := by simp [swp]

set_option maxHeartbeats 2000000 in
theorem reverse32 (base g cap a b n : Nat) (d : Array Int) (w : World) (hd : d.size = n) (hR : Rw w base g cap d) (hab : a < b) (hb : b ≤ n) (hn : n ≤ 100000000) :
    Calls Try.prog 52 #[.slice (some ⟨g, 0, none⟩) n cap, .int .i64 a, .int .i64 b] w fun e w' => e = .returned (.tuple #[]) ∧ Rw w' base g cap (reverseRange d a b) ∧ (reverseRange d a b).size = n ∧ KeepF (fun k => k = g) w w' := by
  obtain ⟨b', rfl⟩ : ∃ b', b = b' + 1 := ⟨b - 1, by omega⟩
  have HR : Hid (Rw w base g cap d) := hR
  have HD : Hid _ := hd
  clear hR hd
  go_enter Try.func52, Try.ntmps52
  go_wp2_with fail
  go_loopw [6, 7] (fun vi vj wr => ∃ (i j : Nat) (dk : Array Int), vi = .int .i64 i ∧ vj = .int .i64 j ∧ a ≤ i ∧ i ≤ n ∧ j ≤ b' ∧ Hid (dk.size = n ∧ Rw wr base g cap dk ∧ reverseLoop i j dk = reverseLoop a b' d ∧ KeepF (fun k => k = g) w wr)) (fun vi vj _ => (intOf vj - intOf vi).toNat)
  case atStart => exact ⟨a, b', d, rfl, by first | rfl | go_num, by omega, by omega, by omega, ⟨HD.out, HR.out, rfl, KeepF.refl _ _⟩⟩
  case round =>
    obtain ⟨i, j, dk, rfl, rfl, hi, hin, hj, HO⟩ := hrel
    clear HR HD
    by_cases hlt : i < j
    · have hlt' : (i : Int) < (j : Int) := by omega
      obtain ⟨G, hG, hc, hf⟩ := Rw.fam HO.out.2.1
      rw [HO.out.1] at hc hf
      have c1 := hc i (by omega)
      have c2 := hc j (by omega)
      have z1 := hf i (by omega)
      have z2 := hf j (by omega)
      have m1 : (i : Int) < (n : Int) := by omega
      have m2 : (j : Int) < (n : Int) := by omega
      have m3 : (0 : Int) ≤ (i : Int) := by omega
      have m4 : (0 : Int) ≤ (j : Int) := by omega
      have hne : i ≠ j := by omega
      have HSW : Hid (∀ wx : World, Rw wx base g cap dk → Rw ((wx.setCell ⟨g, i, none⟩ (.int .i32 (G j))).setCell ⟨g, j, none⟩ (.int .i32 (G i))) base g cap (swp dk i j)) := fun wx hx => by
        rw [hG, hG]
        exact hx.swap _ _
      have HGO : Hid _ := revGo i j dk hlt
      clear hG hc hf
      generalize G i = x1 at *
      generalize G j = x2 at *
      go_wp2_with fail
      go_region
      all_goals go_wp2_with fail
      go_roundw
      case rel => exact ⟨i + 1, j - 1, _, by go_num, by go_num, by omega, by omega, by omega, ⟨by rw [swp_size]; exact HO.out.1, Rw.drewN (HSW.out _ HO.out.2.1) 1, by rw [← HO.out.2.2.1, HGO.out], KeepF.drewN ((HO.out.2.2.2.setCell _ rfl).setCell _ rfl) 1⟩⟩
      case measure => simp [intOf]; omega
    · have hlt' : ¬ ((i : Int) < (j : Int)) := by omega
      have HF : Hid (Rw wr base g cap (reverseRange d a (b' + 1)) ∧ (reverseRange d a (b' + 1)).size = n ∧ KeepF (fun k => k = g) w wr) := by
        have e : reverseRange d a (b' + 1) = dk := by
          show reverseLoop a b' d = dk
          rw [← HO.out.2.2.1, revEnd _ _ _ hlt]
        rw [e]
        exact ⟨HO.out.2.1, HO.out.1, HO.out.2.2.2⟩
      go_wp2_with fail
      go_end0
      exact ⟨rfl, HF.out⟩

/-! ### partition: what two scans keep -/
def Nlt (pv : Int) : Int → Prop := fun x => ¬ pv < x
def Glt (pv : Int) : Int → Prop := fun x => pv < x
def Lt_ (pv : Int) : Int → Prop := fun x => x < pv
def Nl_ (pv : Int) : Int → Prop := fun x => ¬ x < pv

structure PI (L R : Int → Prop) (w : World) (base g cap a b n : Nat) (d : Array Int) (pv : Int) (i j : Nat) (dk : Array Int) (wr : World) : Prop where
  sz : dk.size = n
  row : Rw wr base g cap dk
  perm : PermIn a b d dk
  piv : dk[a]! = pv
  left : ∀ t, a < t → t < i → L dk[t]!
  right : ∀ t, j < t → t < b → R dk[t]!
  keep : KeepF (fun k => k = g) w wr
theorem PI.drewN {L R : Int → Prop} {w : World} {base g cap a b n : Nat} {d : Array Int} {pv : Int} {i j : Nat} {dk : Array Int} {wr : World} (h : PI L R w base g cap a b n d pv i j dk wr) (m : Nat) : PI L R w base g cap a b n d pv i j dk (wr.drewN m) := { h with row := h.row.drewN m, keep := h.keep.drewN m }
theorem PI.up {L R : Int → Prop} {w : World} {base g cap a b n : Nat} {d : Array Int} {pv : Int} {i j : Nat} {dk : Array Int} {wr : World} (h : PI L R w base g cap a b n d pv i j dk wr) (hl : L dk[i]!) : PI L R w base g cap a b n d pv (i + 1) j dk wr := by
  refine ⟨h.sz, h.row, h.perm, h.piv, fun t h1 h2 => ?_, h.right, h.keep⟩
  by_cases e : t = i
  · subst e; exact hl
  · exact h.left t h1 (by omega)
theorem PI.down {L R : Int → Prop} {w : World} {base g cap a b n : Nat} {d : Array Int} {pv : Int} {i j : Nat} {dk : Array Int} {wr : World} (h : PI L R w base g cap a b n d pv i (j + 1) dk wr) (hl : R dk[j + 1]!) : PI L R w base g cap a b n d pv i j dk wr := by
  refine ⟨h.sz, h.row, h.perm, h.piv, h.left, fun t h1 h2 => ?_, h.keep⟩
  by_cases e : t = j + 1
  · subst e; exact hl
  · exact h.right t (by omega) h2
theorem PI.swp {L R : Int → Prop} {w : World} {base g cap a b n : Nat} {d : Array Int} {pv : Int} {i j : Nat} {dk : Array Int} {wr wx : World} (h : PI L R w base g cap a b n d pv i (j + 1) dk wr) (ha : a < i) (hij : i < j + 1) (hjb : j + 1 < b) (hb : b ≤ n) (hl : L dk[j + 1]!) (hr : R dk[i]!) (hx : Rw wx base g cap (Sort.swp dk i (j + 1))) (hk : KeepF (fun k => k = g) w wx) : PI L R w base g cap a b n d pv (i + 1) j (Sort.swp dk i (j + 1)) wx := by
  have hs := h.sz
  refine ⟨by rw [size_swp]; exact hs, hx, permIn_trans _ _ _ _ _ h.perm (swp_permIn dk a b i (j + 1) (by omega) (by omega) (by omega) (by omega) (by omega)), by rw [swp_other _ _ _ _ (by omega) (by omega)]; exact h.piv, fun t h1 h2 => ?_, fun t h1 h2 => ?_, hk⟩
  · by_cases e : t = i
    · subst e; rw [swp_left _ _ _ (by omega) (by omega)]; exact hl
    · rw [swp_other _ _ _ _ e (by omega)]; exact h.left t h1 (by omega)
  · by_cases e : t = j + 1
    · subst e; rw [swp_right _ _ _ (by omega)]; exact hr
    · rw [swp_other _ _ _ _ (by omega) e]; exact h.right t (by omega) h2

/-- The first exchange. -/
theorem PI.first {L R : Int → Prop} {w wx : World} {base g cap a b n pivot : Nat} {d : Array Int} (hd : d.size = n) (ha : a ≤ pivot) (hp : pivot < b) (hb : b ≤ n) (hx : Rw wx base g cap (Sort.swp d a pivot)) (hk : KeepF (fun k => k = g) w wx) : PI L R w base g cap a b n d d[pivot]! (a + 1) (b - 1) (Sort.swp d a pivot) wx := by
  refine ⟨by rw [size_swp]; exact hd, hx, swp_permIn d a b a pivot (by omega) (by omega) ha hp (by omega), ?_, fun t h1 h2 => by omega, fun t h1 h2 => by omega, hk⟩
  by_cases e : a = pivot
  · subst e; rw [swp_right _ _ _ (by omega)]
  · rw [swp_left _ _ _ (by omega) e]

def EqP (w : World) (base g cap a b n : Nat) (d : Array Int) (pv : Int) (e : Ending) (w' : World) : Prop := ∃ (mid : Nat) (d' : Array Int), e = .returned (.int .i64 mid) ∧ a < mid ∧ mid ≤ b ∧ d'.size = n ∧ Rw w' base g cap d' ∧ PermIn a b d d' ∧ (∀ t, a ≤ t → t < mid → ¬ pv < d'[t]!) ∧ (∀ t, mid ≤ t → t < b → pv < d'[t]!) ∧ KeepF (fun k => k = g) w w'
set_option maxRecDepth 100000 in
set_option maxHeartbeats 4000000 in
theorem partEq32 (base g cap a b n pivot : Nat) (d : Array Int) (w : World) (hd : d.size = n) (hR : Rw w base g cap d) (ha : a ≤ pivot) (hp : pivot < b) (hb : b ≤ n) (hn : n ≤ 100000000) :
    Calls Try.prog 55 #[.slice (some ⟨g, 0, none⟩) n cap, .int .i64 a, .int .i64 b, .int .i64 pivot] w (EqP w base g cap a b n d d[pivot]!) := by
  obtain ⟨pv, hpv⟩ : ∃ pv, d[pivot]! = pv := ⟨_, rfl⟩
  rw [hpv]
  obtain ⟨G, hG, hc, hf⟩ := Rw.fam hR
  rw [hd] at hc hf
  have c1 := hc a (by omega)
  have c2 := hc pivot (by omega)
  have z1 := hf a (by omega)
  have z2 := hf pivot (by omega)
  have m1 : (a : Int) < (n : Int) := by omega
  have m2 : (pivot : Int) < (n : Int) := by omega
  have HSW : Hid (∀ wx : World, Rw wx base g cap d → Rw ((wx.setCell ⟨g, a, none⟩ (.int .i32 (G pivot))).setCell ⟨g, pivot, none⟩ (.int .i32 (G a))) base g cap (swp d a pivot)) := fun wx hx => by
    rw [hG, hG]
    exact hx.swap _ _
  have HR : Hid (Rw w base g cap d) := hR
  have HD : Hid _ := And.intro hd hpv
  clear hG hc hf hR hd hpv
  generalize G a = x1 at *
  generalize G pivot = x2 at *
  go_enter Try.func55, Try.ntmps55
  go_upto_region 1 with fail
  go_cut [8] (fun s8 wc => s8 = .int .i64 0 ∧ Hid (Rw wc base g cap (swp d a pivot) ∧ KeepF (fun k => k = g) w wc))
  case first =>
    by_cases e : a = pivot
    · subst e
      have e2 : x1 = x2 := by
        have h := c1.symm.trans c2
        simpa using h
      subst e2
      go_region
      all_goals go_wp2_with fail
      go_meet
      case rel => exact ⟨rfl, ⟨Rw.drewN (HSW.out _ HR.out) 1, KeepF.drewN (((KeepF.refl (fun k => k = g) w).setCell _ rfl).setCell _ rfl) 1⟩⟩
    · go_region
      all_goals go_wp2_with fail
      go_meet
      case rel => exact ⟨rfl, ⟨Rw.drewN (HSW.out _ HR.out) 1, KeepF.drewN (((KeepF.refl (fun k => k = g) w).setCell _ rfl).setCell _ rfl) 1⟩⟩
  case rest =>
    obtain ⟨rfl, HX⟩ := hcut
    have HP0 : Hid (PI (Nlt pv) (Glt pv) w base g cap a b n d pv (a + 1) (b - 1) (swp d a pivot) wc) := by
      have := PI.first (L := (Nlt pv)) (R := (Glt pv)) HD.out.1 ha hp hb HX.out.1 HX.out.2
      rw [HD.out.2] at this
      exact this
    obtain ⟨b', hb'⟩ : ∃ b', b' = b - 1 := ⟨_, rfl⟩
    rw [← hb'] at HP0
    have hbI : (b : Int) - 1 = (b' : Int) := by omega
    have hbb : b' < b := by omega
    have hab' : a ≤ b' := by omega
    clear HX HSW HR c1 c2 z1 z2 hb'
    go_wp2_with fail
    go_loopw [9, 10] (fun vi vj wr => ∃ (i j : Nat) (dk : Array Int), vi = .int .i64 i ∧ vj = .int .i64 j ∧ a < i ∧ i ≤ j + 1 ∧ j < b ∧ Hid (PI (Nlt pv) (Glt pv) w base g cap a b n d pv i j dk wr)) (fun vi vj _ => (intOf vj + 1 - intOf vi).toNat)
    case atStart => exact ⟨a + 1, b', _, by go_num, by first | rfl | go_num, by omega, by omega, by omega, HP0.out⟩
    case round =>
      obtain ⟨i, j, dk, rfl, rfl, hai, hij, hjb, HP⟩ := hrel
      clear HP0
      go_upto_block 2 with fail
      go_cut [9] from 29 to 82 (fun s wc => ∃ i2 : Nat, s = .int .i64 i2 ∧ i ≤ i2 ∧ i2 ≤ j + 1 ∧ Hid (PI (Nlt pv) (Glt pv) w base g cap a b n d pv i2 j dk wc ∧ (i2 ≤ j → ¬ (Nlt pv) dk[i2]!)))
      case first =>
        go_wp2_with fail
        go_loopw [9] (fun s wi => ∃ i2 : Nat, s = .int .i64 i2 ∧ i ≤ i2 ∧ i2 ≤ j + 1 ∧ Hid (PI (Nlt pv) (Glt pv) w base g cap a b n d pv i2 j dk wi)) (fun s _ => ((j : Int) + 1 - intOf s).toNat)
        case atStart => exact ⟨i, rfl, by omega, by omega, HP.out⟩
        case round =>
          obtain ⟨i2, rfl, hi2, hi3, HQ⟩ := hrel
          by_cases hij : i2 ≤ j
          · have hij' : (i2 : Int) ≤ (j : Int) := by omega
            obtain ⟨G, hG, hc, hf⟩ := Rw.fam HQ.out.row
            rw [HQ.out.sz] at hc hf
            have c1 := hc a (by omega)
            have c2 := hc i2 (by omega)
            have m1 : (i2 : Int) < (n : Int) := by omega
            have m2 : (a : Int) < (n : Int) := by omega
            rw [show G a = pv by rw [hG]; exact HQ.out.piv] at c1
            have HG : Hid _ := hG i2
            clear hG hc hf HP
            by_cases hl : pv < (G i2)
            · have hl' : decide (pv < (G i2)) = true := decide_eq_true hl
              have HL : Hid (¬ (Nlt pv) (G i2)) := (fun hh => hh hl)
              generalize G i2 = x2 at *
              go_wp2_with fail
              go_quiet (first | (go_at_call 54; refine Calls.quiet_of_same (less32 _ _ _)))
              go_wp2_with fail
              go_meet
              case rel => exact ⟨i2, rfl, by omega, by omega, ⟨HQ.out.drewN _, fun _ => by rw [← HG.out]; exact HL.out⟩⟩
            · have hl' : decide (pv < (G i2)) = false := decide_eq_false hl
              have HL : Hid ((Nlt pv) (G i2)) := hl
              generalize G i2 = x2 at *
              go_wp2_with fail
              go_quiet (first | (go_at_call 54; refine Calls.quiet_of_same (less32 _ _ _)))
              go_wp2_with fail
              go_roundw
              case rel => exact ⟨i2 + 1, by go_num, by omega, by omega, (HQ.out.drewN _).up (by rw [← HG.out]; exact HL.out)⟩
              case measure => simp [intOf]; omega
          · have hij' : decide ((i2 : Int) ≤ (j : Int)) = false := decide_eq_false (by omega)
            go_wp2_with fail
            go_quiet (first | (go_at_call 54; refine Calls.quiet_of_same (less32 _ _ _)))
            go_wp2_with fail
            go_meet
            case rel => exact ⟨i2, rfl, by omega, by omega, ⟨HQ.out.drewN _, fun hh => absurd hh (by omega)⟩⟩
      case rest =>
        obtain ⟨i2, rfl, hi2, hi3, HQ⟩ := hcut
        have HQ2 : Hid (i2 ≤ j → ¬ (Nlt pv) dk[i2]!) := HQ.out.2
        clear HP
        go_upto_block 4 with fail
        go_cut [10] from 29 to 82 (fun s wc => ∃ j2 : Nat, s = .int .i64 j2 ∧ j2 ≤ j ∧ i2 ≤ j2 + 1 ∧ Hid (PI (Nlt pv) (Glt pv) w base g cap a b n d pv i2 j2 dk wc ∧ (i2 ≤ j2 → ¬ (Glt pv) dk[j2]!)))
        case first =>
          go_wp2_with fail
          go_loopw [10] (fun s wi => ∃ j2 : Nat, s = .int .i64 j2 ∧ j2 ≤ j ∧ i2 ≤ j2 + 1 ∧ Hid (PI (Nlt pv) (Glt pv) w base g cap a b n d pv i2 j2 dk wi)) (fun s _ => (intOf s).toNat)
          case atStart => exact ⟨j, rfl, by omega, by omega, HQ.out.1⟩
          case round =>
            obtain ⟨j2, rfl, hj2, hj3, HS⟩ := hrel
            by_cases hij : i2 ≤ j2
            · obtain ⟨j3, rfl⟩ : ∃ j3, j2 = j3 + 1 := ⟨j2 - 1, by omega⟩
              have hij' : (i2 : Int) ≤ (j3 : Int) + 1 := by omega
              obtain ⟨G, hG, hc, hf⟩ := Rw.fam HS.out.row
              rw [HS.out.sz] at hc hf
              have c1 := hc a (by omega)
              have c2 := hc (j3 + 1) (by omega)
              have m1 : (j3 : Int) + 1 < (n : Int) := by omega
              have m2 : (a : Int) < (n : Int) := by omega
              rw [show G a = pv by rw [hG]; exact HS.out.piv] at c1
              have HG : Hid _ := hG (j3 + 1)
              clear hG hc hf
              by_cases hl : pv < (G (j3 + 1))
              · have hl' : decide (pv < (G (j3 + 1))) = true := decide_eq_true hl
                have HL : Hid ((Glt pv) (G (j3 + 1))) := hl
                generalize G (j3 + 1) = x2 at *
                go_wp2_with fail
                go_quiet (first | (go_at_call 54; refine Calls.quiet_of_same (less32 _ _ _)))
                go_wp2_with fail
                go_roundw
                case rel => exact ⟨j3, by go_num, by omega, by omega, (HS.out.drewN _).down (by rw [← HG.out]; exact HL.out)⟩
                case measure => simp [intOf]
              · have hl' : decide (pv < (G (j3 + 1))) = false := decide_eq_false hl
                have HL : Hid (¬ (Glt pv) (G (j3 + 1))) := hl
                generalize G (j3 + 1) = x2 at *
                go_wp2_with fail
                go_quiet (first | (go_at_call 54; refine Calls.quiet_of_same (less32 _ _ _)))
                go_wp2_with fail
                go_meet
                case rel => exact ⟨j3 + 1, by go_num, by omega, by omega, ⟨HS.out.drewN _, fun _ => by rw [← HG.out]; exact HL.out⟩⟩
            · have hij' : decide ((i2 : Int) ≤ (j2 : Int)) = false := decide_eq_false (by omega)
              go_wp2_with fail
              go_quiet (first | (go_at_call 54; refine Calls.quiet_of_same (less32 _ _ _)))
              go_wp2_with fail
              go_meet
              case rel => exact ⟨j2, rfl, by omega, by omega, ⟨HS.out.drewN _, fun hh => absurd hh (by omega)⟩⟩
        case rest =>
          obtain ⟨j2, rfl, hj2, hj3, HS⟩ := hcut
          clear HQ
          by_cases hfin : j2 < i2
          · have hfin' : (j2 : Int) < (i2 : Int) := by omega
            have HF : Hid (EqP w base g cap a b n d pv (.returned (.int .i64 i2)) wc) := ⟨i2, dk, rfl, by omega, by omega, HS.out.1.sz, HS.out.1.row, HS.out.1.perm, fun t h1 h2 => by
              by_cases e : t = a
              · subst e; rw [HS.out.1.piv]; omega
              · exact HS.out.1.left t (by omega) h2, fun t h1 h2 => HS.out.1.right t (by omega) h2, HS.out.1.keep⟩
            go_wp2_with fail
            go_ret
            exact HF.out
          · have hfin' : ¬ ((j2 : Int) < (i2 : Int)) := by omega
            have n1 := HS.out.2 (by omega)
            have n2 : Glt pv dk[i2]! := Classical.byContradiction (HQ2.out (by omega))
            have hne : i2 ≠ j2 := by
              intro e
              subst e
              exact n1 n2
            obtain ⟨j3, rfl⟩ : ∃ j3, j2 = j3 + 1 := ⟨j2 - 1, by omega⟩
            obtain ⟨G, hG, hc, hf⟩ := Rw.fam HS.out.1.row
            rw [HS.out.1.sz] at hc hf
            have c1 := hc i2 (by omega)
            have c2 := hc (j3 + 1) (by omega)
            have z1 := hf i2 (by omega)
            have z2 := hf (j3 + 1) (by omega)
            have m1 : (i2 : Int) < (n : Int) := by omega
            have m2 : (j3 : Int) + 1 < (n : Int) := by omega
            have HSW : Hid (∀ wx : World, Rw wx base g cap dk → Rw ((wx.setCell ⟨g, i2, none⟩ (.int .i32 (G (j3 + 1)))).setCell ⟨g, j3 + 1, none⟩ (.int .i32 (G i2))) base g cap (swp dk i2 (j3 + 1))) := fun wx hx => by
              rw [hG, hG]
              exact hx.swap _ _
            have HNX : Hid (∀ wx : World, Rw wx base g cap (swp dk i2 (j3 + 1)) → KeepF (fun k => k = g) w wx → PI (Nlt pv) (Glt pv) w base g cap a b n d pv (i2 + 1) j3 (swp dk i2 (j3 + 1)) wx) := fun wx hx hk => HS.out.1.swp (by omega) (by omega) (by omega) hb n1 n2 hx hk
            clear hG hc hf n1 n2
            generalize G i2 = x1 at *
            generalize G (j3 + 1) = x2 at *
            go_wp2_with fail
            go_region
            all_goals go_wp2_with fail
            go_roundw
            case rel => exact ⟨i2 + 1, j3, _, by go_num, by go_num, by omega, by omega, by omega, HNX.out _ (Rw.drewN (HSW.out _ HS.out.1.row) 1) (KeepF.drewN ((HS.out.1.keep.setCell _ rfl).setCell _ rfl) 1)⟩
            case measure => simp [intOf]; omega

def PartP (w : World) (base g cap a b n : Nat) (d : Array Int) (e : Ending) (w' : World) : Prop := ∃ (mid : Nat) (ap : Bool) (d' : Array Int), e = .returned (.tuple #[.int .i64 mid, .bool ap]) ∧ a ≤ mid ∧ mid < b ∧ d'.size = n ∧ Rw w' base g cap d' ∧ PermIn a b d d' ∧ (∀ t, a ≤ t → t < mid → d'[t]! < d'[mid]!) ∧ (∀ t, mid < t → t < b → ¬ d'[t]! < d'[mid]!) ∧ KeepF (fun k => k = g) w w'
theorem PI.last {w : World} {base g cap a b n : Nat} {d : Array Int} {pv : Int} {i j : Nat} {dk : Array Int} {wr wx : World} (h : PI (Lt_ pv) (Nl_ pv) w base g cap a b n d pv i j dk wr) (ha : a < i) (hij : i = j + 1) (hjb : j < b) (hb : b ≤ n) (ap : Bool) (hx : Rw wx base g cap (Sort.swp dk j a)) (hk : KeepF (fun k => k = g) w wx) : PartP w base g cap a b n d (.returned (.tuple #[.int .i64 j, .bool ap])) wx := by
  have hs := h.sz
  have hmid : (Sort.swp dk j a)[j]! = pv := by
    by_cases e : j = a
    · subst e; rw [swp_right _ _ _ (by omega)]; exact h.piv
    · rw [swp_left _ _ _ (by omega) e]; exact h.piv
  refine ⟨j, ap, Sort.swp dk j a, rfl, by omega, hjb, by rw [size_swp]; exact hs, hx, permIn_trans _ _ _ _ _ h.perm (swp_permIn dk a b j a (by omega) (by omega) (by omega) (by omega) (by omega)), fun t h1 h2 => ?_, fun t h1 h2 => ?_, hk⟩
  · rw [hmid]
    by_cases e : t = a
    · subst e; rw [swp_right _ _ _ (by omega)]; exact h.left j (by omega) (by omega)
    · rw [swp_other _ _ _ _ (by omega) e]; exact h.left t (by omega) (by omega)
  · rw [hmid, swp_other _ _ _ _ (by omega) (by omega)]
    exact h.right t h1 h2

set_option maxRecDepth 100000 in
set_option maxHeartbeats 8000000 in
theorem part32 (base g cap a b n pivot : Nat) (d : Array Int) (w : World) (hd : d.size = n) (hR : Rw w base g cap d) (ha : a ≤ pivot) (hp : pivot < b) (hb : b ≤ n) (hn : n ≤ 100000000) :
    Calls Try.prog 56 #[.slice (some ⟨g, 0, none⟩) n cap, .int .i64 a, .int .i64 b, .int .i64 pivot] w (PartP w base g cap a b n d) := by
  obtain ⟨pv, hpv⟩ : ∃ pv, d[pivot]! = pv := ⟨_, rfl⟩
  obtain ⟨G, hG, hc, hf⟩ := Rw.fam hR
  rw [hd] at hc hf
  have c1 := hc a (by omega)
  have c2 := hc pivot (by omega)
  have z1 := hf a (by omega)
  have z2 := hf pivot (by omega)
  have m1 : (a : Int) < (n : Int) := by omega
  have m2 : (pivot : Int) < (n : Int) := by omega
  have HSW : Hid (∀ wx : World, Rw wx base g cap d → Rw ((wx.setCell ⟨g, a, none⟩ (.int .i32 (G pivot))).setCell ⟨g, pivot, none⟩ (.int .i32 (G a))) base g cap (swp d a pivot)) := fun wx hx => by
    rw [hG, hG]
    exact hx.swap _ _
  have HR : Hid (Rw w base g cap d) := hR
  have HD : Hid _ := And.intro hd hpv
  clear hG hc hf hR hd hpv
  generalize G a = x1 at *
  generalize G pivot = x2 at *
  go_enter Try.func56, Try.ntmps56
  go_upto_region 1 with fail
  go_cut [8] (fun s8 wc => s8 = .int .i64 0 ∧ Hid (Rw wc base g cap (swp d a pivot) ∧ KeepF (fun k => k = g) w wc))
  case first =>
    by_cases e : a = pivot
    · subst e
      have e2 : x1 = x2 := by
        have h := c1.symm.trans c2
        simpa using h
      subst e2
      go_region
      all_goals go_wp2_with fail
      go_meet
      case rel => exact ⟨rfl, ⟨Rw.drewN (HSW.out _ HR.out) 1, KeepF.drewN (((KeepF.refl (fun k => k = g) w).setCell _ rfl).setCell _ rfl) 1⟩⟩
    · go_region
      all_goals go_wp2_with fail
      go_meet
      case rel => exact ⟨rfl, ⟨Rw.drewN (HSW.out _ HR.out) 1, KeepF.drewN (((KeepF.refl (fun k => k = g) w).setCell _ rfl).setCell _ rfl) 1⟩⟩
  case rest =>
    obtain ⟨rfl, HX⟩ := hcut
    have HP0 : Hid (PI (Lt_ pv) (Nl_ pv) w base g cap a b n d pv (a + 1) (b - 1) (swp d a pivot) wc) := by
      have := PI.first (L := (Lt_ pv)) (R := (Nl_ pv)) HD.out.1 ha hp hb HX.out.1 HX.out.2
      rw [HD.out.2] at this
      exact this
    obtain ⟨i, hi0⟩ : ∃ i, i = a + 1 := ⟨_, rfl⟩
    obtain ⟨j, hj0⟩ : ∃ j, j = b - 1 := ⟨_, rfl⟩
    obtain ⟨dk, hdk⟩ : ∃ dk, dk = swp d a pivot := ⟨_, rfl⟩
    have HP : Hid (PI (Lt_ pv) (Nl_ pv) w base g cap a b n d pv i j dk wc) := by rw [hi0, hj0, hdk]; exact HP0.out
    have hiI : (a : Int) + 1 = (i : Int) := by omega
    have hbI : (b : Int) - 1 = (j : Int) := by omega
    have hjb : j < b := by omega
    have hai : a < i := by omega
    have hij : i ≤ j + 1 := by omega
    clear HX HSW HR HP0 c1 c2 z1 z2 hi0 hj0 hdk
    generalize wc = ws at *
    go_upto_block 0 with fail
    go_cut [10]  (fun s wc => ∃ i2 : Nat, s = .int .i64 i2 ∧ i ≤ i2 ∧ i2 ≤ j + 1 ∧ Hid (PI (Lt_ pv) (Nl_ pv) w base g cap a b n d pv i2 j dk wc ∧ (i2 ≤ j → ¬ (Lt_ pv) dk[i2]!)))
    case first =>
      go_wp2_with fail
      go_loopw [10] (fun s wi => ∃ i2 : Nat, s = .int .i64 i2 ∧ i ≤ i2 ∧ i2 ≤ j + 1 ∧ Hid (PI (Lt_ pv) (Nl_ pv) w base g cap a b n d pv i2 j dk wi)) (fun s _ => ((j : Int) + 1 - intOf s).toNat)
      case atStart => exact ⟨i, rfl, by omega, by omega, HP.out⟩
      case round =>
        obtain ⟨i2, rfl, hi2, hi3, HQ⟩ := hrel
        by_cases hij : i2 ≤ j
        · have hij' : (i2 : Int) ≤ (j : Int) := by omega
          obtain ⟨G, hG, hc, hf⟩ := Rw.fam HQ.out.row
          rw [HQ.out.sz] at hc hf
          have c1 := hc a (by omega)
          have c2 := hc i2 (by omega)
          have m1 : (i2 : Int) < (n : Int) := by omega
          have m2 : (a : Int) < (n : Int) := by omega
          rw [show G a = pv by rw [hG]; exact HQ.out.piv] at c1
          have HG : Hid _ := hG i2
          clear hG hc hf HP
          by_cases hl : (G i2) < pv
          · have hl' : decide ((G i2) < pv) = true := decide_eq_true hl
            have HL : Hid ((Lt_ pv) (G i2)) := hl
            generalize G i2 = x2 at *
            go_wp2_with fail
            go_quiet (first | (go_at_call 54; refine Calls.quiet_of_same (less32 _ _ _)))
            go_wp2_with fail
            go_roundw
            case rel => exact ⟨i2 + 1, by go_num, by omega, by omega, (HQ.out.drewN _).up (by rw [← HG.out]; exact HL.out)⟩
            case measure => simp [intOf]; omega
          · have hl' : decide ((G i2) < pv) = false := decide_eq_false hl
            have HL : Hid (¬ (Lt_ pv) (G i2)) := hl
            generalize G i2 = x2 at *
            go_wp2_with fail
            go_quiet (first | (go_at_call 54; refine Calls.quiet_of_same (less32 _ _ _)))
            go_wp2_with fail
            go_meet
            case rel => exact ⟨i2, rfl, by omega, by omega, ⟨HQ.out.drewN _, fun _ => by rw [← HG.out]; exact HL.out⟩⟩
        · have hij' : decide ((i2 : Int) ≤ (j : Int)) = false := decide_eq_false (by omega)
          go_wp2_with fail
          go_quiet (first | (go_at_call 54; refine Calls.quiet_of_same (less32 _ _ _)))
          go_wp2_with fail
          go_meet
          case rel => exact ⟨i2, rfl, by omega, by omega, ⟨HQ.out.drewN _, fun hh => absurd hh (by omega)⟩⟩
    case rest =>
      obtain ⟨i2, rfl, hi2, hi3, HQ⟩ := hcut
      have HQ2 : Hid (i2 ≤ j → ¬ (Lt_ pv) dk[i2]!) := HQ.out.2
      clear HP
      go_upto_block 2 with fail
      go_cut [11]  (fun s wc => ∃ j2 : Nat, s = .int .i64 j2 ∧ j2 ≤ j ∧ i2 ≤ j2 + 1 ∧ Hid (PI (Lt_ pv) (Nl_ pv) w base g cap a b n d pv i2 j2 dk wc ∧ (i2 ≤ j2 → ¬ (Nl_ pv) dk[j2]!)))
      case first =>
        go_wp2_with fail
        go_loopw [11] (fun s wi => ∃ j2 : Nat, s = .int .i64 j2 ∧ j2 ≤ j ∧ i2 ≤ j2 + 1 ∧ Hid (PI (Lt_ pv) (Nl_ pv) w base g cap a b n d pv i2 j2 dk wi)) (fun s _ => (intOf s).toNat)
        case atStart => exact ⟨j, rfl, by omega, by omega, HQ.out.1⟩
        case round =>
          obtain ⟨j2, rfl, hj2, hj3, HS⟩ := hrel
          by_cases hij : i2 ≤ j2
          · obtain ⟨j3, rfl⟩ : ∃ j3, j2 = j3 + 1 := ⟨j2 - 1, by omega⟩
            have hij' : (i2 : Int) ≤ (j3 : Int) + 1 := by omega
            obtain ⟨G, hG, hc, hf⟩ := Rw.fam HS.out.row
            rw [HS.out.sz] at hc hf
            have c1 := hc a (by omega)
            have c2 := hc (j3 + 1) (by omega)
            have m1 : (j3 : Int) + 1 < (n : Int) := by omega
            have m2 : (a : Int) < (n : Int) := by omega
            rw [show G a = pv by rw [hG]; exact HS.out.piv] at c1
            have HG : Hid _ := hG (j3 + 1)
            clear hG hc hf
            by_cases hl : (G (j3 + 1)) < pv
            · have hl' : decide ((G (j3 + 1)) < pv) = true := decide_eq_true hl
              have HL : Hid (¬ (Nl_ pv) (G (j3 + 1))) := (fun hh => hh hl)
              generalize G (j3 + 1) = x2 at *
              go_wp2_with fail
              go_quiet (first | (go_at_call 54; refine Calls.quiet_of_same (less32 _ _ _)))
              go_wp2_with fail
              go_meet
              case rel => exact ⟨j3 + 1, by go_num, by omega, by omega, ⟨HS.out.drewN _, fun _ => by rw [← HG.out]; exact HL.out⟩⟩
            · have hl' : decide ((G (j3 + 1)) < pv) = false := decide_eq_false hl
              have HL : Hid ((Nl_ pv) (G (j3 + 1))) := hl
              generalize G (j3 + 1) = x2 at *
              go_wp2_with fail
              go_quiet (first | (go_at_call 54; refine Calls.quiet_of_same (less32 _ _ _)))
              go_wp2_with fail
              go_roundw
              case rel => exact ⟨j3, by go_num, by omega, by omega, (HS.out.drewN _).down (by rw [← HG.out]; exact HL.out)⟩
              case measure => simp [intOf]
          · have hij' : decide ((i2 : Int) ≤ (j2 : Int)) = false := decide_eq_false (by omega)
            go_wp2_with fail
            go_quiet (first | (go_at_call 54; refine Calls.quiet_of_same (less32 _ _ _)))
            go_wp2_with fail
            go_meet
            case rel => exact ⟨j2, rfl, by omega, by omega, ⟨HS.out.drewN _, fun hh => absurd hh (by omega)⟩⟩
      case rest =>
        obtain ⟨j2, rfl, hj2, hj3, HS⟩ := hcut
        have HS2 : Hid (i2 ≤ j2 → ¬ (Nl_ pv) dk[j2]!) := HS.out.2
        clear HQ
        by_cases hfin : j2 < i2
        · have hfin' : (j2 : Int) < (i2 : Int) := by omega
          obtain ⟨G, hG, hc, hf⟩ := Rw.fam HS.out.1.row
          rw [HS.out.1.sz] at hc hf
          have c1 := hc j2 (by omega)
          have c2 := hc a (by omega)
          have z1 := hf j2 (by omega)
          have z2 := hf a (by omega)
          have m1 : (j2 : Int) < (n : Int) := by omega
          have m2 : (a : Int) < (n : Int) := by omega
          have HSW : Hid (∀ wx : World, Rw wx base g cap dk → Rw ((wx.setCell ⟨g, j2, none⟩ (.int .i32 (G a))).setCell ⟨g, a, none⟩ (.int .i32 (G j2))) base g cap (swp dk j2 a)) := fun wx hx => by
            rw [hG, hG]
            exact hx.swap _ _
          have HNX : Hid (∀ wx : World, Rw wx base g cap (swp dk j2 a) → KeepF (fun k => k = g) w wx → PartP w base g cap a b n d (.returned (.tuple #[.int .i64 j2, .bool true])) wx) := fun wx hx hk => HS.out.1.last (by omega) (by omega) (by omega) hb true hx hk
          clear hG hc hf
          by_cases e : j2 = a
          · subst e
            generalize G j2 = x1 at *
            go_wp2_with fail
            go_region
            all_goals go_wp2_with fail
            go_ret2
            exact HNX.out _ (Rw.drewN (HSW.out _ HS.out.1.row) 1) (KeepF.drewN ((HS.out.1.keep.setCell _ rfl).setCell _ rfl) 1)
          · generalize G j2 = x1 at *
            generalize G a = x2 at *
            go_wp2_with fail
            go_region
            all_goals go_wp2_with fail
            go_ret2
            exact HNX.out _ (Rw.drewN (HSW.out _ HS.out.1.row) 1) (KeepF.drewN ((HS.out.1.keep.setCell _ rfl).setCell _ rfl) 1)
        · have hfin' : ¬ ((j2 : Int) < (i2 : Int)) := by omega
          have n1 : Lt_ pv dk[j2]! := Classical.byContradiction (HS.out.2 (by omega))
          have n2 := HQ2.out (by omega)
          have hne : i2 ≠ j2 := by
            intro e
            subst e
            exact n2 n1
          obtain ⟨j3, rfl⟩ : ∃ j3, j2 = j3 + 1 := ⟨j2 - 1, by omega⟩
          obtain ⟨G, hG, hc, hf⟩ := Rw.fam HS.out.1.row
          rw [HS.out.1.sz] at hc hf
          have c1 := hc i2 (by omega)
          have c2 := hc (j3 + 1) (by omega)
          have z1 := hf i2 (by omega)
          have z2 := hf (j3 + 1) (by omega)
          have m1 : (i2 : Int) < (n : Int) := by omega
          have m2 : (j3 : Int) + 1 < (n : Int) := by omega
          have HSW : Hid (∀ wx : World, Rw wx base g cap dk → Rw ((wx.setCell ⟨g, i2, none⟩ (.int .i32 (G (j3 + 1)))).setCell ⟨g, j3 + 1, none⟩ (.int .i32 (G i2))) base g cap (swp dk i2 (j3 + 1))) := fun wx hx => by
            rw [hG, hG]
            exact hx.swap _ _
          have HNX : Hid (∀ wx : World, Rw wx base g cap (swp dk i2 (j3 + 1)) → KeepF (fun k => k = g) w wx → PI (Lt_ pv) (Nl_ pv) w base g cap a b n d pv (i2 + 1) j3 (swp dk i2 (j3 + 1)) wx) := fun wx hx hk => HS.out.1.swp (by omega) (by omega) (by omega) hb n1 n2 hx hk
          clear hG hc hf n1 n2
          generalize G i2 = x1 at *
          generalize G (j3 + 1) = x2 at *
          go_wp2_with fail
          go_region
          all_goals go_wp2_with fail
          have HP9 : Hid (PI (Lt_ pv) (Nl_ pv) w base g cap a b n d pv (i2 + 1) j3 (swp dk i2 (j3 + 1)) _) := HNX.out _ (Rw.drewN (HSW.out _ HS.out.1.row) 1) (KeepF.drewN ((HS.out.1.keep.setCell _ rfl).setCell _ rfl) 1)
          clear HNX HSW HS HS2 HQ2
          go_loopw [10, 11] (fun vi vj wr => ∃ (i j : Nat) (dk : Array Int), vi = .int .i64 i ∧ vj = .int .i64 j ∧ a < i ∧ i ≤ j + 1 ∧ j < b ∧ Hid (PI (Lt_ pv) (Nl_ pv) w base g cap a b n d pv i j dk wr)) (fun vi vj _ => (intOf vj + 1 - intOf vi).toNat)
          case atStart => exact ⟨i2 + 1, j3, _, by go_num, by first | rfl | go_num, by omega, by omega, by omega, HP9.out⟩
          case round =>
            clear HP9
            obtain ⟨i, j, dk, rfl, rfl, hai, hij, hjb, HP⟩ := hrel
            go_upto_block 6 with fail
            go_cut [10] from 99 to 152 (fun s wc => ∃ i2 : Nat, s = .int .i64 i2 ∧ i ≤ i2 ∧ i2 ≤ j + 1 ∧ Hid (PI (Lt_ pv) (Nl_ pv) w base g cap a b n d pv i2 j dk wc ∧ (i2 ≤ j → ¬ (Lt_ pv) dk[i2]!)))
            case first =>
              go_wp2_with fail
              go_loopw [10] (fun s wi => ∃ i2 : Nat, s = .int .i64 i2 ∧ i ≤ i2 ∧ i2 ≤ j + 1 ∧ Hid (PI (Lt_ pv) (Nl_ pv) w base g cap a b n d pv i2 j dk wi)) (fun s _ => ((j : Int) + 1 - intOf s).toNat)
              case atStart => exact ⟨i, rfl, by omega, by omega, HP.out⟩
              case round =>
                obtain ⟨i2, rfl, hi2, hi3, HQ⟩ := hrel
                by_cases hij : i2 ≤ j
                · have hij' : (i2 : Int) ≤ (j : Int) := by omega
                  obtain ⟨G, hG, hc, hf⟩ := Rw.fam HQ.out.row
                  rw [HQ.out.sz] at hc hf
                  have c1 := hc a (by omega)
                  have c2 := hc i2 (by omega)
                  have m1 : (i2 : Int) < (n : Int) := by omega
                  have m2 : (a : Int) < (n : Int) := by omega
                  rw [show G a = pv by rw [hG]; exact HQ.out.piv] at c1
                  have HG : Hid _ := hG i2
                  clear hG hc hf HP
                  by_cases hl : (G i2) < pv
                  · have hl' : decide ((G i2) < pv) = true := decide_eq_true hl
                    have HL : Hid ((Lt_ pv) (G i2)) := hl
                    generalize G i2 = x2 at *
                    go_wp2_with fail
                    go_quiet (first | (go_at_call 54; refine Calls.quiet_of_same (less32 _ _ _)))
                    go_wp2_with fail
                    go_roundw
                    case rel => exact ⟨i2 + 1, by go_num, by omega, by omega, (HQ.out.drewN _).up (by rw [← HG.out]; exact HL.out)⟩
                    case measure => simp [intOf]; omega
                  · have hl' : decide ((G i2) < pv) = false := decide_eq_false hl
                    have HL : Hid (¬ (Lt_ pv) (G i2)) := hl
                    generalize G i2 = x2 at *
                    go_wp2_with fail
                    go_quiet (first | (go_at_call 54; refine Calls.quiet_of_same (less32 _ _ _)))
                    go_wp2_with fail
                    go_meet
                    case rel => exact ⟨i2, rfl, by omega, by omega, ⟨HQ.out.drewN _, fun _ => by rw [← HG.out]; exact HL.out⟩⟩
                · have hij' : decide ((i2 : Int) ≤ (j : Int)) = false := decide_eq_false (by omega)
                  go_wp2_with fail
                  go_quiet (first | (go_at_call 54; refine Calls.quiet_of_same (less32 _ _ _)))
                  go_wp2_with fail
                  go_meet
                  case rel => exact ⟨i2, rfl, by omega, by omega, ⟨HQ.out.drewN _, fun hh => absurd hh (by omega)⟩⟩
            case rest =>
              obtain ⟨i2, rfl, hi2, hi3, HQ⟩ := hcut
              have HQ2 : Hid (i2 ≤ j → ¬ (Lt_ pv) dk[i2]!) := HQ.out.2
              clear HP
              go_upto_block 8 with fail
              go_cut [11] from 99 to 152 (fun s wc => ∃ j2 : Nat, s = .int .i64 j2 ∧ j2 ≤ j ∧ i2 ≤ j2 + 1 ∧ Hid (PI (Lt_ pv) (Nl_ pv) w base g cap a b n d pv i2 j2 dk wc ∧ (i2 ≤ j2 → ¬ (Nl_ pv) dk[j2]!)))
              case first =>
                go_wp2_with fail
                go_loopw [11] (fun s wi => ∃ j2 : Nat, s = .int .i64 j2 ∧ j2 ≤ j ∧ i2 ≤ j2 + 1 ∧ Hid (PI (Lt_ pv) (Nl_ pv) w base g cap a b n d pv i2 j2 dk wi)) (fun s _ => (intOf s).toNat)
                case atStart => exact ⟨j, rfl, by omega, by omega, HQ.out.1⟩
                case round =>
                  obtain ⟨j2, rfl, hj2, hj3, HS⟩ := hrel
                  by_cases hij : i2 ≤ j2
                  · obtain ⟨j3, rfl⟩ : ∃ j3, j2 = j3 + 1 := ⟨j2 - 1, by omega⟩
                    have hij' : (i2 : Int) ≤ (j3 : Int) + 1 := by omega
                    obtain ⟨G, hG, hc, hf⟩ := Rw.fam HS.out.row
                    rw [HS.out.sz] at hc hf
                    have c1 := hc a (by omega)
                    have c2 := hc (j3 + 1) (by omega)
                    have m1 : (j3 : Int) + 1 < (n : Int) := by omega
                    have m2 : (a : Int) < (n : Int) := by omega
                    rw [show G a = pv by rw [hG]; exact HS.out.piv] at c1
                    have HG : Hid _ := hG (j3 + 1)
                    clear hG hc hf
                    by_cases hl : (G (j3 + 1)) < pv
                    · have hl' : decide ((G (j3 + 1)) < pv) = true := decide_eq_true hl
                      have HL : Hid (¬ (Nl_ pv) (G (j3 + 1))) := (fun hh => hh hl)
                      generalize G (j3 + 1) = x2 at *
                      go_wp2_with fail
                      go_quiet (first | (go_at_call 54; refine Calls.quiet_of_same (less32 _ _ _)))
                      go_wp2_with fail
                      go_meet
                      case rel => exact ⟨j3 + 1, by go_num, by omega, by omega, ⟨HS.out.drewN _, fun _ => by rw [← HG.out]; exact HL.out⟩⟩
                    · have hl' : decide ((G (j3 + 1)) < pv) = false := decide_eq_false hl
                      have HL : Hid ((Nl_ pv) (G (j3 + 1))) := hl
                      generalize G (j3 + 1) = x2 at *
                      go_wp2_with fail
                      go_quiet (first | (go_at_call 54; refine Calls.quiet_of_same (less32 _ _ _)))
                      go_wp2_with fail
                      go_roundw
                      case rel => exact ⟨j3, by go_num, by omega, by omega, (HS.out.drewN _).down (by rw [← HG.out]; exact HL.out)⟩
                      case measure => simp [intOf]
                  · have hij' : decide ((i2 : Int) ≤ (j2 : Int)) = false := decide_eq_false (by omega)
                    go_wp2_with fail
                    go_quiet (first | (go_at_call 54; refine Calls.quiet_of_same (less32 _ _ _)))
                    go_wp2_with fail
                    go_meet
                    case rel => exact ⟨j2, rfl, by omega, by omega, ⟨HS.out.drewN _, fun hh => absurd hh (by omega)⟩⟩
              case rest =>
                obtain ⟨j2, rfl, hj2, hj3, HS⟩ := hcut
                have HS2 : Hid (i2 ≤ j2 → ¬ (Nl_ pv) dk[j2]!) := HS.out.2
                clear HQ
                by_cases hfin : j2 < i2
                · have hfin' : (j2 : Int) < (i2 : Int) := by omega
                  obtain ⟨G, hG, hc, hf⟩ := Rw.fam HS.out.1.row
                  rw [HS.out.1.sz] at hc hf
                  have c1 := hc j2 (by omega)
                  have c2 := hc a (by omega)
                  have z1 := hf j2 (by omega)
                  have z2 := hf a (by omega)
                  have m1 : (j2 : Int) < (n : Int) := by omega
                  have m2 : (a : Int) < (n : Int) := by omega
                  have HSW : Hid (∀ wx : World, Rw wx base g cap dk → Rw ((wx.setCell ⟨g, j2, none⟩ (.int .i32 (G a))).setCell ⟨g, a, none⟩ (.int .i32 (G j2))) base g cap (swp dk j2 a)) := fun wx hx => by
                    rw [hG, hG]
                    exact hx.swap _ _
                  have HNX : Hid (∀ wx : World, Rw wx base g cap (swp dk j2 a) → KeepF (fun k => k = g) w wx → PartP w base g cap a b n d (.returned (.tuple #[.int .i64 j2, .bool false])) wx) := fun wx hx hk => HS.out.1.last (by omega) (by omega) (by omega) hb false hx hk
                  clear hG hc hf
                  by_cases e : j2 = a
                  · subst e
                    generalize G j2 = x1 at *
                    go_wp2_with fail
                    go_region
                    all_goals go_wp2_with fail
                    go_ret2
                    exact HNX.out _ (Rw.drewN (HSW.out _ HS.out.1.row) 1) (KeepF.drewN ((HS.out.1.keep.setCell _ rfl).setCell _ rfl) 1)
                  · generalize G j2 = x1 at *
                    generalize G a = x2 at *
                    go_wp2_with fail
                    go_region
                    all_goals go_wp2_with fail
                    go_ret2
                    exact HNX.out _ (Rw.drewN (HSW.out _ HS.out.1.row) 1) (KeepF.drewN ((HS.out.1.keep.setCell _ rfl).setCell _ rfl) 1)
                · have hfin' : ¬ ((j2 : Int) < (i2 : Int)) := by omega
                  have n1 : Lt_ pv dk[j2]! := Classical.byContradiction (HS.out.2 (by omega))
                  have n2 := HQ2.out (by omega)
                  have hne : i2 ≠ j2 := by
                    intro e
                    subst e
                    exact n2 n1
                  obtain ⟨j3, rfl⟩ : ∃ j3, j2 = j3 + 1 := ⟨j2 - 1, by omega⟩
                  obtain ⟨G, hG, hc, hf⟩ := Rw.fam HS.out.1.row
                  rw [HS.out.1.sz] at hc hf
                  have c1 := hc i2 (by omega)
                  have c2 := hc (j3 + 1) (by omega)
                  have z1 := hf i2 (by omega)
                  have z2 := hf (j3 + 1) (by omega)
                  have m1 : (i2 : Int) < (n : Int) := by omega
                  have m2 : (j3 : Int) + 1 < (n : Int) := by omega
                  have HSW : Hid (∀ wx : World, Rw wx base g cap dk → Rw ((wx.setCell ⟨g, i2, none⟩ (.int .i32 (G (j3 + 1)))).setCell ⟨g, j3 + 1, none⟩ (.int .i32 (G i2))) base g cap (swp dk i2 (j3 + 1))) := fun wx hx => by
                    rw [hG, hG]
                    exact hx.swap _ _
                  have HNX : Hid (∀ wx : World, Rw wx base g cap (swp dk i2 (j3 + 1)) → KeepF (fun k => k = g) w wx → PI (Lt_ pv) (Nl_ pv) w base g cap a b n d pv (i2 + 1) j3 (swp dk i2 (j3 + 1)) wx) := fun wx hx hk => HS.out.1.swp (by omega) (by omega) (by omega) hb n1 n2 hx hk
                  clear hG hc hf n1 n2
                  generalize G i2 = x1 at *
                  generalize G (j3 + 1) = x2 at *
                  go_wp2_with fail
                  go_region
                  all_goals go_wp2_with fail
                  go_roundw
                  case rel => exact ⟨i2 + 1, j3, _, by go_num, by go_num, by omega, by omega, by omega, HNX.out _ (Rw.drewN (HSW.out _ HS.out.1.row) 1) (KeepF.drewN ((HS.out.1.keep.setCell _ rfl).setCell _ rfl) 1)⟩
                  case measure => simp [intOf]; omega

end Go.Proofs.Qxb6626314a
