/-
  Seat b6626314a: slices.breakPatternsOrdered at int32: a permutation.
-/
import Derived.Test.Qxb6626314aG
import Derived.Shelf.SlGeneric
import Derived.Ground.SlsfProg
import Derived.Shelf.SlSortCmp.Xorshift
import Derived.Laws.Bits64b
namespace Go.Proofs
open Go.Shelf
shelf_lay_g SlLaysF0.n48 Slsf 48 at Try 59 as Try.next59
shelf_lay_g SlLaysF0.n47 Slsf 47 at Try 58 as Try.npot58
end Go.Proofs
namespace Go.Proofs.Qxb6626314a
open Go.RowKit Go.Maps Go.Sort
set_option linter.unusedVariables false

theorem next59 (rb X : Nat) (hX : X < 18446744073709551616) (w : World) (hc : w.cell? ⟨rb, 0, none⟩ = some (.int .u64 X)) (hf : w.frozen? ⟨rb, 0, none⟩ = false) :
    Calls Try.prog 59 #[.pointer (some ⟨rb, 0, none⟩)] w fun e w' => e = .returned (.int .u64 (xorNextN X : Nat)) ∧ w' = (w.setCell ⟨rb, 0, none⟩ (.int .u64 (xorNextN X : Nat))).drewN 3 := AnyF.xorshift_Next Try.next59 rb 0 X hX w hc hf
theorem npot58 (n : Nat) (hn : n < 4611686018427387904) (w : World) : Calls Try.prog 58 #[.int .i64 n] w fun e w' => e = .returned (.int .u64 ((1 <<< bitsLen n : Nat) : Int)) ∧ w' = w := AnyF.nextPowerOfTwo Try.npot58 n hn w
theorem xor_lt (X : Nat) (hX : X < 18446744073709551616) : xorNextN X < 18446744073709551616 := by
  unfold xorNextN
  have h1 : X ^^^ (X * 8192 % 18446744073709551616) < 2 ^ 64 := Nat.xor_lt_two_pow (n := 64) (by omega) (by omega)
  have h2 : ∀ A, A < 2 ^ 64 → A ^^^ (A / 128) < 2 ^ 64 := fun A hA => Nat.xor_lt_two_pow (n := 64) hA (by omega)
  have h3 : ∀ A, A < 2 ^ 64 → A ^^^ (A * 131072 % 18446744073709551616) < 2 ^ 64 := fun A hA => Nat.xor_lt_two_pow (n := 64) hA (by omega)
  exact h3 _ (h2 _ h1)
theorem pot_bound (l : Nat) (hl : 1 ≤ l) (hl2 : l ≤ 100000000) : ∃ M, 1 <<< bitsLen l = M + 1 ∧ M + 1 ≤ 2 * l := by
  have hb : bitsLen l = Nat.log2 l + 1 := by unfold bitsLen; rw [if_neg (by omega)]
  have h1 : 2 ^ Nat.log2 l ≤ l := Nat.log2_self_le (by omega)
  have h2 : 1 <<< bitsLen l = 2 ^ Nat.log2 l * 2 := by rw [hb, Nat.shiftLeft_eq, Nat.one_mul, Nat.pow_succ]
  have h3 : 0 < 2 ^ Nat.log2 l := Nat.two_pow_pos _
  exact ⟨2 ^ Nat.log2 l * 2 - 1, by omega, by omega⟩

set_option maxRecDepth 100000 in
set_option maxHeartbeats 4000000 in
theorem break32 (base g cap a b n : Nat) (d : Array Int) (w : World) (hd : d.size = n) (hR : Rw w base g cap d) (hg : g < w.heap.size) (hab : a + 13 ≤ b) (hb : b ≤ n) (hn : n ≤ 100000000) :
    Calls Try.prog 50 #[.slice (some ⟨g, 0, none⟩) n cap, .int .i64 a, .int .i64 b] w fun e w' => e = .returned (.tuple #[]) ∧ ∃ d', RK w base g cap n d' w' ∧ PermIn a b d d' := by
  obtain ⟨l, hl⟩ : ∃ l, b = a + l := ⟨b - a, by omega⟩
  have hlI : (b : Int) - (a : Int) = (l : Int) := by omega
  obtain ⟨q4, hq⟩ : ∃ q4, q4 = l / 4 := ⟨_, rfl⟩
  have hqI : (l : Int).tdiv 4 = (q4 : Int) := by rw [Int.tdiv_eq_ediv_of_nonneg (by omega)]; omega
  obtain ⟨M, hM, hM2⟩ := pot_bound l (by omega) (by omega)
  have hl8 : (8 : Int) ≤ (l : Int) := by omega
  have hq4 : q4 ≤ 100000000 := by omega
  have ha4 : a ≤ 100000000 := by omega
  have hl4 : l ≤ 100000000 := by omega
  obtain ⟨w1, hw1⟩ : ∃ w1, w1 = w.alloc (.cells #[.int .u64 l] 101) := ⟨_, rfl⟩
  have hb1 : Below w.heap.size w w1 := by rw [hw1]; exact (Below.refl _ _).alloc (Nat.le_refl _) _
  have hn1 : w1.heap[w.heap.size]? = some (.cells #[.int .u64 l] 101 (0, 0)) := by rw [hw1]; exact heap_alloc_new w _
  have HC : Hid _ := npot58 l (by omega) w1
  rw [hM] at HC
  have HW : Hid _ := hw1
  have HD : Hid (d.size = n ∧ Rw w base g cap d ∧ b = a + l ∧ q4 = l / 4) := ⟨hd, hR, hl, hq⟩
  have HB1 : Hid _ := hb1
  have HN1 : Hid _ := hn1
  clear hw1 hb1 hn1 hd hR hl hq
  go_enter Try.func50, Try.ntmps50
  go_upto_region 3 with fail
  rw [← HW.out]
  clear HW
  go_wp2_with fail
  refine Calls.mono HC.out ?_
  rintro e w2 ⟨rfl, hw2⟩
  have hw2 := hw2.symm
  subst hw2
  clear HC
  go_wp2_with fail
  obtain ⟨c0, hc0⟩ : ∃ c0, c0 + 1 = a + q4 * 2 := ⟨a + q4 * 2 - 1, by have := HD.out.2.2; omega⟩
  rw [show (a : Int) + (q4 : Int) * 2 - 1 = (c0 : Int) by omega]
  have hc1 : a ≤ c0 ∧ c0 + 2 < b := by have := HD.out.2.2; omega
  have HLB : Hid (b = a + l) := HD.out.2.2.1
  have HRK : Hid (RK w base g cap n d w1) := by
    refine ⟨HD.out.1, ?_, KeepF.of_below HB1.out⟩
    have h' : w.ownsRow base 21 1 (.slice (some ⟨g, 0, none⟩) d.size cap) d.size (ints d.toList) := HD.out.2.1
    exact h'.kept (row := Option.none) ⟨HB1.out.os, HB1.out.tape, HB1.out.output, HB1.out.size, fun k hk _ => HB1.out.block k hk⟩ (Or.inr (by simp [Value.ownBlock]))
  have hgne : g ≠ w.heap.size := by omega
  go_loopw [9] (fun v wr => ∃ (t X : Nat) (dk : Array Int), v = .int .i64 ((c0 + t : Nat) : Int) ∧ t ≤ 3 ∧ X < 18446744073709551616 ∧ wr.heap[w.heap.size]? = some (.cells #[.int .u64 X] 101 (0, 0)) ∧ Hid (RK w base g cap n dk wr ∧ PermIn a b d dk)) (fun v _ => ((c0 : Int) + 3 - intOf v).toNat)
  case atStart => exact ⟨0, l, d, by go_num, by omega, by omega, HN1.out, ⟨HRK.out, permIn_refl _ _ _⟩⟩
  case round =>
    obtain ⟨t, X, dk, rfl, ht, hX, hbx, HO⟩ := hrel
    clear HRK HN1 HB1
    by_cases ht3 : t < 3
    · have hcon : ((c0 + t : Nat) : Int) ≤ (a : Int) + (q4 : Int) * 2 + 1 := by omega
      obtain ⟨ix, hix⟩ : ∃ ix, ix = c0 + t := ⟨_, rfl⟩
      rw [← hix] at hcon ⊢
      have hix2 : a ≤ ix ∧ ix < b := by omega
      have HIX : Hid (ix = c0 + t) := hix
      have hY := xor_lt X hX
      have HC : Hid _ := next59 w.heap.size X hX wr (by rw [cell_of_row wr w.heap.size 0 _ _ _ hbx]; rfl) (frozen_of_row wr w.heap.size 0 _ _ hbx)
      obtain ⟨Y, hYe⟩ : ∃ Y, xorNextN X = Y := ⟨_, rfl⟩
      rw [hYe] at HC hY
      obtain ⟨o, ho⟩ : ∃ o, Y &&& M = o := ⟨_, rfl⟩
      have hoM : o ≤ M := by rw [← ho]; exact Nat.and_le_right
      have hand := bits_and_u64_nat Y M hY (by omega)
      rw [ho] at hand
      have hol : o < 2 * l := by omega
      have HBX : Hid _ := hbx
      clear hbx hYe hix ho
      go_wp2_with fail
      refine Calls.mono HC.out ?_
      rintro e w3 ⟨rfl, hw3⟩
      obtain ⟨wq, hwq⟩ : ∃ wq, wq = (wr.setCell ⟨w.heap.size, 0, none⟩ (.int .u64 (Y : Int))).drewN 3 := ⟨_, rfl⟩
      rw [hw3, ← hwq]
      have HQB : Hid (wq.heap[w.heap.size]? = some (.cells #[.int .u64 Y] 101 (0, 0))) := by
        rw [hwq]
        exact heap_setCell_same wr w.heap.size 0 _ _ _ HBX.out
      have HQR : Hid (RK w base g cap n dk wq) := by
        rw [hwq]
        refine RK.drewN ⟨HO.out.1.sz, ?_, ?_⟩ 3
        · have h' : wr.ownsRow base 21 1 (.slice (some ⟨g, 0, none⟩) dk.size cap) dk.size (ints dk.toList) := HO.out.1.row
          exact h'.kept (row := some w.heap.size) ⟨rfl, rfl, rfl, by simp, fun k _ hk => Below.heap_setCell wr ⟨w.heap.size, 0, none⟩ _ k (fun e => hk (by rw [e]))⟩ (Or.inr (by simpa [Value.ownBlock] using hgne))
        · have hk0 := HO.out.1.keep
          exact ⟨hk0.os, hk0.tape, hk0.output, by simpa using hk0.size, fun k hk hn => (Below.heap_setCell wr ⟨w.heap.size, 0, none⟩ _ k (by show k ≠ w.heap.size; omega)).trans (hk0.block k hk hn)⟩
      clear HC hw3 hwq HBX
      go_upto_if 43 with fail
      go_cut [10] from 26 to 64 (fun s10 wc => ∃ o2 : Nat, s10 = .int .i64 o2 ∧ o2 < l ∧ wc = wq)
      case first =>
        by_cases hge : l ≤ o
        · have hge' : (l : Int) ≤ (o : Int) := by omega
          go_wp2_with fail
          go_meet
          case rel => exact ⟨o - l, by go_num, by omega, rfl⟩
        · have hge' : ¬ ((l : Int) ≤ (o : Int)) := by omega
          go_wp2_with fail
          go_meet
          case rel => exact ⟨o, rfl, by omega, rfl⟩
      case rest =>
        obtain ⟨o2, rfl, ho2, hwc⟩ := hcut
        have hwc := hwc.symm
        subst hwc
        obtain ⟨yy, hyy⟩ : ∃ yy, yy = a + o2 := ⟨_, rfl⟩
        have hyI : (a : Int) + (o2 : Int) = (yy : Int) := by omega
        have hyb : a ≤ yy ∧ yy < b := by have := HLB.out; omega
        obtain ⟨G, hG, hc, hf⟩ := Rw.fam HQR.out.row
        rw [HQR.out.sz] at hc hf
        have c1 := hc ix (by omega)
        have c2 := hc yy (by omega)
        have z1 := hf ix (by omega)
        have z2 := hf yy (by omega)
        have m1 : (ix : Int) < (n : Int) := by omega
        have m2 : (yy : Int) < (n : Int) := by omega
        have HSW : Hid (∀ wx : World, RK w base g cap n dk wx → RK w base g cap n (swp dk ix yy) ((wx.setCell ⟨g, ix, none⟩ (.int .i32 (G yy))).setCell ⟨g, yy, none⟩ (.int .i32 (G ix)))) := fun wx hx => hx.swap (hG _) (hG _)
        have HPM : Hid (PermIn a b d (swp dk ix yy)) := permIn_trans _ _ _ _ _ HO.out.2 (swp_permIn dk a b ix yy (by omega) (by omega) (by omega) (by omega) (by rw [HO.out.1.sz]; exact hb))
        have HBX2 : Hid (∀ wx : World, wx.heap[w.heap.size]? = some (.cells #[.int .u64 Y] 101 (0, 0)) → ∀ v1 v2 m, (((wx.setCell ⟨g, ix, none⟩ v1).setCell ⟨g, yy, none⟩ v2).drewN m).heap[w.heap.size]? = some (.cells #[.int .u64 Y] 101 (0, 0))) := fun wx hx v1 v2 m => by
          show ((wx.setCell ⟨g, ix, none⟩ v1).setCell ⟨g, yy, none⟩ v2).heap[w.heap.size]? = _
          rw [Below.heap_setCell _ ⟨g, yy, none⟩ v2 _ (fun e => hgne e.symm), Below.heap_setCell _ ⟨g, ix, none⟩ v1 _ (fun e => hgne e.symm)]
          exact hx
        clear hG hc hf hyy hand
        by_cases e : ix = yy
        · subst e
          generalize G ix = x1 at *
          go_wp2_with fail
          go_region
          all_goals go_wp2_with fail
          go_roundw
          case rel => exact ⟨t + 1, Y, _, by rw [HIX.out]; go_num, by omega, hY, HBX2.out _ HQB.out _ _ 1, ⟨RK.drewN (HSW.out _ HQR.out) 1, HPM.out⟩⟩
          case measure => have := HIX.out; simp [intOf]; omega
        · generalize G ix = x1 at *
          generalize G yy = x2 at *
          go_wp2_with fail
          go_region
          all_goals go_wp2_with fail
          go_roundw
          case rel => exact ⟨t + 1, Y, _, by rw [HIX.out]; go_num, by omega, hY, HBX2.out _ HQB.out _ _ 1, ⟨RK.drewN (HSW.out _ HQR.out) 1, HPM.out⟩⟩
          case measure => have := HIX.out; simp [intOf]; omega
    · have hcon : ¬ (((c0 + t : Nat) : Int) ≤ (a : Int) + (q4 : Int) * 2 + 1) := by omega
      obtain ⟨ix, hix⟩ : ∃ ix, ix = c0 + t := ⟨_, rfl⟩
      rw [← hix] at hcon ⊢
      clear hix
      go_wp2_with fail
      go_end0
      exact ⟨rfl, dk, HO.out.1, HO.out.2⟩

end Go.Proofs.Qxb6626314a
