/-
  Seat b6626314a: slices.order2Ordered, medianOrdered, medianAdjacentOrdered, choosePivotOrdered at int32: the pivot lies in the range.
-/
import Derived.Test.Qxb6626314aB
namespace Go.Proofs.Qxb6626314a
open Go.RowKit Go.Maps Go.Sort
set_option linter.unusedVariables false

/-- The box of 'swaps'. -/
def Sw (w : World) (bs : Nat) (s : Nat) : Prop := w.heap[bs]? = some (.cells #[.int .i64 s] 3 (0, 0))
theorem Sw.cell {w : World} {bs s : Nat} (h : Sw w bs s) : w.cell? ⟨bs, 0, none⟩ = some (.int .i64 s) := by
  have h' : w.heap[bs]? = some (.cells #[.int .i64 s] 3 (0, 0)) := h
  rw [cell_of_row w bs 0 _ _ _ h']; rfl
theorem Sw.frozen {w : World} {bs s : Nat} (h : Sw w bs s) : w.frozen? ⟨bs, 0, none⟩ = false := frozen_of_row w bs 0 _ _ h
theorem Sw.set {w : World} {bs s : Nat} (h : Sw w bs s) (s' : Nat) : Sw (w.setCell ⟨bs, 0, none⟩ (.int .i64 s')) bs s' := heap_setCell_same w bs 0 _ _ _ h
theorem Sw.drewN {w : World} {bs s : Nat} (h : Sw w bs s) (n : Nat) : Sw (w.drewN n) bs s := h
theorem Rw.keep {w w' : World} {base g cap bs : Nat} {d : Array Int} (h : Rw w base g cap d) (hk : KeepF (fun k => k = bs) w w') (hne : g ≠ bs) : Rw w' base g cap d := by
  have h' : w.ownsRow base 21 1 (.slice (some ⟨g, 0, none⟩) d.size cap) d.size (ints d.toList) := h
  exact h'.kept (row := some bs) ⟨hk.os, hk.tape, hk.output, hk.size, fun k hk' hn => hk.block k hk' (fun e => hn (by rw [e]))⟩ (Or.inr (by simpa [Value.ownBlock] using hne))

def OrdP (w : World) (bs s x y : Nat) (e : Ending) (w' : World) : Prop := ∃ (p q s' : Nat), e = .returned (.tuple #[.int .i64 p, .int .i64 q]) ∧ ((p = x ∧ q = y) ∨ (p = y ∧ q = x)) ∧ s' ≤ s + 1 ∧ Sw w' bs s' ∧ KeepF (fun k => k = bs) w w'
set_option maxHeartbeats 1000000 in
theorem order32 (base g cap bs s n : Nat) (x y : Nat) (d : Array Int) (w : World) (hd : d.size = n) (hR : Rw w base g cap d) (hS : Sw w bs s) (hs : s ≤ 1000) (hne : g ≠ bs) (hx : x < n) (hy : y < n) (hn : n ≤ 100000000) :
    Calls Try.prog 68 #[.slice (some ⟨g, 0, none⟩) n cap, .int .i64 x, .int .i64 y, .pointer (some ⟨bs, 0, none⟩)] w (OrdP w bs s x y) := by
  have c1 := hR.cell (i := x) (by omega)
  have c2 := hR.cell (i := y) (by omega)
  have k1 := hS.cell
  have z1 := hS.frozen
  have hx' : (x : Int) < (n : Int) := by omega
  have hy' : (y : Int) < (n : Int) := by omega
  have HR : Hid (Rw w base g cap d) := hR
  have HS : Hid (Sw w bs s) := hS
  clear hR hS hd
  generalize d[x]! = v1 at *
  generalize d[y]! = v2 at *
  go_enter Try.func68, Try.ntmps68
  go_wp2_with fail
  go_quiet (first | (go_at_call 54; refine Calls.quiet_of_same (less32 _ _ _)))
  by_cases hl : v2 < v1
  · go_wp2_with fail
    go_ret2
    exact ⟨y, x, s + 1, rfl, Or.inr ⟨rfl, rfl⟩, Nat.le_refl _, Sw.set (Sw.drewN HS.out _) (s + 1), ((KeepF.refl _ _).drewN _).setCell _ rfl⟩
  · go_wp2_with fail
    go_ret2
    exact ⟨x, y, s, rfl, Or.inl ⟨rfl, rfl⟩, by omega, Sw.drewN HS.out _, (KeepF.refl _ _).drewN _⟩

set_option maxHeartbeats 1000000 in
theorem median32 (base g cap bs s n : Nat) (x y z : Nat) (d : Array Int) (w : World) (hd : d.size = n) (hR : Rw w base g cap d) (hS : Sw w bs s) (hs : s ≤ 900) (hne : g ≠ bs) (hx : x < n) (hy : y < n) (hz : z < n) (hn : n ≤ 100000000) :
    Calls Try.prog 65 #[.slice (some ⟨g, 0, none⟩) n cap, .int .i64 x, .int .i64 y, .int .i64 z, .pointer (some ⟨bs, 0, none⟩)] w fun e w' => ∃ (p s' : Nat), e = .returned (.int .i64 p) ∧ (p = x ∨ p = y ∨ p = z) ∧ s' ≤ s + 3 ∧ Sw w' bs s' ∧ KeepF (fun k => k = bs) w w' := by
  have HR : Hid (Rw w base g cap d) := hR
  have HC : Hid _ := order32 base g cap bs s n x y d w hd hR hS (by omega) hne hx hy hn
  clear hR hS
  go_enter Try.func65, Try.ntmps65
  go_wp2_with fail
  refine Calls.mono HC.out ?_
  rintro e w1 ⟨p1, q1, s1, rfl, hpq1, hs1, hS1, hK1⟩
  clear HC
  have HR1 : Hid (Rw w1 base g cap d) := Rw.keep HR.out hK1 hne
  have HC1 : Hid _ := order32 base g cap bs s1 n q1 z d w1 hd HR1.out hS1 (by omega) hne (by omega) hz hn
  have HK1 : Hid _ := hK1
  clear hS1 hK1
  go_wp2_with fail
  refine Calls.mono HC1.out ?_
  rintro e w2 ⟨p2, q2, s2, rfl, hpq2, hs2, hS2, hK2⟩
  clear HC1
  have HR2 : Hid (Rw w2 base g cap d) := Rw.keep HR1.out hK2 hne
  have HC2 : Hid _ := order32 base g cap bs s2 n p1 p2 d w2 hd HR2.out hS2 (by omega) hne (by omega) (by omega) hn
  have HK2 : Hid _ := HK1.out.trans hK2
  clear hS2 hK2
  go_wp2_with fail
  refine Calls.mono HC2.out ?_
  rintro e w3 ⟨p3, q3, s3, rfl, hpq3, hs3, hS3, hK3⟩
  have HF : Hid (∃ (p s' : Nat), Ending.returned (.int .i64 q3) = .returned (.int .i64 p) ∧ (p = x ∨ p = y ∨ p = z) ∧ s' ≤ s + 3 ∧ Sw w3 bs s' ∧ KeepF (fun k => k = bs) w w3) := ⟨q3, s3, rfl, by omega, by omega, hS3, HK2.out.trans hK3⟩
  clear HC2 hS3 hK3
  go_wp2_with fail
  go_ret
  exact HF.out

set_option maxHeartbeats 1000000 in
theorem medAdj32 (base g cap bs s n : Nat) (x : Nat) (d : Array Int) (w : World) (hd : d.size = n) (hR : Rw w base g cap d) (hS : Sw w bs s) (hs : s ≤ 900) (hne : g ≠ bs) (hx : 1 ≤ x) (hx2 : x + 1 < n) (hn : n ≤ 100000000) :
    Calls Try.prog 64 #[.slice (some ⟨g, 0, none⟩) n cap, .int .i64 x, .pointer (some ⟨bs, 0, none⟩)] w fun e w' => ∃ (p s' : Nat), e = .returned (.int .i64 p) ∧ (x ≤ p + 1 ∧ p ≤ x + 1) ∧ s' ≤ s + 3 ∧ Sw w' bs s' ∧ KeepF (fun k => k = bs) w w' := by
  obtain ⟨x', rfl⟩ : ∃ x', x = x' + 1 := ⟨x - 1, by omega⟩
  have HC : Hid _ := median32 base g cap bs s n x' (x' + 1) (x' + 1 + 1) d w hd hR hS hs hne (by omega) (by omega) (by omega) hn
  clear hR hS
  go_enter Try.func64, Try.ntmps64
  go_wp2_with fail
  refine Calls.mono HC.out ?_
  rintro e w1 ⟨p, s', rfl, hp, hs', hS', hK'⟩
  have HF : Hid (∃ (p' s' : Nat), Ending.returned (.int .i64 p) = .returned (.int .i64 p') ∧ (x' + 1 ≤ p' + 1 ∧ p' ≤ x' + 1 + 1) ∧ s' ≤ s + 3 ∧ Sw w1 bs s' ∧ KeepF (fun k => k = bs) w w1) := ⟨p, s', rfl, by omega, hs', hS', hK'⟩
  clear HC hS' hK'
  go_wp2_with fail
  go_ret
  exact HF.out

def PivP (w : World) (a b : Nat) (e : Ending) (w' : World) : Prop := ∃ (p h : Nat), e = .returned (.tuple #[.int .i64 p, .int .i64 h]) ∧ a ≤ p ∧ p < b ∧ h ≤ 2 ∧ Below w.heap.size w w'
theorem KeepF.toBelow {w0 w w' : World} (h : KeepF (fun k => k = w0.heap.size) w w') (hb : Below w0.heap.size w0 w) : Below w0.heap.size w0 w' :=
  ⟨h.os.trans hb.os, h.tape.trans hb.tape, h.output.trans hb.output, Nat.le_trans hb.size h.size, fun k hk => (h.block k (Nat.lt_of_lt_of_le hk hb.size) (by omega)).trans (hb.block k hk)⟩

set_option maxHeartbeats 2000000 in
theorem pivot32 (base g cap a b n : Nat) (d : Array Int) (w : World) (hd : d.size = n) (hR : Rw w base g cap d) (hg : g < w.heap.size) (hab : a + 13 ≤ b) (hb : b ≤ n) (hn : n ≤ 100000000) :
    Calls Try.prog 51 #[.slice (some ⟨g, 0, none⟩) n cap, .int .i64 a, .int .i64 b] w (PivP w a b) := by
  obtain ⟨l, hl⟩ : ∃ l, b = a + l := ⟨b - a, by omega⟩
  have hlI : (b : Int) - (a : Int) = (l : Int) := by omega
  obtain ⟨q4, hq⟩ : ∃ q4, q4 = l / 4 := ⟨_, rfl⟩
  have hqI : (l : Int).tdiv 4 = (q4 : Int) := by rw [Int.tdiv_eq_ediv_of_nonneg (by omega)]; omega
  obtain ⟨i1, hi1⟩ : ∃ i1, i1 = a + q4 := ⟨_, rfl⟩
  obtain ⟨j1, hj1⟩ : ∃ j1, j1 = a + q4 * 2 := ⟨_, rfl⟩
  obtain ⟨k1, hk1⟩ : ∃ k1, k1 = a + q4 * 3 := ⟨_, rfl⟩
  have hi1I : (a : Int) + (q4 : Int) = (i1 : Int) := by omega
  have hj1I : (a : Int) + (q4 : Int) * 2 = (j1 : Int) := by omega
  have hk1I : (a : Int) + (q4 : Int) * 3 = (k1 : Int) := by omega
  have hb1 : Below w.heap.size w (w.alloc (.cells #[.int .i64 0] 3)) := (Below.refl _ _).alloc (Nat.le_refl _) _
  have hn1 : (w.alloc (.cells #[.int .i64 0] 3)).heap[w.heap.size]? = some (.cells #[.int .i64 0] 3 (0, 0)) := heap_alloc_new w _
  obtain ⟨w1, hw1⟩ : ∃ w1, w1 = w.alloc (.cells #[.int .i64 0] 3) := ⟨_, rfl⟩
  rw [← hw1] at hb1 hn1
  have hR1 : Rw w1 base g cap d := by
    have h' : w.ownsRow base 21 1 (.slice (some ⟨g, 0, none⟩) d.size cap) d.size (ints d.toList) := hR
    exact h'.kept (row := Option.none) ⟨hb1.os, hb1.tape, hb1.output, hb1.size, fun k hk _ => hb1.block k hk⟩ (Or.inr (by simp [Value.ownBlock]))
  have hne : g ≠ w.heap.size := by omega
  have HR1 : Hid (Rw w1 base g cap d) := hR1
  have HS1 : Hid (Sw w1 w.heap.size 0) := hn1
  have HB1 : Hid _ := hb1
  have HW : Hid _ := hw1
  have HD : Hid _ := hd
  have hl8 : (8 : Int) ≤ (l : Int) := by omega
  have hq4 : q4 ≤ 100000000 := by omega
  have ha4 : a ≤ 100000000 := by omega
  have hi4 : i1 < n := by omega
  have hj4 : j1 < n := by omega
  have hk4 : k1 < n := by omega
  have HL : Hid (b = a + l ∧ q4 = l / 4 ∧ i1 = a + q4 ∧ j1 = a + q4 * 2 ∧ k1 = a + q4 * 3) := ⟨hl, hq, hi1, hj1, hk1⟩
  clear hR hR1 hn1 hb1 hw1 hd hl hq hi1 hj1 hk1
  go_enter Try.func51, Try.ntmps51
  go_upto_region 3 with fail
  rw [← HW.out]
  clear HW
  go_upto_region 6 with fail
  by_cases h50 : 50 ≤ l
  · have h50' : (50 : Int) ≤ (l : Int) := by omega
    have hx1 := HL.out
    have HC : Hid _ := medAdj32 base g cap w.heap.size 0 n i1 d w1 HD.out HR1.out HS1.out (by omega) hne (by omega) (by omega) hn
    have r1 : a + 1 ≤ i1 ∧ i1 + 2 ≤ b := by omega
    have r2 : a + 1 ≤ j1 ∧ j1 + 2 ≤ b := by omega
    have r3 : a + 1 ≤ k1 ∧ k1 + 2 ≤ b := by omega
    clear hx1
    go_wp2_with fail
    refine Calls.mono HC.out ?_
    rintro e w2 ⟨p1, s1, rfl, hp1, hs1, hS2, hK2⟩
    clear HC
    have HR2 : Hid (Rw w2 base g cap d) := Rw.keep HR1.out hK2 hne
    have HC : Hid _ := medAdj32 base g cap w.heap.size s1 n j1 d w2 HD.out HR2.out hS2 (by omega) hne (by omega) (by omega) hn
    have HB2 : Hid _ := hK2.toBelow HB1.out
    clear hS2 hK2
    go_wp2_with fail
    refine Calls.mono HC.out ?_
    rintro e w3 ⟨p2, s2, rfl, hp2, hs2, hS3, hK3⟩
    clear HC
    have HR3 : Hid (Rw w3 base g cap d) := Rw.keep HR2.out hK3 hne
    have HC : Hid _ := medAdj32 base g cap w.heap.size s2 n k1 d w3 HD.out HR3.out hS3 (by omega) hne (by omega) (by omega) hn
    have HB3 : Hid _ := hK3.toBelow HB2.out
    clear hS3 hK3
    go_wp2_with fail
    refine Calls.mono HC.out ?_
    rintro e w4 ⟨p3, s3, rfl, hp3, hs3, hS4, hK4⟩
    clear HC
    have HR4 : Hid (Rw w4 base g cap d) := Rw.keep HR3.out hK4 hne
    have HC : Hid _ := median32 base g cap w.heap.size s3 n p1 p2 p3 d w4 HD.out HR4.out hS4 (by omega) hne (by omega) (by omega) (by omega) hn
    have HB4 : Hid _ := hK4.toBelow HB3.out
    clear hS4 hK4
    go_wp2_with fail
    refine Calls.mono HC.out ?_
    rintro e w5 ⟨p4, s4, rfl, hp4, hs4, hS5, hK5⟩
    have HF : Hid (∀ h : Nat, h ≤ 2 → PivP w a b (.returned (.tuple #[.int .i64 p4, .int .i64 h])) w5) := fun h hh => ⟨p4, h, rfl, by omega, by omega, hh, hK5.toBelow HB4.out⟩
    have k5 := hS5.cell
    clear HC hS5 hK5
    go_wp2_with fail
    all_goals go_ret2
    all_goals first | exact HF.out 0 (by omega) | exact HF.out 1 (by omega) | exact HF.out 2 (by omega)
  · have h50' : ¬ ((50 : Int) ≤ (l : Int)) := by omega
    have HC : Hid _ := median32 base g cap w.heap.size 0 n i1 j1 k1 d w1 HD.out HR1.out HS1.out (by omega) hne (by omega) (by omega) (by omega) hn
    have hx1 := HL.out
    have r1 : a ≤ i1 ∧ i1 < b := by omega
    have r2 : a ≤ j1 ∧ j1 < b := by omega
    have r3 : a ≤ k1 ∧ k1 < b := by omega
    clear hx1
    go_wp2_with fail
    refine Calls.mono HC.out ?_
    rintro e w5 ⟨p4, s4, rfl, hp4, hs4, hS5, hK5⟩
    have HF : Hid (∀ h : Nat, h ≤ 2 → PivP w a b (.returned (.tuple #[.int .i64 p4, .int .i64 h])) w5) := fun h hh => ⟨p4, h, rfl, by omega, by omega, hh, hK5.toBelow HB1.out⟩
    have k5 := hS5.cell
    clear HC hS5 hK5
    go_wp2_with fail
    all_goals go_ret2
    all_goals first | exact HF.out 0 (by omega) | exact HF.out 1 (by omega) | exact HF.out 2 (by omega)

end Go.Proofs.Qxb6626314a
