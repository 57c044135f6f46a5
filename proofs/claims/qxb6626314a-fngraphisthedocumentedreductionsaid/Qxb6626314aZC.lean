/-
  Seat b6626314a: zzConflictBefore.
-/
import Derived.Test.Qxb6626314aZB
namespace Go.Proofs.Qxb6626314a
open Go.RowKit Go.Maps Go.Sort
set_option linter.unusedVariables false
set_option linter.unusedSimpArgs false
/-! ### Blocks of int -/
def BI (w : World) (g : Nat) (A : List Int) : Prop := w.heap[g]? = some (.cells (int64s A).toArray 3 (0, 0))
theorem BI.cell {w : World} {g : Nat} {A : List Int} (h : BI w g A) {k : Nat} (hk : k < A.length) : w.cell? ⟨g, k, none⟩ = some (.int .i64 (A.getD k 0)) := cell_blk h (by simp [int64s, hk])
theorem BI.put {w : World} {g : Nat} {A : List Int} (h : BI w g A) (k : Nat) (x : Int) : BI (w.setCell ⟨g, k, none⟩ (.int .i64 x)) g (A.set k x) := by
  have h1 := blk_set (i := k) (.int .i64 x) h
  unfold BI
  rw [h1]
  simp [int64s]
theorem BI.kept {w : World} {g g' : Nat} {A : List Int} (h : BI w g A) (hne : g ≠ g') (k : Nat) (v : Value) : BI (w.setCell ⟨g', k, none⟩ v) g A := (Below.heap_setCell w ⟨g', k, none⟩ v g hne).trans h
theorem BI.below {w w' : World} {g : Nat} {A : List Int} (h : BI w g A) (hb : Below w.heap.size w w') : BI w' g A := blk_below hb h
theorem BI.lt {w : World} {g : Nat} {A : List Int} (h : BI w g A) : g < w.heap.size := (Array.getElem?_eq_some_iff.1 h).1
theorem Try.info3 : (Try.prog.info? 3).map (fun i => (i.zero, i.size, i.bytes)) = some (some (.int .i64 0), 1, 8) := by kernel_rfl
/-- The two marks. -/
structure CM (w1 : World) (gr gw m : Nat) (RM WM : List Int) (w : World) : Prop where
  r : BI w gr RM
  w' : BI w gw WM
  ne : gr ≠ gw
  lr : w1.heap.size ≤ gr
  lw : w1.heap.size ≤ gw
  nr : RM.length = m
  nw : WM.length = m
  b : Below w1.heap.size w1 w
theorem CM.below {w1 : World} {gr gw m : Nat} {RM WM : List Int} {w w2 : World} (h : CM w1 gr gw m RM WM w) (hb : Below w.heap.size w w2) : CM w1 gr gw m RM WM w2 :=
  ⟨h.r.below hb, h.w'.below hb, h.ne, h.lr, h.lw, h.nr, h.nw, h.b.trans (hb.mono h.b.size)⟩
theorem CM.putW {w1 : World} {gr gw m : Nat} {RM WM : List Int} {w : World} (h : CM w1 gr gw m RM WM w) (k : Nat) (x : Int) : CM w1 gr gw m RM (WM.set k x) (w.setCell ⟨gw, k, none⟩ (.int .i64 x)) :=
  ⟨h.r.kept h.ne _ _, h.w'.put k x, h.ne, h.lr, h.lw, h.nr, by simp [h.nw], h.b.setCell h.lw _⟩
theorem CM.putR {w1 : World} {gr gw m : Nat} {RM WM : List Int} {w : World} (h : CM w1 gr gw m RM WM w) (k : Nat) (x : Int) : CM w1 gr gw m (RM.set k x) WM (w.setCell ⟨gr, k, none⟩ (.int .i64 x)) :=
  ⟨h.r.put k x, h.w'.kept (Ne.symm h.ne) _ _, h.ne, h.lr, h.lw, by simp [h.nr], h.nw, h.b.setCell h.lr _⟩
def Lq (l : List Int) (s : Int) : Prop := ∀ k, k < l.length → l.getD k 0 ≤ s
theorem Lq.set {l : List Int} {s : Int} (h : Lq l s) (k : Nat) : Lq (l.set k s) s := by
  intro p hp
  rw [List.length_set] at hp
  by_cases e : p = k
  · subst e; simp [hp]
  · have := h p hp
    simpa [Ne.symm e] using this
/-- The accesses of tu before k are marked. -/
structure Mk (A : List Ac) (tu s : Int) (RM WM : List Int) (k : Nat) : Prop where
  w : ∀ p, p < k → (A.getD p a0).tx = tu → (A.getD p a0).wr = true → WM.getD (A.getD p a0).item.toNat 0 = s
  r : ∀ p, p < k → (A.getD p a0).tx = tu → (A.getD p a0).wr = false → RM.getD (A.getD p a0).item.toNat 0 = s
theorem getD_set_le (l : List Int) (k p : Nat) (s : Int) (h : l.getD p 0 = s) : (l.set k s).getD p 0 = s := by
  by_cases e : p = k
  · subst e
    by_cases hp : p < l.length
    · simp [hp]
    · simpa [hp] using h
  · simpa [Ne.symm e] using h
theorem Mk.skip {A : List Ac} {tu s : Int} {RM WM : List Int} {k : Nat} (h : Mk A tu s RM WM k) (hk : (A.getD k a0).tx ≠ tu) : Mk A tu s RM WM (k + 1) :=
  ⟨fun p hp ht => h.w p (by rcases Nat.lt_succ_iff_lt_or_eq.1 hp with e | e; exact e; exact absurd (e ▸ ht) hk) ht, fun p hp ht => h.r p (by rcases Nat.lt_succ_iff_lt_or_eq.1 hp with e | e; exact e; exact absurd (e ▸ ht) hk) ht⟩
theorem Mk.putW {A : List Ac} {tu s : Int} {RM WM : List Int} {k : Nat} (h : Mk A tu s RM WM k) (hw : (A.getD k a0).wr = true) (hi : (A.getD k a0).item.toNat < WM.length) : Mk A tu s RM (WM.set (A.getD k a0).item.toNat s) (k + 1) := by
  refine ⟨fun p hp ht hwr => ?_, fun p hp ht hwr => ?_⟩
  · by_cases e : p = k
    · subst e
      generalize (A.getD p a0).item.toNat = it at hi ⊢
      simp [hi]
    · exact getD_set_le _ _ _ _ (h.w p (by omega) ht hwr)
  · by_cases e : p = k
    · subst e; rw [hw] at hwr; cases hwr
    · exact h.r p (by omega) ht hwr
theorem Mk.putR {A : List Ac} {tu s : Int} {RM WM : List Int} {k : Nat} (h : Mk A tu s RM WM k) (hw : (A.getD k a0).wr = false) (hi : (A.getD k a0).item.toNat < RM.length) : Mk A tu s (RM.set (A.getD k a0).item.toNat s) WM (k + 1) := by
  refine ⟨fun p hp ht hwr => ?_, fun p hp ht hwr => ?_⟩
  · by_cases e : p = k
    · subst e; rw [hw] at hwr; cases hwr
    · exact h.w p (by omega) ht hwr
  · by_cases e : p = k
    · subst e
      generalize (A.getD p a0).item.toNat = it at hi ⊢
      simp [hi]
    · exact getD_set_le _ _ _ _ (h.r p (by omega) ht hwr)
/-- There is a conflict of tu before tv. -/
def Cf (A : List Ac) (tu tv : Int) : Prop := tu ≠ tv ∧ ∃ p q, p < q ∧ q < A.length ∧ (A.getD p a0).tx = tu ∧ (A.getD q a0).tx = tv ∧ (A.getD p a0).item = (A.getD q a0).item ∧ ((A.getD p a0).wr = true ∨ (A.getD q a0).wr = true)
def CfP (w1 : World) (gr gw m : Nat) (s : Int) (e : Ending) (w' : World) : Prop := e = .returned (.bool true) ∧ ∃ RM WM, CM w1 gr gw m RM WM w' ∧ Lq RM s ∧ Lq WM s
set_option maxRecDepth 100000 in
set_option maxHeartbeats 4000000 in
theorem conflict_any {w1 w : World} {oa : Option Addr} {ca gr gw m : Nat} {A : List Ac} {RM WM : List Int} {tu tv s : Int} (hA : Sl w1 oa (flatA A)) (h : CM w1 gr gw m RM WM w) (lA : A.length ≤ 4096) (hm : m ≤ 4096) (hI : ∀ i, i < A.length → 0 ≤ (A.getD i a0).item ∧ (A.getD i a0).item < m) (hr : Lq RM (s - 1)) (hw : Lq WM (s - 1)) (hc : Cf A tu tv) :
    Calls Try.prog 20 #[.slice oa A.length ca, .int .i64 tu, .int .i64 tv, .slice (some ⟨gr, 0, none⟩) m m, .slice (some ⟨gw, 0, none⟩) m m, .int .i64 s] w (CfP w1 gr gw m s) := by
  obtain ⟨htt, cp, cq, hpq, hqA, hp1, hq1, hit, hwr⟩ := hc
  have HA : Hid (Sl w1 oa (flatA A)) := hA
  have HI : Hid (∀ i, i < A.length → 0 ≤ (A.getD i a0).item ∧ (A.getD i a0).item < m) := hI
  have HP : Hid ((A.getD cp a0).tx = tu ∧ (A.getD cq a0).tx = tv ∧ (A.getD cp a0).item = (A.getD cq a0).item ∧ ((A.getD cp a0).wr = true ∨ (A.getD cq a0).wr = true)) := ⟨hp1, hq1, hit, hwr⟩
  have H0 : Hid (∃ RM WM, CM w1 gr gw m RM WM w ∧ Lq RM s ∧ Lq WM s ∧ Mk A tu s RM WM 0) := ⟨RM, WM, h, fun k hk => by have := hr k hk; omega, fun k hk => by have := hw k hk; omega, ⟨fun p hp => absurd hp (by omega), fun p hp => absurd hp (by omega)⟩⟩
  clear hA hI h hr hw hp1 hq1 hit hwr
  go_enter Try.func20, Try.ntmps20
  go_wp2_with fail
  go_loopw [18] (fun vk wr => ∃ k : Nat, vk = .int .i64 k ∧ k ≤ cq ∧ Hid (∃ RM WM, CM w1 gr gw m RM WM wr ∧ Lq RM s ∧ Lq WM s ∧ Mk A tu s RM WM k)) (fun vk _ => A.length - (intOf vk).toNat)
  case atStart => exact ⟨0, rfl, Nat.zero_le _, H0⟩
  case round =>
    clear H0
    obtain ⟨k, rfl, hk, HO⟩ := hrel
    have hkl : k < A.length := by omega
    have hkl' : (k : Int) < (A.length : Int) := by omega
    obtain ⟨RM, WM, hC, hLr, hLw, hMk⟩ := HO.out
    obtain ⟨b, off, hoa, c0, c1, c2⟩ := acc_cell (HA.out.below hC.b) hkl
    have hit := HI.out k hkl
    have hgk : ∃ gd, A.getD k a0 = gd := ⟨_, rfl⟩
    obtain ⟨gd, hgd⟩ := hgk
    rw [hgd] at c0 c1 c2 hit
    obtain ⟨j, hj⟩ : ∃ j : Nat, gd.item = j := ⟨gd.item.toNat, by omega⟩
    rw [hj] at c1 hit
    have hjm : j < m := by omega
    have hjm' : (j : Int) < (m : Int) := by omega
    have hjt : (A.getD k a0).item.toNat = j := by rw [hgd, hj]; simp
    obtain ⟨w2, hw2⟩ : ∃ w2, w2 = wr.alloc (.cells #[.int .i64 gd.tx, .int .i32 j, .bool gd.wr] 37) := ⟨_, rfl⟩
    have hb2 : Below wr.heap.size wr w2 := by rw [hw2]; exact (Below.refl _ _).alloc (Nat.le_refl _) _
    have hblk2 : w2.heap[wr.heap.size]? = some (.cells #[.int .i64 gd.tx, .int .i32 j, .bool gd.wr] 37 (0, 0)) := by rw [hw2]; exact heap_alloc_new wr _
    have k0 : w2.cell? ⟨wr.heap.size, 0, none⟩ = some (.int .i64 gd.tx) := cell_blk hblk2 rfl
    have k1 : w2.cell? ⟨wr.heap.size, 1, none⟩ = some (.int .i32 j) := cell_blk hblk2 rfl
    have k2 : w2.cell? ⟨wr.heap.size, 2, none⟩ = some (.bool gd.wr) := cell_blk hblk2 rfl
    have hC2 := hC.below hb2
    have m1 := hC2.r.cell (show j < RM.length by rw [hC2.nr]; omega)
    have m2 := hC2.w'.cell (show j < WM.length by rw [hC2.nw]; omega)
    have f1 := frz_blk hC2.r j
    have f2 := frz_blk hC2.w' j
    have HW2 : Hid (w2 = wr.alloc (.cells #[.int .i64 gd.tx, .int .i32 j, .bool gd.wr] 37)) := hw2
    have HC2 : Hid (CM w1 gr gw m RM WM w2 ∧ Lq RM s ∧ Lq WM s ∧ Mk A tu s RM WM k) := ⟨hC2, hLr, hLw, hMk⟩
    have HGD : Hid (A.getD k a0 = gd ∧ (A.getD k a0).item.toNat = j) := ⟨hgd, hjt⟩
    generalize hr0 : RM.getD j 0 = r0 at m1
    generalize hv0 : WM.getD j 0 = v0 at m2
    have HRV : Hid (RM.getD j 0 = r0 ∧ WM.getD j 0 = v0) := ⟨hr0, hv0⟩
    subst hoa
    clear hw2 hb2 hblk2 hC hLr hLw hMk HO hC2 hgd hjt hj hr0 hv0
    go_upto_region 4 with fail
    rw [← HW2.out]
    clear HW2 c0 c1 c2
    generalize wr.heap.size = b9 at k0 k1 k2 ⊢
    by_cases htu : gd.tx = tu
    · have hne : k ≠ cq := fun e => by
        have h1 := HP.out.2.1
        rw [← e, HGD.out.1] at h1
        exact htt (htu.symm.trans h1)
      cases hgw : gd.wr with
      | true =>
        have HZ : Hid (∃ RM WM, CM w1 gr gw m RM WM (w2.setCell ⟨gw, j, none⟩ (.int .i64 s)) ∧ Lq RM s ∧ Lq WM s ∧ Mk A tu s RM WM (k + 1)) := ⟨RM, WM.set j s, HC2.out.1.putW j s, HC2.out.2.1, HC2.out.2.2.1.set j, by
          have := HC2.out.2.2.2.putW (by rw [HGD.out.1]; exact hgw) (by rw [HGD.out.2, HC2.out.1.nw]; exact hjm)
          rwa [HGD.out.2] at this⟩
        rw [hgw] at k2
        clear HC2 HRV
        go_wp2_with fail
        go_roundw
        case rel => exact ⟨k + 1, by go_num, by omega, HZ⟩
        case measure => simp [intOf]; omega
      | false =>
        have HZ : Hid (∃ RM WM, CM w1 gr gw m RM WM (w2.setCell ⟨gr, j, none⟩ (.int .i64 s)) ∧ Lq RM s ∧ Lq WM s ∧ Mk A tu s RM WM (k + 1)) := ⟨RM.set j s, WM, HC2.out.1.putR j s, HC2.out.2.1.set j, HC2.out.2.2.1, by
          have := HC2.out.2.2.2.putR (by rw [HGD.out.1]; exact hgw) (by rw [HGD.out.2, HC2.out.1.nr]; exact hjm)
          rwa [HGD.out.2] at this⟩
        rw [hgw] at k2
        clear HC2 HRV
        go_wp2_with fail
        go_roundw
        case rel => exact ⟨k + 1, by go_num, by omega, HZ⟩
        case measure => simp [intOf]; omega
    · have HZ : Hid (∃ RM WM, CM w1 gr gw m RM WM w2 ∧ Lq RM s ∧ Lq WM s ∧ Mk A tu s RM WM (k + 1)) := ⟨RM, WM, HC2.out.1, HC2.out.2.1, HC2.out.2.2.1, HC2.out.2.2.2.skip (by rw [HGD.out.1]; exact htu)⟩
      have HE : Hid (CfP w1 gr gw m s (.returned (.bool true)) w2) := ⟨rfl, RM, WM, HC2.out.1, HC2.out.2.1, HC2.out.2.2.1⟩
      by_cases htv : gd.tx = tv
      · have HQ : Hid (k = cq → v0 = s ∨ (gd.wr = true ∧ r0 = s)) := fun e => by
          have h3 := HP.out.2.2.1
          have h4 := HP.out.2.2.2
          have hj2 := HGD.out.2
          rw [← e, HGD.out.1] at h4
          rw [← e] at h3
          have hjp : (A.getD cp a0).item.toNat = j := by rw [h3]; exact hj2
          cases hwp : (A.getD cp a0).wr with
          | true =>
            left
            have := HC2.out.2.2.2.w cp (by omega) HP.out.1 hwp
            rw [hjp, HRV.out.2] at this
            exact this
          | false =>
            right
            rw [hwp] at h4
            have := HC2.out.2.2.2.r cp (by omega) HP.out.1 hwp
            rw [hjp, HRV.out.1] at this
            exact ⟨by simpa using h4, this⟩
        by_cases hv : v0 = s
        · go_wp2_with fail
          go_ret
          exact HE.out
        · cases hgw : gd.wr with
          | false =>
            have hne : k ≠ cq := fun e => by
              rcases HQ.out e with h | h
              · exact hv h
              · rw [hgw] at h; cases h.1
            rw [hgw] at k2
            go_wp2_with fail
            go_roundw
            case rel => exact ⟨k + 1, by go_num, by omega, HZ⟩
            case measure => simp [intOf]; omega
          | true =>
            rw [hgw] at k2
            by_cases hr : r0 = s
            · go_wp2_with fail
              go_ret
              exact HE.out
            · have hne : k ≠ cq := fun e => by
                rcases HQ.out e with h | h
                · exact hv h
                · exact hr h.2
              have hb1 : (v0 == s) = false := by simpa using hv
              have hb2 : (r0 == s) = false := by simpa using hr
              have hb3 : decide (r0 = s) = false := decide_eq_false hr
              clear hr hv
              go_wp2_with fail
              go_roundw
              case rel => exact ⟨k + 1, by go_num, by omega, HZ⟩
              case measure => simp [intOf]; omega
      · have hne : k ≠ cq := fun e => by
          have h1 := HP.out.2.1
          rw [← e, HGD.out.1] at h1
          exact htv h1
        go_wp2_with fail
        go_roundw
        case rel => exact ⟨k + 1, by go_num, by omega, HZ⟩
        case measure => simp [intOf]; omega
end Go.Proofs.Qxb6626314a
