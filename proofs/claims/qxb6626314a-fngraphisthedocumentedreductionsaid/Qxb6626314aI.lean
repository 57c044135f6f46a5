/-
  Seat b6626314a: slices.pdqsortOrdered at int32 sorts.
-/
import Derived.Test.Qxb6626314aH
import Derived.BigQuiet
namespace Go.Proofs.Qxb6626314a
open Go.RowKit Go.Maps Go.Sort
set_option linter.unusedVariables false

theorem RK.trans {w w1 w2 : World} {base g cap n : Nat} {d1 d2 : Array Int} (h : RK w base g cap n d1 w1) (k : RK w1 base g cap n d2 w2) : RK w base g cap n d2 w2 := ⟨k.sz, k.row, h.keep.trans k.keep⟩
structure PD (w : World) (base g cap a b n : Nat) (d : Array Int) (x y : Nat) (dk : Array Int) (wr : World) : Prop where
  rk : RK w base g cap n dk wr
  hg : g < w.heap.size
  ax : a ≤ x
  xy : x ≤ y
  yb : y ≤ b
  bn : b ≤ n
  pm : PermIn a b d dk
  dn : Done a b x y dk
  ah : Ahd x y dk
theorem PD.step {w wr w2 : World} {base g cap a b n x y : Nat} {d dk d2 : Array Int} (h : PD w base g cap a b n d x y dk wr) (k : RK wr base g cap n d2 w2) (hp : PermIn x y dk d2) : PD w base g cap a b n d x y d2 w2 := by
  have hs := h.rk.sz
  have := h.xy
  have := h.ax
  have := h.yb
  have := h.bn
  exact ⟨h.rk.trans k, h.hg, h.ax, h.xy, h.yb, h.bn, permIn_trans _ _ _ _ _ h.pm (permIn_mono _ _ x y a b (by omega) (by omega) (by omega) hp), h.dn.perm (by omega) (by omega) (by omega) (by omega) hp, h.ah.perm (by omega) hp⟩
theorem PD.same {w wr w2 : World} {base g cap a b n x y : Nat} {d dk : Array Int} (h : PD w base g cap a b n d x y dk wr) (k : Below wr.heap.size wr w2) : PD w base g cap a b n d x y dk w2 := by
  refine h.step ⟨h.rk.sz, ?_, KeepF.of_below k⟩ (permIn_refl _ _ _)
  have h' : wr.ownsRow base 21 1 (.slice (some ⟨g, 0, none⟩) dk.size cap) dk.size (ints dk.toList) := h.rk.row
  exact h'.kept (row := Option.none) ⟨k.os, k.tape, k.output, k.size, fun k' hk _ => k.block k' hk⟩ (Or.inr (by simp [Value.ownBlock]))
theorem PD.hg2 {w wr : World} {base g cap a b n x y : Nat} {d dk : Array Int} (h : PD w base g cap a b n d x y dk wr) : g < wr.heap.size := Nat.lt_of_lt_of_le h.hg h.rk.keep.size
def SrtP (w : World) (base g cap a b n : Nat) (d : Array Int) (e : Ending) (w' : World) : Prop := e = .returned (.tuple #[]) ∧ ∃ d', RK w base g cap n d' w' ∧ PermIn a b d d' ∧ SortedIn ltInt a b d'
theorem PD.fin {w wr w2 : World} {base g cap a b n x y : Nat} {d dk d2 : Array Int} (h : PD w base g cap a b n d x y dk wr) (k : RK wr base g cap n d2 w2) (hp : PermIn x y dk d2) (hs : SortedIn ltInt x y d2) : SrtP w base g cap a b n d (.returned (.tuple #[])) w2 :=
  ⟨rfl, d2, (h.step k hp).rk, (h.step k hp).pm, (h.step k hp).dn.sorted hs⟩

theorem PD.eqs {w wr w2 : World} {base g cap a b n x y pv : Nat} {d dk : Array Int} (h : PD w base g cap a b n d x y dk wr) (hp : x ≤ pv) (hp2 : pv < y) (hx : 0 < x) (hl : ¬ dk[x - 1]! < dk[pv]!) {e : Ending} (hE : EqP wr base g cap x y n dk dk[pv]! e w2) : ∃ (mid : Nat) (d2 : Array Int), e = .returned (.int .i64 mid) ∧ x < mid ∧ mid ≤ y ∧ PD w base g cap a b n d mid y d2 w2 := by
  obtain ⟨mid, d2, he, h1, h2, h3, h4, h5, h6, h7, h8⟩ := hE
  have hS := h.step ⟨h3, h4, h8⟩ h5
  have hyn : y ≤ dk.size := by rw [h.rk.sz]; exact Nat.le_trans h.yb h.bn
  have hge : ∀ t, x ≤ t → t < y → ¬ d2[t]! < dk[pv]! := permIn_all dk d2 x y (fun v => ¬ v < dk[pv]!) hyn h5 (fun i i1 i2 => by
    rcases h.ah with h0 | h0
    · omega
    · have := h0 i i1 i2
      omega)
  have hD := hS.dn.eq (pv := dk[pv]!) h1 h2 hge h6 h7
  exact ⟨mid, d2, he, h1, h2, hS.rk, hS.hg, by have := hS.ax; omega, h2, hS.yb, hS.bn, hS.pm, hD.1, hD.2⟩
theorem Ahd.less {x y z : Nat} {d : Array Int} (h : Ahd x y d) (hz : z ≤ y) : Ahd x z d := by
  rcases h with h | h
  · exact Or.inl h
  · exact Or.inr fun i h1 h2 => h i h1 (by omega)
/-- What stands behind partition. -/
structure PM (w : World) (base g cap a b n : Nat) (d : Array Int) (x y mid : Nat) (dk : Array Int) (wr : World) : Prop extends PD w base g cap a b n d x y dk wr where
  xm : x ≤ mid
  my : mid < y
  lo : ∀ t, x ≤ t → t < mid → dk[t]! < dk[mid]!
  hi : ∀ t, mid < t → t < y → ¬ dk[t]! < dk[mid]!
theorem PD.part {w wr w2 : World} {base g cap a b n x y : Nat} {d dk : Array Int} (h : PD w base g cap a b n d x y dk wr) {e : Ending} (hE : PartP wr base g cap x y n dk e w2) : ∃ (mid : Nat) (ap : Bool) (d2 : Array Int), e = .returned (.tuple #[.int .i64 mid, .bool ap]) ∧ x ≤ mid ∧ mid < y ∧ PM w base g cap a b n d x y mid d2 w2 := by
  obtain ⟨mid, ap, d2, he, h1, h2, h3, h4, h5, h6, h7, h8⟩ := hE
  exact ⟨mid, ap, d2, he, h1, h2, h.step ⟨h3, h4, h8⟩ h5, h1, h2, h6, h7⟩
theorem PM.left {w wr w2 : World} {base g cap a b n x y mid : Nat} {d dk : Array Int} (h : PM w base g cap a b n d x y mid dk wr) {e : Ending} (hE : SrtP wr base g cap x mid n dk e w2) : e = .returned (.tuple #[]) ∧ ∃ d2, PD w base g cap a b n d (mid + 1) y d2 w2 := by
  obtain ⟨he, d2, hk, hp, hs⟩ := hE
  have hyn : y ≤ dk.size := by rw [h.rk.sz]; exact Nat.le_trans h.yb h.bn
  have hbn : b ≤ dk.size := by rw [h.rk.sz]; exact h.bn
  have hm := h.my
  have hS := h.toPD.step hk (permIn_mono dk d2 x mid x y (Nat.le_refl _) (by omega) hyn hp)
  have hD := h.dn.left h.xm h.my h.yb hbn h.lo h.hi hp hs h.ax
  exact ⟨he, d2, hS.rk, hS.hg, by have := hS.ax; have := h.xm; omega, hm, hS.yb, hS.bn, hS.pm, hD.1, hD.2⟩
theorem PM.right {w wr w2 : World} {base g cap a b n x y mid : Nat} {d dk : Array Int} (h : PM w base g cap a b n d x y mid dk wr) {e : Ending} (hE : SrtP wr base g cap (mid + 1) y n dk e w2) : e = .returned (.tuple #[]) ∧ ∃ d2, PD w base g cap a b n d x mid d2 w2 := by
  obtain ⟨he, d2, hk, hp, hs⟩ := hE
  have hyn : y ≤ dk.size := by rw [h.rk.sz]; exact Nat.le_trans h.yb h.bn
  have hbn : b ≤ dk.size := by rw [h.rk.sz]; exact h.bn
  have hm := h.my
  have hx := h.xm
  have hS := h.toPD.step hk (permIn_mono dk d2 (mid + 1) y x y (by omega) (Nat.le_refl _) hyn hp)
  have hD := h.dn.right h.ah h.xm h.my h.yb hbn h.lo h.hi hp hs h.ax
  exact ⟨he, d2, hS.rk, hS.hg, hS.ax, hx, by have := hS.yb; omega, hS.bn, hS.pm, hD.1, hD.2⟩
set_option maxRecDepth 100000 in
set_option maxHeartbeats 8000000 in
theorem pdq32 (k : Nat) : ∀ (base g cap a b n lim : Nat) (d : Array Int) (w : World), b - a ≤ k → d.size = n → Rw w base g cap d → g < w.heap.size → a ≤ b → b ≤ n → n ≤ 100000000 → lim ≤ 64 → Ahd a b d →
    Calls Try.prog 36 #[.slice (some ⟨g, 0, none⟩) n cap, .int .i64 a, .int .i64 b, .int .i64 lim] w (SrtP w base g cap a b n d) := by
  induction k using Nat.strongRecOn with
  | ind k ih =>
  intro base g cap a b n lim d w hk hd hR hg hab hb hn hlim hA
  have HP : Hid (PD w base g cap a b n d a b d w) := ⟨⟨hd, hR, KeepF.refl _ _⟩, hg, Nat.le_refl _, hab, Nat.le_refl _, hb, permIn_refl _ _ _, Done.start _ _ _, hA⟩
  have IH : Hid (∀ m, m < k → ∀ (base g cap a b n lim : Nat) (d : Array Int) (w : World), b - a ≤ m → d.size = n → Rw w base g cap d → g < w.heap.size → a ≤ b → b ≤ n → n ≤ 100000000 → lim ≤ 64 → Ahd a b d →
    Calls Try.prog 36 #[.slice (some ⟨g, 0, none⟩) n cap, .int .i64 a, .int .i64 b, .int .i64 lim] w (SrtP w base g cap a b n d)) := ih
  clear ih hA hR hd
  go_enter Try.func36, Try.ntmps36
  go_wp2_with fail
  go_loopw [1, 2, 3, 8, 9] (fun v1 v2 v3 v8 v9 wr => ∃ (x y lm : Nat) (p q : Bool) (dk : Array Int), v1 = .int .i64 x ∧ v2 = .int .i64 y ∧ v3 = .int .i64 lm ∧ v8 = .bool p ∧ v9 = .bool q ∧ lm ≤ 64 ∧ x ≤ y ∧ y ≤ n ∧ a ≤ x ∧ y ≤ b ∧ Hid (PD w base g cap a b n d x y dk wr)) (fun v1 v2 _ _ _ _ => (intOf v2 - intOf v1).toNat)
  case atStart => exact ⟨a, b, lim, true, true, d, rfl, rfl, rfl, rfl, rfl, hlim, hab, hb, Nat.le_refl _, Nat.le_refl _, HP⟩
  case round =>
    obtain ⟨x, y, lm, p, q, dk, rfl, rfl, rfl, rfl, rfl, hlm, hxy, hyn, hax, hyb, HO⟩ := hrel
    clear HP hlim hab hg
    obtain ⟨l, hl⟩ : ∃ l, y = x + l := ⟨y - x, by omega⟩
    have hlI : (y : Int) - (x : Int) = (l : Int) := by omega
    have HL : Hid (y = x + l) := hl
    clear hl
    by_cases h12 : l ≤ 12
    · have h12' : (l : Int) ≤ 12 := by omega
      have HC : Hid _ := insertion32 base g cap x y n dk wr HO.out.rk.sz HO.out.rk.row hxy hyn hn
      go_wp2_with fail
      refine Calls.mono HC.out ?_
      rintro e w3 ⟨rfl, h1, h2, h3⟩
      have HZ : Hid (SrtP w base g cap a b n d (.returned (.tuple #[])) w3) := HO.out.fin ⟨h2, h1, h3⟩ (insertionSort_holds swo_ltInt dk x y hxy (by rw [HO.out.rk.sz]; exact hyn)).1 (insertionSort_holds swo_ltInt dk x y hxy (by rw [HO.out.rk.sz]; exact hyn)).2
      clear HC h1 h2 h3
      go_wp2_with fail
      refine bodyPost_ret (v := .tuple #[]) (results_none rfl _ _ _) rfl ?_
      exact HZ.out
    · have h12' : ¬ ((l : Int) ≤ 12) := by omega
      by_cases h0 : lm = 0
      · subst h0
        have HC : Hid _ := heap32 base g cap x y n dk wr HO.out.rk.sz HO.out.rk.row hxy hyn hn
        go_wp2_with fail
        refine Calls.mono HC.out ?_
        rintro e w3 ⟨rfl, h1, h2, h3⟩
        have HZ : Hid (SrtP w base g cap a b n d (.returned (.tuple #[])) w3) := HO.out.fin ⟨h2, h1, h3⟩ (heapSort_holds swo_ltInt dk x y hxy (by rw [HO.out.rk.sz]; exact hyn)).1 (heapSort_holds swo_ltInt dk x y hxy (by rw [HO.out.rk.sz]; exact hyn)).2
        clear HC h1 h2 h3
        go_wp2_with fail
        refine bodyPost_ret (v := .tuple #[]) (results_none rfl _ _ _) rfl ?_
        exact HZ.out
      · have h0' : ¬ ((lm : Int) = 0) := by omega
        go_upto_if 35 with fail
        go_cut [3] from 19 to 133 (fun s3 wc => ∃ (lm2 : Nat) (dk2 : Array Int), s3 = .int .i64 lm2 ∧ lm2 ≤ 64 ∧ Hid (PD w base g cap a b n d x y dk2 wc))
        case first =>
          cases p with
          | true =>
            go_wp2_with fail
            go_meet
            case rel => exact ⟨lm, dk, rfl, hlm, HO⟩
          | false =>
            have HC : Hid _ := break32 base g cap x y n dk wr HO.out.rk.sz HO.out.rk.row HO.out.hg2 (by have := HL.out; omega) hyn hn
            go_wp2_with fail
            refine Calls.mono HC.out ?_
            rintro e w3 ⟨rfl, d3, h1, h2⟩
            have HZ : Hid (PD w base g cap a b n d x y d3 w3) := HO.out.step h1 h2
            clear HC h1 h2
            go_wp2_with fail
            go_meet
            case rel => exact ⟨lm - 1, d3, by go_num, by omega, HZ⟩
        case rest =>
          obtain ⟨lm2, dk2, rfl, hlm2, HO2⟩ := hcut
          clear HO h0 h0' hlm
          have HC : Hid _ := pivot32 base g cap x y n dk2 wc HO2.out.rk.sz HO2.out.rk.row HO2.out.hg2 (by have := HL.out; omega) hyn hn
          go_wp2_with fail
          refine Calls.mono HC.out ?_
          rintro e w3 ⟨pv, hn0, rfl, hp1, hp2, hh2, hbl⟩
          have HZ : Hid (PD w base g cap a b n d x y dk2 w3) := HO2.out.same hbl
          clear HC hbl HO2
          go_upto_if 50 with fail
          go_cut [11, 12] from 19 to 133 (fun s11 s12 wc => ∃ (pv2 h2 : Nat) (dk3 : Array Int), s11 = .int .i64 pv2 ∧ s12 = .int .i64 h2 ∧ x ≤ pv2 ∧ pv2 < y ∧ h2 ≤ 2 ∧ Hid (PD w base g cap a b n d x y dk3 wc))
          case first =>
            by_cases h2 : hn0 = 2
            · subst h2
              have HC : Hid _ := reverse32 base g cap x y n dk2 w3 HZ.out.rk.sz HZ.out.rk.row (by omega) hyn hn
              go_wp2_with fail
              refine Calls.mono HC.out ?_
              rintro e w4 ⟨rfl, h1, h2, h3⟩
              have HY : Hid (PD w base g cap a b n d x y (reverseRange dk2 x y) w4) := HZ.out.step ⟨h2, h1, h3⟩ (reverseRange_holds dk2 x y hxy (by rw [HZ.out.rk.sz]; exact hyn))
              clear HC h1 h2 h3
              go_wp2_with fail
              go_meet
              case rel => exact ⟨y - 1 - (pv - x), 1, _, by go_num, rfl, by omega, by omega, by omega, HY⟩
            · have h2' : ¬ ((hn0 : Int) = 2) := by omega
              go_wp2_with fail
              go_meet
              case rel => exact ⟨pv, hn0, _, rfl, rfl, hp1, hp2, hh2, HZ⟩
          case rest =>
            obtain ⟨pv2, hh, dk3, rfl, rfl, hv1, hv2, hh3, HO3⟩ := hcut
            clear HZ hp1 hp2 hh2
            go_upto_region 15 with fail
            go_cut [68] from 19 to 133 (fun s68 wc => ∃ (tb : Bool), s68 = .bool tb ∧ Hid (PD w base g cap a b n d x y dk3 wc))
            case first =>
              cases p with
              | false =>
                go_wp2_with fail
                go_meet
                case rel => exact ⟨false, rfl, HO3⟩
              | true =>
                cases q with
                | false =>
                  go_wp2_with fail
                  go_meet
                  case rel => exact ⟨false, rfl, HO3⟩
                | true =>
                  by_cases h1 : hh = 1
                  · subst h1
                    go_wp2_with fail
                    go_meet
                    case rel => exact ⟨true, rfl, HO3⟩
                  · have h1' : ¬ ((hh : Int) = 1) := by omega
                    go_wp2_with fail
                    go_meet
                    case rel => exact ⟨_, rfl, HO3⟩
            case rest =>
              obtain ⟨tb, rfl, HO4⟩ := hcut
              clear HO3
              go_upto_if 68 with fail
              go_cut [11] from 19 to 133 (fun s11 wc => s11 = .int .i64 pv2 ∧ ∃ (dk5 : Array Int), Hid (PD w base g cap a b n d x y dk5 wc))
              case first =>
                cases tb with
                | false =>
                  go_wp2_with fail
                  go_meet
                  case rel => exact ⟨rfl, dk3, HO4⟩
                | true =>
                  obtain ⟨d5, hd5⟩ : ∃ d5, (partialInsertionSort ltInt dk3 x y).1 = d5 := ⟨_, rfl⟩
                  obtain ⟨b5, hb5⟩ : ∃ b5, (partialInsertionSort ltInt dk3 x y).2 = b5 := ⟨_, rfl⟩
                  have hh4 := partialInsertionSort_holds swo_ltInt dk3 x y (by omega) (by rw [HO4.out.rk.sz]; exact hyn) HO4.out.ah.below
                  have HC : Hid _ := pins32 base g cap x y n dk3 wc HO4.out.rk.sz HO4.out.rk.row (by omega) hyn hn
                  go_wp2_with fail
                  refine Calls.mono HC.out ?_
                  intro e w5 hpp
                  obtain ⟨he, hrk⟩ := hpp
                  rw [hb5] at he hh4
                  rw [hd5] at hrk hh4
                  subst he
                  have HY : Hid (PD w base g cap a b n d x y d5 w5) := HO4.out.step hrk hh4.1
                  have HF : Hid (b5 = true → SrtP w base g cap a b n d (.returned (.tuple #[])) w5) := fun hb => HO4.out.fin hrk hh4.1 (hh4.2 hb)
                  clear HC hd5 hb5 hrk hh4
                  cases b5 with
                  | true =>
                    go_wp2_with fail
                    refine bodyPost_ret (v := .tuple #[]) (results_none rfl _ _ _) rfl ?_
                    exact HF.out (by simp)
                  | false =>
                    go_wp2_with fail
                    go_meet
                    case rel => exact ⟨rfl, d5, HY⟩
              case rest =>
                obtain ⟨rfl, dk5, HO5⟩ := hcut
                clear HO4
                go_upto_region 17 with fail
                go_cut [87] from 19 to 133 (fun s87 wc => ∃ (tb : Bool), s87 = .bool tb ∧ Hid (PD w base g cap a b n d x y dk5 wc ∧ (tb = true → 0 < x ∧ ¬ dk5[x - 1]! < dk5[pv2]!)))
                case first =>
                  by_cases hx0 : 0 < x
                  · have hx0' : (0 : Int) < (x : Int) := by omega
                    obtain ⟨x1, hx1⟩ : ∃ x1, x = x1 + 1 := ⟨x - 1, by omega⟩
                    have hxI : (x : Int) - 1 = (x1 : Int) := by omega
                    obtain ⟨G, hG, hc, hf⟩ := Rw.fam HO5.out.rk.row
                    rw [HO5.out.rk.sz] at hc hf
                    have c1 := hc x1 (by omega)
                    have z1 := hf x1 (by omega)
                    have m1 : (x1 : Int) < (n : Int) := by omega
                    have HG1 : Hid _ := hG x1
                    have c2 := hc pv2 (by omega)
                    have z2 := hf pv2 (by omega)
                    have m2 : (pv2 : Int) < (n : Int) := by omega
                    have HG2 : Hid _ := hG pv2
                    have HX : Hid (x = x1 + 1) := hx1
                    clear hG hc hf hx1
                    by_cases hl : G x1 < G pv2
                    · have hl' : decide (G x1 < G pv2) = true := decide_eq_true hl
                      have HE : Hid (∀ wx, PD w base g cap a b n d x y dk5 wx → PD w base g cap a b n d x y dk5 wx ∧ (false = true → 0 < x ∧ ¬ dk5[x - 1]! < dk5[pv2]!)) := fun wx hp => ⟨hp, fun h => by cases h⟩
                      generalize G x1 = v1 at *
                      generalize G pv2 = v2 at *
                      go_quiet (first | (go_at_call 54; refine Calls.quiet_of_same (less32 _ _ _)))
                      go_wp2_with fail
                      go_meet
                      case rel => exact ⟨false, rfl, ⟨HO5.out.same (below_drewN (Below.refl _ _) _), fun h => by cases h⟩⟩
                    · have hl' : decide (G x1 < G pv2) = false := decide_eq_false hl
                      have HE : Hid (0 < x ∧ ¬ dk5[x - 1]! < dk5[pv2]!) := ⟨hx0, by rw [HX.out, Nat.add_sub_cancel, ← HG1.out, ← HG2.out]; exact hl⟩
                      generalize G x1 = v1 at *
                      generalize G pv2 = v2 at *
                      go_quiet (first | (go_at_call 54; refine Calls.quiet_of_same (less32 _ _ _)))
                      go_wp2_with fail
                      go_meet
                      case rel => exact ⟨true, rfl, ⟨HO5.out.same (below_drewN (Below.refl _ _) _), fun h => HE.out⟩⟩
                  · have hx0' : decide ((0 : Int) < (x : Int)) = false := decide_eq_false (by omega)
                    go_quiet (first | (go_at_call 54; refine Calls.quiet_of_same (less32 _ _ _)))
                    go_wp2_with fail
                    go_meet
                    case rel => exact ⟨false, rfl, ⟨HO5.out.same (below_drewN (Below.refl _ _) _), fun h => by cases h⟩⟩
                case rest =>
                  obtain ⟨tb, rfl, HO6⟩ := hcut
                  clear HO5
                  cases tb with
                  | true =>
                    have HC : Hid _ := partEq32 base g cap x y n pv2 dk5 wc HO6.out.1.rk.sz HO6.out.1.rk.row hv1 hv2 hyn hn
                    have HQ : Hid _ := HO6.out.2 rfl
                    go_wp2_with fail
                    refine Calls.mono HC.out ?_
                    intro e w6 hE
                    obtain ⟨mid, d6, rfl, hm1, hm2, hP⟩ := HO6.out.1.eqs hv1 hv2 HQ.out.1 (by have := HQ.out.2; omega) hE
                    have HP : Hid (PD w base g cap a b n d mid y d6 w6) := hP
                    clear HC HQ HO6 hE hP
                    go_wp2_with fail
                    go_roundw
                    case rel => exact ⟨mid, y, lm2, p, q, d6, rfl, rfl, rfl, rfl, rfl, hlm2, hm2, hyn, by omega, hyb, HP⟩
                    case measure => simp [intOf]; omega
                  | false =>
                    have HC : Hid _ := part32 base g cap x y n pv2 dk5 wc HO6.out.1.rk.sz HO6.out.1.rk.row hv1 hv2 hyn hn
                    go_wp2_with fail
                    refine Calls.mono HC.out ?_
                    intro e w6 hE
                    obtain ⟨mid, ap, d6, rfl, hm1, hm2, hP⟩ := HO6.out.1.part hE
                    have HP : Hid (PM w base g cap a b n d x y mid d6 w6) := hP
                    clear HC HO6 hE hP
                    obtain ⟨lf, hlf⟩ : ∃ lf, lf = mid - x := ⟨_, rfl⟩
                    obtain ⟨rt, hrt⟩ : ∃ rt, rt = y - mid := ⟨_, rfl⟩
                    have hlfI : (mid : Int) - (x : Int) = (lf : Int) := by omega
                    have hrtI : (y : Int) - (mid : Int) = (rt : Int) := by omega
                    have hR : Hid (lf = mid - x ∧ rt = y - mid) := ⟨hlf, hrt⟩
                    clear hlf hrt
                    have hxk : y - x ≤ k := by omega
                    by_cases hc : lf < rt
                    · have hc' : (lf : Int) < (rt : Int) := by omega
                      have HC : Hid _ := IH.out (mid - x) (by omega) base g cap x mid n lm2 d6 w6 (Nat.le_refl _) HP.out.rk.sz HP.out.rk.row HP.out.hg2 hm1 (by omega) hn hlm2 (HP.out.ah.less (by omega))
                      go_wp2_with fail
                      refine Calls.mono HC.out ?_
                      intro e w7 hE
                      obtain ⟨rfl, d7, hP⟩ := HP.out.left hE
                      have HP7 : Hid (PD w base g cap a b n d (mid + 1) y d7 w7) := hP
                      clear HC HP hE hP
                      go_wp2_with fail
                      go_roundw
                      case rel => exact ⟨mid + 1, y, lm2, _, ap, d7, by go_num, rfl, rfl, rfl, rfl, hlm2, by omega, hyn, by omega, hyb, HP7⟩
                      case measure => simp [intOf]; omega
                    · have hc' : ¬ ((lf : Int) < (rt : Int)) := by omega
                      have HC : Hid _ := IH.out (y - (mid + 1)) (by omega) base g cap (mid + 1) y n lm2 d6 w6 (Nat.le_refl _) HP.out.rk.sz HP.out.rk.row HP.out.hg2 (by omega) (by omega) hn hlm2 (Or.inr fun i i1 i2 => by rw [Nat.add_sub_cancel]; exact HP.out.hi i (by omega) i2)
                      go_wp2_with fail
                      refine Calls.mono HC.out ?_
                      intro e w7 hE
                      obtain ⟨rfl, d7, hP⟩ := HP.out.right hE
                      have HP7 : Hid (PD w base g cap a b n d x mid d7 w7) := hP
                      clear HC HP hE hP
                      go_wp2_with fail
                      go_roundw
                      case rel => exact ⟨x, mid, lm2, _, ap, d7, rfl, rfl, rfl, rfl, rfl, hlm2, by omega, by omega, by omega, by omega, HP7⟩
                      case measure => simp [intOf]; omega

end Go.Proofs.Qxb6626314a
