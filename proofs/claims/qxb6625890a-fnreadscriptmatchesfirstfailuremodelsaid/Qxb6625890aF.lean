/-
  Seat b6625890a: meetWriter.
-/
import Derived.Test.Qxb6625890aE
namespace Go.Proofs.Qxb6625890a
open Go.RowKit Go.Maps
set_option linter.unusedVariables false

section
variable {w w' : World} {F : Nat → Prop} {cb tb db mi N lim lim' : Nat} {vi vr vt vi' vr' : Value} {f : Int → Option Value} {ends : List Int} {out out' : Nat → Option OpC} {items reads items' reads' : List (Int × Int)} {dm : Int → Option (List Int)}

/-- The item's writer wr is another active transaction than t. -/
def conf (ends : List Int) (wr t : Int) : Bool := decide (0 ≤ wr) && (wr != t) && (ends.getD wr.toNat 0 == 0)
def MeetRel (out : Nat → Option OpC) (b : Bool) (x : List Value) (out' : Nat → Option OpC) : Prop :=
  (out 2 = none ∧ b = true ∧ ∃ bl, out' = failTo out 2 4 (bl, x)) ∨ (¬ (out 2 = none ∧ b = true) ∧ out' = out)

theorem toNat_of {z : Int} (h : 0 ≤ z) : ∃ n : Nat, z = n := ⟨z.toNat, by omega⟩

set_option maxHeartbeats 1000000 in
theorem meet_any (h : ClsV w F cb tb db mi N lim vi vr vt f ends out items reads dm) (hF : ∀ k, w.heap.size ≤ k → F k) (hl : lim ≤ 8000000) (hE : ends.length ≤ 1048576) (item : Nat) (hit : item < items.length) (t : Int) (hwr : (items.getD item (0, 0)).1 < ends.length) (kd tx : Int) (it : ByteArray) (so : Int) (hs : Bool) :
    Calls Try.prog 30 #[.pointer (some ⟨cb, 0, none⟩), opv kd tx it so hs, .int .i32 t, .int .i32 item] w fun e w' => e = .returned (.tuple #[]) ∧
      (∃ out', MeetRel out (conf ends (items.getD item (0, 0)).1 t) (opc kd tx it so hs) out' ∧ ClsV w' F cb tb db mi N lim vi vr vt f ends out' items reads dm) ∧ KeepF F w w' := by
  have hlt : cb < w.heap.size := (Array.getElem?_eq_some_iff.1 h.blk).1
  have htl : tb < w.heap.size := (Array.getElem?_eq_some_iff.1 h.tbl).1
  have hli := h.li
  have hb1 : Below w.heap.size w (w.alloc (.cells #[.int .u8 kd, .int .i64 tx, .string it, .int .i64 so, .bool hs] 45)) := (Below.refl _ _).alloc (Nat.le_refl _) _
  have h1 := h.grown hb1
  have hco := h.co 2 (by omega)
  simp only [show 1 + 2 = 3 from rfl] at hco
  have hF1 : ∀ k, (w.alloc (.cells #[.int .u8 kd, .int .i64 tx, .string it, .int .i64 so, .bool hs] 45)).heap.size ≤ k → F k := fun k hk => hF k (Nat.le_trans hb1.size hk)
  cases ho : out 2 with
  | some x =>
    rw [ho, optr_some] at hco
    have H1 : Hid _ := h1
    have HB : Hid _ := hb1
    have HO : Hid _ := ho
    clear h h1 hb1 ho hF hF1
    go_enter Try.func30, Try.ntmps30
    go_wp2_with fail
    refine bodyPost_ret (v := .tuple #[]) (results_none rfl _ _ _) rfl ?_
    exact ⟨rfl, ⟨out, Or.inr ⟨by rw [HO.out]; simp, rfl⟩, H1.out⟩, KeepF.of_below HB.out⟩
  | none =>
    rw [ho, optr_none] at hco
    have c5 := h.c5
    have c0 := h.c0
    have hr := h.its
    obtain ⟨g, cp, hv, _⟩ := row_shape_pos hr (by omega)
    subst hv
    have hgl : g < w.heap.size := (hr.lt g rfl).2
    have c1 : w.cell? ⟨g, item * 2, none⟩ = some (.int .i32 (items.getD item (0, 0)).1) := by rw [hr.cellAt (item * 2) (by omega)]; exact flat_fst items item hit
    have hi' : (item : Int) < (items.length : Int) := by omega
    have hi0 : (0 : Int) ≤ (item : Int) := by omega
    generalize (items.getD item (0, 0)).1 = z at c1 hwr
    have H1 : Hid _ := h1
    have HB : Hid _ := hb1
    have HO : Hid _ := ho
    have HF : Hid _ := hF1
    have hend := fun i hi => end_any (h1) i hi hE
    have HE : Hid _ := hend
    clear h h1 hb1 ho hF hF1 hr hend
    by_cases hz0 : 0 ≤ z
    · obtain ⟨n, rfl⟩ := toNat_of hz0
      by_cases hzt : (n : Int) = t
      · have e1 : ((n : Int) != t) = false := by simp [hzt]
        have hcf : conf ends n t = false := by simp [conf, hzt]
        have HCF : Hid _ := hcf
        clear hcf hzt
        go_enter Try.func30, Try.ntmps30
        go_wp2_with fail
        go_end0
        exact ⟨rfl, ⟨out, Or.inr ⟨by rw [HCF.out]; simp, rfl⟩, H1.out⟩, KeepF.of_below HB.out⟩
      · have e1 : ((n : Int) != t) = true := by simp [hzt]
        by_cases hz : ends.getD n 0 = 0
        · have hcf : conf ends n t = true := by simp only [conf, Int.toNat_natCast, hz]; simp [hzt]
          have HCF : Hid _ := hcf
          have HZ : Hid _ := hz
          clear hcf hzt hz
          go_enter Try.func30, Try.ntmps30
          go_wp2_with fail
          refine (HE.out n (by omega)).mono ?_
          rintro e w1 ⟨rfl, hw1⟩
          have hw1 := hw1.symm
          subst hw1
          rw [HZ.out]
          go_wp2_with fail
          refine (fail_any H1.out HF.out 2 (by omega) kd tx it so hs).mono ?_
          rintro e w2 ⟨rfl, ⟨out', hrel, hV⟩, hK⟩
          have HR : Hid _ := hrel
          have HV : Hid _ := hV
          have HK : Hid _ := hK
          clear hrel hV hK
          go_wp2_with fail
          go_end0
          refine ⟨rfl, ⟨out', Or.inl ⟨HO.out, HCF.out, ?_⟩, HV.out⟩, (KeepF.of_below HB.out).trans HK.out⟩
          rcases HR.out with ⟨h1, _⟩ | ⟨_, h2⟩
          · exact absurd HO.out h1
          · exact h2
        · have hcf : conf ends n t = false := by simp only [conf, Int.toNat_natCast]; simp; intro _; exact hz
          have HCF : Hid _ := hcf
          have e3 : (ends.getD n 0 == 0) = false := by simpa using hz
          have HZ : Hid _ := e3
          generalize hy : ends.getD n 0 = y at e3
          have HY : Hid _ := hy
          clear hcf hzt hz hy
          go_enter Try.func30, Try.ntmps30
          go_wp2_with fail
          refine (HE.out n (by omega)).mono ?_
          rintro e w1 ⟨rfl, hw1⟩
          have hw1 := hw1.symm
          subst hw1
          rw [HY.out]
          go_wp2_with fail
          go_end0
          exact ⟨rfl, ⟨out, Or.inr ⟨by rw [HCF.out]; simp, rfl⟩, H1.out⟩, KeepF.of_below HB.out⟩
    · have e1 : decide (0 ≤ z) = false := by simpa using hz0
      have hcf : conf ends z t = false := by simp [conf, e1]
      have HCF : Hid _ := hcf
      clear hcf
      go_enter Try.func30, Try.ntmps30
      go_wp2_with fail
      go_end0
      exact ⟨rfl, ⟨out, Or.inr ⟨by rw [HCF.out]; simp, rfl⟩, H1.out⟩, KeepF.of_below HB.out⟩

end
end Go.Proofs.Qxb6625890a
