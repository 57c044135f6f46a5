/-
  Seat b6625852a: shiftOK; the two laws' walks.
-/
import Derived.Test.Qxb6625852aB
namespace Go.Proofs.Qxb6625852a
open Go.RowKit
set_option linter.unusedVariables false

def ShiftFine (t e d : Int) : Prop :=
  -9223372036854775808 ≤ t + d ∧ t + d ≤ 9223372036854775807 ∧ (e ≠ 0 → -9223372036854775808 ≤ e + d ∧ e + d ≤ 9223372036854775807 ∧ e + d ≠ 0)
def ShiftAns (t e d : Int) (r : Ending) : Prop := r = .returned (.bool false) ∨ (r = .returned (.bool true) ∧ ShiftFine t e d)

theorem fine_a {t e d : Int} (t1 : -9223372036854775808 ≤ t) (t2 : t ≤ 9223372036854775807) (e1 : -9223372036854775808 ≤ e) (e2 : e ≤ 9223372036854775807)
    (h1 : 0 < d → t ≤ 9223372036854775807 - d) (h2 : d < 0 → -9223372036854775808 - d ≤ t) (h3 : e ≠ 0 → (0 < d → e ≤ 9223372036854775807 - d) ∧ (d < 0 → -9223372036854775808 - d ≤ e) ∧ e + d ≠ 0) : ShiftFine t e d := by
  unfold ShiftFine
  refine ⟨by omega, by omega, fun h => ?_⟩
  obtain ⟨a, b, c⟩ := h3 h
  refine ⟨by omega, by omega, c⟩

set_option maxHeartbeats 1000000 in
theorem shift_any (t e d : Int) (w : World) (t1 : -9223372036854775808 ≤ t) (t2 : t ≤ 9223372036854775807) (e1 : -9223372036854775808 ≤ e) (e2 : e ≤ 9223372036854775807) (d1 : -9223372036854775808 ≤ d) (d2 : d ≤ 9223372036854775807) :
    Calls Try.prog 7 #[.int .i64 t, .int .i64 e, .int .i64 d] w fun r w' => ShiftAns t e d r ∧ w' = w := by
  by_cases h0 : e = 0
  · subst h0
    go_enter Try.func7, Try.ntmps7
    go_wp2
    all_goals go_ret
    all_goals refine ⟨?_, rfl⟩
    all_goals first
      | exact Or.inl rfl
      | exact Or.inr ⟨rfl, fine_a t1 t2 e1 e2 (fun h => by omega) (fun h => by omega) (fun h => absurd rfl h)⟩
  · have h0' : (e != 0) = true := by simpa using h0
    go_enter Try.func7, Try.ntmps7
    go_wp2
    all_goals go_ret
    all_goals refine ⟨?_, rfl⟩
    all_goals first
      | exact Or.inl rfl
      | (refine Or.inr ⟨rfl, fine_a t1 t2 e1 e2 (fun h => by omega) (fun h => by omega) (fun h => ⟨fun h => by omega, fun h => by omega, ?_⟩)⟩; first | (simp_all; done) | omega)

theorem IsPeg.below {w w' : World} {pg : Option Addr} (h : IsPeg w pg) (hb : Below w.heap.size w w') : IsPeg w' pg := by
  rcases h with rfl | ⟨b, off, r, o, rfl, c0, c1, ho⟩
  · exact Or.inl rfl
  · exact Or.inr ⟨b, off, r, o, rfl, cell_later hb c0, cell_later hb c1, ho⟩

/-- The plain law behind FnLifetimeReasonMarketAddsOnlyItsOwnRefusal. -/
theorem lt_market (t tif e : Int) (h2 : tif ≠ 2) (h4 : tif ≠ 4) : ltR t 2 tif e = rMarket := by simp [ltR, h2, h4]
theorem lt_limit (t ty tif e : Int) (h : ¬ (ty = 2 ∧ tif ≠ 2 ∧ tif ≠ 4)) : ltR t ty tif e = ltR t 1 tif e := by
  unfold ltR
  rw [if_neg h, if_neg (show ¬ ((1 : Int) = 2 ∧ tif ≠ 2 ∧ tif ≠ 4) by omega)]

set_option maxHeartbeats 1000000 in
theorem law_market (t : Int) (m i p : ByteArray) (sd ty : Int) (pr sz : ByteArray) (tif e : Int) (pg : Option Addr) (w : World) (h1 : m.size ≤ maxLen) (h2 : i.size ≤ maxLen) (h3 : p.size ≤ maxLen) (h4 : pr.size ≤ maxLen) (h5 : sz.size ≤ maxLen) (h6 : IsPeg w pg) :
    Calls Try.prog 4 #[.int .i64 t, .string m, .string i, .string p, .int .u8 sd, .int .u8 ty, .string pr, .string sz, .int .u8 tif, .int .i64 e, .pointer pg] w fun r w' => r = .returned (.bool true) ∧ Below w.heap.size w w' := by
  go_enter Try.func4, Try.ntmps4
  go_wp2_with fail
  refine (bytesM_any t m i p sd ty pr sz tif e pg _ h1 h2 h3 h4 h5 h6).mono ?_
  rintro r w' ⟨⟨b, rfl⟩, hw⟩
  have hw := hw.symm
  subst hw
  cases b
  · go_wp2_with fail
    go_ret
    exact ⟨rfl, Below.refl _ _⟩
  go_wp2_with fail
  refine (size_any m i p pr sz pg _ h1 h2 h3 h4 h5 h6).mono ?_
  rintro r w' ⟨⟨b, rfl⟩, hw⟩
  have hw := hw.symm
  subst hw
  cases b
  · go_wp2_with fail
    go_ret
    exact ⟨rfl, Below.refl _ _⟩
  go_wp2_with fail
  refine (mk_any t m i p sd ty pr sz tif e pg _ h6).mono ?_
  rintro r w1 ⟨⟨q, rfl⟩, b1⟩
  have g1 := h6.below b1
  go_wp2_with fail
  refine (zzlt_any t m i p sd ty pr sz tif e q _).mono ?_
  rintro r w2 ⟨rfl, b2⟩
  have g2 := g1.below b2
  go_wp2_with fail
  refine (mk_any t m i p sd 1 pr sz tif e pg _ g2).mono ?_
  rintro r w3 ⟨⟨q3, rfl⟩, b3⟩
  go_wp2_with fail
  refine (zzlt_any t m i p sd 1 pr sz tif e q3 _).mono ?_
  rintro r w4 ⟨rfl, b4⟩
  have hb : Below w.heap.size w w4 := ((b1.trans (b2.mono b1.size)).trans (b3.mono (Nat.le_trans b1.size b2.size))).trans (b4.mono (Nat.le_trans b1.size (Nat.le_trans b2.size b3.size)))
  clear b1 b2 b3 b4 h6 g1 g2
  by_cases hm : ty = 2 ∧ tif ≠ 2 ∧ tif ≠ 4
  · obtain ⟨rfl, k2, k4⟩ := hm
    rw [lt_market t tif e k2 k4]
    generalize ltR t 1 tif e = s
    have k2' : (tif != 2) = true := by simpa using k2
    have k4' : (tif != 4) = true := by simpa using k4
    unfold rMarket
    go_wp2
    go_ret
    exact ⟨rfl, hb⟩
  · rw [lt_limit t ty tif e hm]
    generalize ltR t 1 tif e = s
    have key : (ty ≠ 2) ∨ (ty = 2 ∧ tif = 2) ∨ (ty = 2 ∧ tif = 4) := by omega
    clear hm
    rcases key with k | ⟨rfl, rfl⟩ | ⟨rfl, rfl⟩
    · have k' : (ty == 2) = false := by simpa using k
      go_wp2
      go_ret
      exact ⟨rfl, hb⟩
    · go_wp2
      go_ret
      exact ⟨rfl, hb⟩
    · go_wp2
      go_ret
      exact ⟨rfl, hb⟩

end Go.Proofs.Qxb6625852a
