/-
  Seat b6625852a: the walk of FnLifetimeReasonEmptyExactlyWhenFitAndShiftFree.
-/
import Derived.Test.Qxb6625852aC
namespace Go.Proofs.Qxb6625852a
open Go.RowKit
set_option linter.unusedVariables false

/-- The plain law: a shift moves nothing. -/
theorem lt_shift0 (t d ty tif : Int) : ltR (t + d) ty tif 0 = ltR t ty tif 0 := by
  unfold ltR; simp
theorem lt_shift (t d ty tif e : Int) (h0 : e ≠ 0) (hf : ShiftFine t e d) : ltR (t + d) ty tif (e + d) = ltR t ty tif e := by
  obtain ⟨_, _, h⟩ := hf
  obtain ⟨_, _, hz⟩ := h h0
  unfold ltR
  simp [h0, hz]

/-- What is left of the walk behind the second call, at each way. -/
theorem market_toList : rMarket.toList.isEmpty = false := by decide +kernel
theorem past_toList : rPast.toList.isEmpty = false := by decide +kernel
theorem gfa_toList : rGfa.toList.isEmpty = false := by decide +kernel

set_option maxHeartbeats 2000000 in
theorem law_empty (t : Int) (m i p : ByteArray) (sd ty : Int) (pr sz : ByteArray) (tif e : Int) (pg : Option Addr) (d : Int) (w : World) (h1 : m.size ≤ maxLen) (h2 : i.size ≤ maxLen) (h3 : p.size ≤ maxLen) (h4 : pr.size ≤ maxLen) (h5 : sz.size ≤ maxLen) (h6 : IsPeg w pg)
    (t1 : -9223372036854775808 ≤ t) (t2 : t ≤ 9223372036854775807) (e1 : -9223372036854775808 ≤ e) (e2 : e ≤ 9223372036854775807) (d1 : -9223372036854775808 ≤ d) (d2 : d ≤ 9223372036854775807) :
    Calls Try.prog 3 #[.int .i64 t, .string m, .string i, .string p, .int .u8 sd, .int .u8 ty, .string pr, .string sz, .int .u8 tif, .int .i64 e, .pointer pg, .int .i64 d] w fun r w' => r = .returned (.bool true) ∧ Below w.heap.size w w' := by
  go_enter Try.func3, Try.ntmps3
  go_wp2_with fail
  refine (bytesE_any t m i p sd ty pr sz tif e pg d _ h1 h2 h3 h4 h5 h6).mono ?_
  rintro r w' ⟨⟨b, rfl⟩, hw⟩
  have hw := hw.symm
  subst hw
  cases b
  · go_wp2_with fail
    go_ret
    exact ⟨rfl, Below.refl _ _⟩
  go_wp2_with fail
  refine (size_any m i p pr sz pg _ h1 h2 h3 h4 h5 h6).mono ?_
  rintro r w' ⟨⟨b, rfl⟩, hw⟩
  have hw := hw.symm
  subst hw
  cases b
  · go_wp2_with fail
    go_ret
    exact ⟨rfl, Below.refl _ _⟩
  go_wp2_with fail
  refine (shift_any t e d _ t1 t2 e1 e2 d1 d2).mono ?_
  rintro r w' ⟨hr | ⟨hr, hf⟩, hw⟩
  · subst hr
    have hw := hw.symm
    subst hw
    go_wp2_with fail
    go_ret
    exact ⟨rfl, Below.refl _ _⟩
  subst hr
  have hw := hw.symm
  subst hw
  go_wp2_with fail
  refine (mk_any t m i p sd ty pr sz tif e pg _ h6).mono ?_
  rintro r w1 ⟨⟨q, rfl⟩, b1⟩
  clear h1 h2 h3 h4 h5 h6
  go_wp2_with fail
  refine (zzlt_any t m i p sd ty pr sz tif e q _).mono ?_
  rintro r w2 ⟨rfl, b2⟩
  have hb : Below w.heap.size w w2 := b1.trans (b2.mono b1.size)
  clear b1 b2
  have f1 : -9223372036854775808 ≤ t + d := hf.1
  have f2 : t + d ≤ 9223372036854775807 := hf.2.1
  by_cases h0 : e = 0
  · subst h0
    go_wp2_with fail
    refine (zzlt_any (t + d) ⟨#[]⟩ ⟨#[]⟩ ⟨#[]⟩ 0 ty ⟨#[]⟩ ⟨#[]⟩ tif 0 none _).mono ?_
    rintro r w3 ⟨rfl, b3⟩
    have hb3 : Below w.heap.size w w3 := hb.trans (b3.mono hb.size)
    clear hb b3 hf
    rw [lt_shift0]
    have k1 := market_toList
    have k2 := past_toList
    have k3 := gfa_toList
    have k4 := ne_missing
    have k5 := ne_notAllowed
    by_cases hm : ty = 2 ∧ tif ≠ 2 ∧ tif ≠ 4
    · obtain ⟨rfl, g2, g4⟩ := hm
      rw [lt_market t tif 0 g2 g4]
      have g2' : (tif == 2) = false := by simpa using g2
      have g4' : (tif == 4) = false := by simpa using g4
      go_wp2
      all_goals (go_ret; exact ⟨rfl, hb3⟩)
    · rw [lt_limit t ty tif 0 hm]
      have key : (ty ≠ 2) ∨ (ty = 2 ∧ tif = 2) ∨ (ty = 2 ∧ tif = 4) := by omega
      clear hm
      rcases key with k | ⟨rfl, rfl⟩ | ⟨rfl, rfl⟩
      · have k' : (ty != 2) = true := by simpa using k
        by_cases g3 : tif = 3
        · subst g3
          rw [show ltR t 1 3 0 = rMissing from by simp [ltR]]
          go_wp2
          all_goals (go_ret; exact ⟨rfl, hb3⟩)
        · have g3' : (tif == 3) = false := by simpa using g3
          by_cases g6 : tif = 6
          · subst g6
            rw [show ltR t 1 6 0 = rGfa from by simp [ltR]]
            go_wp2
            all_goals (go_ret; exact ⟨rfl, hb3⟩)
          · have g6' : (tif != 6) = true := by simpa using g6
            rw [show ltR t 1 tif 0 = ⟨#[]⟩ from by simp [ltR, g3, g6]]
            go_wp2
            all_goals (go_ret; exact ⟨rfl, hb3⟩)
      · rw [show ltR t 1 2 0 = ⟨#[]⟩ from by simp [ltR]]
        go_wp2
        all_goals (go_ret; exact ⟨rfl, hb3⟩)
      · rw [show ltR t 1 4 0 = ⟨#[]⟩ from by simp [ltR]]
        go_wp2
        all_goals (go_ret; exact ⟨rfl, hb3⟩)
  · obtain ⟨f3, f4, f5⟩ := hf.2.2 h0
    have h0' : (e != 0) = true := by simpa using h0
    have h0'' : (e == 0) = false := by simpa using h0
    go_wp2_with fail
    refine (zzlt_any (t + d) ⟨#[]⟩ ⟨#[]⟩ ⟨#[]⟩ 0 ty ⟨#[]⟩ ⟨#[]⟩ tif (e + d) none _).mono ?_
    rintro r w3 ⟨rfl, b3⟩
    have hb3 : Below w.heap.size w w3 := hb.trans (b3.mono hb.size)
    rw [lt_shift t d ty tif e h0 hf]
    clear hb b3 hf
    have k1 := market_toList
    have k2 := past_toList
    have k3 := gfa_toList
    have k4 := ne_missing
    have k5 := ne_notAllowed
    by_cases hm : ty = 2 ∧ tif ≠ 2 ∧ tif ≠ 4
    · obtain ⟨rfl, g2, g4⟩ := hm
      rw [lt_market t tif e g2 g4]
      have g2' : (tif == 2) = false := by simpa using g2
      have g4' : (tif == 4) = false := by simpa using g4
      go_wp2
      all_goals (go_ret; exact ⟨rfl, hb3⟩)
    · rw [lt_limit t ty tif e hm]
      have key : (ty ≠ 2) ∨ (ty = 2 ∧ tif = 2) ∨ (ty = 2 ∧ tif = 4) := by omega
      clear hm
      rcases key with k | ⟨rfl, rfl⟩ | ⟨rfl, rfl⟩
      · have k' : (ty != 2) = true := by simpa using k
        by_cases g3 : tif = 3
        · subst g3
          by_cases hle : e ≤ t
          · have hle' : ¬ t < e := by omega
            rw [show ltR t 1 3 e = rPast from by simp [ltR, h0, hle]]
            go_wp2
            all_goals (go_ret; exact ⟨rfl, hb3⟩)
          · have hle' : t < e := by omega
            rw [show ltR t 1 3 e = ⟨#[]⟩ from by simp [ltR, h0, hle]]
            go_wp2
            all_goals (go_ret; exact ⟨rfl, hb3⟩)
        · have g3' : (tif == 3) = false := by simpa using g3
          rw [show ltR t 1 tif e = rNotAllowed from by simp [ltR, g3, h0]]
          go_wp2
          all_goals (go_ret; exact ⟨rfl, hb3⟩)
      · rw [show ltR t 1 2 e = rNotAllowed from by simp [ltR, h0]]
        go_wp2
        all_goals (go_ret; exact ⟨rfl, hb3⟩)
      · rw [show ltR t 1 4 e = rNotAllowed from by simp [ltR, h0]]
        go_wp2
        all_goals (go_ret; exact ⟨rfl, hb3⟩)

end Go.Proofs.Qxb6625852a
