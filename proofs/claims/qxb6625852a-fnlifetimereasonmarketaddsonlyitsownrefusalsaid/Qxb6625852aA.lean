/-
  Seat b6625852a: the callees' contracts.
-/
import Derived.Test.Qxb6625852aRows
import Derived.WalkKit
import Derived.WalkSpells
import Derived.RegionTactic
import Derived.ChangeAlike
namespace Go.Proofs.Qxb6625852a
open Go.RowKit

def rMarket : ByteArray := ⟨#[109, 97, 114, 107, 101, 116, 95, 110, 101, 101, 100, 115, 95, 105, 111, 99, 95, 111, 114, 95, 102, 111, 107]⟩
def rMissing : ByteArray := ⟨#[109, 105, 115, 115, 105, 110, 103, 95, 101, 120, 112, 105, 114, 121]⟩
def rNotAllowed : ByteArray := ⟨#[101, 120, 112, 105, 114, 121, 95, 110, 111, 116, 95, 97, 108, 108, 111, 119, 101, 100]⟩
def rPast : ByteArray := ⟨#[101, 120, 112, 105, 114, 121, 95, 105, 110, 95, 112, 97, 115, 116]⟩
def rGfa : ByteArray := ⟨#[103, 102, 97, 95, 111, 117, 116, 115, 105, 100, 101, 95, 97, 117, 99, 116, 105, 111, 110]⟩

/-- tenurebook.expiryReason, as bytes. -/
def exR (tif e : Int) : ByteArray :=
  if tif = 3 then (if e = 0 then rMissing else ⟨#[]⟩) else (if e = 0 then ⟨#[]⟩ else rNotAllowed)

/-- tenurebook.lifetimeReason, as bytes. -/
def ltR (t typ tif e : Int) : ByteArray :=
  if typ = 2 ∧ tif ≠ 2 ∧ tif ≠ 4 then rMarket
  else if tif = 3 then (if e = 0 then rMissing else if e ≤ t then rPast else ⟨#[]⟩)
  else if e = 0 then (if tif = 6 then rGfa else ⟨#[]⟩) else rNotAllowed

theorem ret_str {a b : ByteArray} (h : a = b) : Ending.returned (.string a) = .returned (.string b) := by rw [h]

set_option maxHeartbeats 400000 in
theorem ex_any (tif e : Int) (w : World) :
    Calls Try.prog 12 #[.int .u8 tif, .int .i64 e] w fun r w' => r = .returned (.string (exR tif e)) ∧ w' = w := by
  by_cases h3 : tif = 3
  · subst h3
    by_cases h0 : e = 0
    · subst h0
      go_enter Try.func12, Try.ntmps12
      go_wp2
      go_ret
      exact ⟨rfl, rfl⟩
    · have h0' : (e == 0) = false := by simpa using h0
      have hx : exR 3 e = ⟨#[]⟩ := by simp [exR, h0]
      rw [hx]
      go_enter Try.func12, Try.ntmps12
      go_wp2
      go_ret
      exact ⟨rfl, rfl⟩
  · have h3' : (tif == 3) = false := by simpa using h3
    have h3n : (tif != 3) = true := by simpa using h3
    by_cases h0 : e = 0
    · subst h0
      have hx : exR tif 0 = ⟨#[]⟩ := by simp [exR, h3]
      rw [hx]
      go_enter Try.func12, Try.ntmps12
      go_wp2
      go_ret
      exact ⟨rfl, rfl⟩
    · have h0' : (e == 0) = false := by simpa using h0
      have h0n : (e != 0) = true := by simpa using h0
      have hx : exR tif e = rNotAllowed := by simp [exR, h0, h3]
      rw [hx]
      go_enter Try.func12, Try.ntmps12
      go_wp2
      go_ret
      exact ⟨rfl, rfl⟩

/-- The struct tenurebook.Submit as a value. -/
abbrev sub (t : Int) (m i p : ByteArray) (sd ty : Int) (pr sz : ByteArray) (tif e : Int) (pg : Option Addr) : Value :=
  .agg #[.int .i64 t, .string m, .string i, .string p, .int .u8 sd, .int .u8 ty, .string pr, .string sz, .int .u8 tif, .int .i64 e, .pointer pg]

theorem ne_missing : rMissing.toList.isEmpty = false := by decide +kernel
theorem ne_notAllowed : rNotAllowed.toList.isEmpty = false := by decide +kernel

set_option maxHeartbeats 1000000 in
theorem lt_any (t : Int) (m i p : ByteArray) (sd ty : Int) (pr sz : ByteArray) (tif e : Int) (pg : Option Addr) (w : World) :
    Calls Try.prog 11 #[sub t m i p sd ty pr sz tif e pg] w fun r w' => r = .returned (.string (ltR t ty tif e)) ∧ Below w.heap.size w w' := by
  have n1 := ne_missing
  have n2 := ne_notAllowed
  by_cases hm : ty = 2 ∧ tif ≠ 2 ∧ tif ≠ 4
  · obtain ⟨h1, h2, h3⟩ := hm
    have hx : ltR t ty tif e = rMarket := by simp [ltR, h1, h2, h3]
    rw [hx]
    subst h1
    have h2' : (tif != 2) = true := by simpa using h2
    have h3' : (tif != 4) = true := by simpa using h3
    go_enter Try.func11, Try.ntmps11
    go_wp2
    go_ret
    exact ⟨rfl, (Below.refl _ _).alloc (Nat.le_refl _) _⟩
  · have key : (ty ≠ 2) ∨ (ty = 2 ∧ tif = 2) ∨ (ty = 2 ∧ tif = 4) := by omega
    clear hm
    rcases key with h1 | ⟨rfl, rfl⟩ | ⟨rfl, rfl⟩
    · have h1' : (ty == 2) = false := by simpa using h1
      by_cases h3 : tif = 3
      · subst h3
        by_cases h0 : e = 0
        · subst h0
          have hx : ltR t ty 3 0 = rMissing := by simp [ltR, h1]
          rw [hx]
          go_enter Try.func11, Try.ntmps11
          go_wp2_with (go_at_call 12; refine (ex_any _ _ _).mono ?_; rintro r w' ⟨rfl, rfl⟩; rw [show exR 3 0 = rMissing from rfl])
          all_goals (go_ret; exact ⟨rfl, (Below.refl _ _).alloc (Nat.le_refl _) _⟩)
        · have h0' : (e == 0) = false := by simpa using h0
          have hx1 : exR 3 e = ⟨#[]⟩ := by simp [exR, h0]
          by_cases hle : e ≤ t
          · have hx : ltR t ty 3 e = rPast := by simp [ltR, h1, h0, hle]
            rw [hx]
            go_enter Try.func11, Try.ntmps11
            go_wp2_with (go_at_call 12; refine (ex_any _ _ _).mono ?_; rintro r w' ⟨rfl, rfl⟩; rw [hx1])
            all_goals (go_ret; exact ⟨rfl, (Below.refl _ _).alloc (Nat.le_refl _) _⟩)
          · have hx : ltR t ty 3 e = ⟨#[]⟩ := by simp [ltR, h1, h0, hle]
            rw [hx]
            go_enter Try.func11, Try.ntmps11
            go_wp2_with (go_at_call 12; refine (ex_any _ _ _).mono ?_; rintro r w' ⟨rfl, rfl⟩; rw [hx1])
            all_goals (go_ret; exact ⟨rfl, (Below.refl _ _).alloc (Nat.le_refl _) _⟩)
      · have h3' : (tif == 3) = false := by simpa using h3
        by_cases h0 : e = 0
        · subst h0
          have hx1 : exR tif 0 = ⟨#[]⟩ := by simp [exR, h3]
          by_cases h6 : tif = 6
          · subst h6
            have hx : ltR t ty 6 0 = rGfa := by simp [ltR, h1]
            rw [hx]
            go_enter Try.func11, Try.ntmps11
            go_wp2_with (go_at_call 12; refine (ex_any _ _ _).mono ?_; rintro r w' ⟨rfl, rfl⟩; rw [hx1])
            all_goals (go_ret; exact ⟨rfl, (Below.refl _ _).alloc (Nat.le_refl _) _⟩)
          · have h6' : (tif == 6) = false := by simpa using h6
            have hx : ltR t ty tif 0 = ⟨#[]⟩ := by simp [ltR, h1, h3, h6]
            rw [hx]
            go_enter Try.func11, Try.ntmps11
            go_wp2_with (go_at_call 12; refine (ex_any _ _ _).mono ?_; rintro r w' ⟨rfl, rfl⟩; rw [hx1])
            all_goals (go_ret; exact ⟨rfl, (Below.refl _ _).alloc (Nat.le_refl _) _⟩)
        · have h0' : (e == 0) = false := by simpa using h0
          have hx1 : exR tif e = rNotAllowed := by simp [exR, h3, h0]
          have hx : ltR t ty tif e = rNotAllowed := by simp [ltR, h1, h3, h0]
          rw [hx]
          go_enter Try.func11, Try.ntmps11
          go_wp2_with (go_at_call 12; refine (ex_any _ _ _).mono ?_; rintro r w' ⟨rfl, rfl⟩; rw [hx1])
          all_goals (go_ret; exact ⟨rfl, (Below.refl _ _).alloc (Nat.le_refl _) _⟩)
    · by_cases h0 : e = 0
      · subst h0
        have hx : ltR t 2 2 0 = ⟨#[]⟩ := by simp [ltR]
        rw [hx]
        go_enter Try.func11, Try.ntmps11
        go_wp2_with (go_at_call 12; refine (ex_any _ _ _).mono ?_; rintro r w' ⟨rfl, rfl⟩; rw [show exR 2 0 = ⟨#[]⟩ from rfl])
        all_goals (go_ret; exact ⟨rfl, (Below.refl _ _).alloc (Nat.le_refl _) _⟩)
      · have h0' : (e == 0) = false := by simpa using h0
        have hx1 : exR 2 e = rNotAllowed := by simp [exR, h0]
        have hx : ltR t 2 2 e = rNotAllowed := by simp [ltR, h0]
        rw [hx]
        go_enter Try.func11, Try.ntmps11
        go_wp2_with (go_at_call 12; refine (ex_any _ _ _).mono ?_; rintro r w' ⟨rfl, rfl⟩; rw [hx1])
        all_goals (go_ret; exact ⟨rfl, (Below.refl _ _).alloc (Nat.le_refl _) _⟩)
    · by_cases h0 : e = 0
      · subst h0
        have hx : ltR t 2 4 0 = ⟨#[]⟩ := by simp [ltR]
        rw [hx]
        go_enter Try.func11, Try.ntmps11
        go_wp2_with (go_at_call 12; refine (ex_any _ _ _).mono ?_; rintro r w' ⟨rfl, rfl⟩; rw [show exR 4 0 = ⟨#[]⟩ from rfl])
        all_goals (go_ret; exact ⟨rfl, (Below.refl _ _).alloc (Nat.le_refl _) _⟩)
      · have h0' : (e == 0) = false := by simpa using h0
        have hx1 : exR 4 e = rNotAllowed := by simp [exR, h0]
        have hx : ltR t 2 4 e = rNotAllowed := by simp [ltR, h0]
        rw [hx]
        go_enter Try.func11, Try.ntmps11
        go_wp2_with (go_at_call 12; refine (ex_any _ _ _).mono ?_; rintro r w' ⟨rfl, rfl⟩; rw [hx1])
        all_goals (go_ret; exact ⟨rfl, (Below.refl _ _).alloc (Nat.le_refl _) _⟩)

set_option maxHeartbeats 1000000 in
theorem zzlt_any (t : Int) (m i p : ByteArray) (sd ty : Int) (pr sz : ByteArray) (tif e : Int) (pg : Option Addr) (w : World) :
    Calls Try.prog 8 #[sub t m i p sd ty pr sz tif e pg] w fun r w' => r = .returned (.string (ltR t ty tif e)) ∧ Below w.heap.size w w' := by
  go_enter Try.func8, Try.ntmps8
  go_wp2_with (go_at_call 11; refine (lt_any t m i p sd ty pr sz tif e pg _).mono ?_; rintro r w' ⟨rfl, hb⟩)
  go_ret
  exact ⟨rfl, ((Below.refl _ _).alloc (Nat.le_refl _) _).trans (hb.mono (by simp))⟩

end Go.Proofs.Qxb6625852a
