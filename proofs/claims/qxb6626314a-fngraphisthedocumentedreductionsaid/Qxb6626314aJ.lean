/-
  Seat b6626314a: slices.Sort at int32, and at int64.
-/
import Derived.Test.Qxb6626314aI
import Derived.Shelf.SortM.Plain
import Derived.Shelf.SortM.SortNone
import Derived.Ground.SlgmProg
namespace Go.Proofs
open Go.Shelf
shelf_lay_g SlLaysM.n5 Slgm 5 at Try 28 as Try.sort28
end Go.Proofs
namespace Go.Proofs.Qxb6626314a
open Go.RowKit Go.Maps Go.Sort
set_option linter.unusedVariables false

theorem bits35 (x : Int) (w : World) (h0 : 0 ≤ x) (h1 : x ≤ 18446744073709551615) :
    Calls Try.prog 35 #[.int .u64 x] w fun e w' => e = .returned (.int .i64 (Lib.bitLen x.toNat)) ∧ w' = w :=
  calls_of_every_depth fun D => AnySM.bits_LenIn (ρ := Try.sort28_ren) { Try.sort28 with } D x w h0 h1
theorem bits_le (x : Int) (h0 : 0 ≤ x) (h1 : x ≤ 18446744073709551615) : Lib.bitLen x.toNat ≤ 64 := Lib.bitLen_le x.toNat 64 (by omega) (by omega)

theorem perm_sorted {n : Nat} {d d' : Array Int} (hd : d.size = n) (hp : PermIn 0 n d d') (hs : SortedIn ltInt 0 n d') : d'.toList.Perm d.toList ∧ d'.toList.Pairwise (· ≤ ·) := by
  have h1 : d'.size = n := hp.1.trans hd
  refine ⟨?_, ?_⟩
  · have h := hp.2.2
    rw [← hd] at h
    have e1 : d'.extract 0 d.size = d' := by rw [← hp.1]; simp
    rw [e1] at h
    simpa using h
  · rw [List.pairwise_iff_getElem]
    intro i j hi hj hij
    have hj' : j < n := by simpa [h1] using hj
    have h := lt_false.1 (hs i j (Nat.zero_le _) hij hj')
    rw [getElem!_pos d' j (by omega), getElem!_pos d' i (by omega)] at h
    simp only [Array.getElem_toList]
    omega

set_option maxRecDepth 100000 in
theorem ins_nil (w : World) : Calls Try.prog 48 #[.slice none 0 0, .int .i64 0, .int .i64 0] w fun e w' => e = .returned (.tuple #[]) ∧ w' = w := by
  go_enter Try.func48, Try.ntmps48
  go_wp2_with fail
  go_loop [6] (fun v => v = .int .i64 1) (fun _ => 0)
  case atStart => rfl
  case round =>
    subst hrel
    go_wp2_with fail
    go_end0
    exact ⟨rfl, rfl⟩
set_option maxRecDepth 100000 in
theorem pdq_nil (lm : Int) (w : World) : Calls Try.prog 36 #[.slice none 0 0, .int .i64 0, .int .i64 0, .int .i64 lm] w fun e w' => e = .returned (.tuple #[]) ∧ w' = w := by
  have HC : Hid _ := ins_nil w
  go_enter Try.func36, Try.ntmps36
  go_wp2_with fail
  go_loop [1, 2] (fun v1 v2 => v1 = .int .i64 0 ∧ v2 = .int .i64 0) (fun _ _ => 0)
  case atStart => exact ⟨rfl, rfl⟩
  case round =>
    obtain ⟨rfl, rfl⟩ := hrel
    go_wp2_with fail
    refine Calls.mono HC.out ?_
    rintro e w1 ⟨rfl, rfl⟩
    go_wp2_with fail
    refine bodyPost_ret (v := .tuple #[]) (results_none rfl _ _ _) rfl ?_
    exact ⟨rfl, rfl⟩
/-- slices.Sort at int32, at a row of its own. -/
theorem sort32 (base : Nat) (v : Value) (n : Nat) (xs : List Int) (w : World) (h : w.ownsRow base 21 1 v n (ints xs)) (hn : n ≤ 100000000) :
    Calls Try.prog 30 #[v] w fun e w' => e = .returned (.tuple #[]) ∧ ∃ ys : List Int, w'.ownsRow base 21 1 v n (ints ys) ∧ ys.Perm xs ∧ ys.Pairwise (· ≤ ·) ∧ KeepF (fun k => v.ownBlock = some k) w w' := by
  have hl : xs.length = n := by have := h.1; simpa [ints] using this
  rcases id h.2 with ⟨rfl, rfl⟩ | ⟨g, cap, cur, rfl, hbg, hgh, _⟩
  · obtain rfl : xs = [] := List.eq_nil_of_length_eq_zero hl
    have HB : Hid _ := bits35 0 w (by omega) (by omega)
    have HC : Hid _ := pdq_nil (Lib.bitLen (0 : Int).toNat) w
    clear h
    generalize Lib.bitLen (0 : Int).toNat = lm at HB HC
    go_enter Try.func30, Try.ntmps30
    go_wp2_with (first | (go_at_call 35; refine Calls.mono HB.out ?_; rintro e w' ⟨rfl, rfl⟩))
    refine Calls.mono HC.out ?_
    rintro e w1 ⟨rfl, rfl⟩
    go_wp2_with fail
    go_end0
    exact ⟨rfl, [], ⟨rfl, Or.inl ⟨rfl, rfl⟩⟩, List.Perm.refl _, List.Pairwise.nil, KeepF.refl _ _⟩
  · have hd : xs.toArray.size = n := by simpa using hl
    have hR : Rw w base g cap xs.toArray := by
      unfold Rw
      rw [hd]
      exact h
    have hg : g < w.heap.size := (Array.getElem?_eq_some_iff.1 hgh).1
    have HB : Hid _ := bits35 (n : Int) w (by omega) (by omega)
    have hlim := bits_le (n : Int) (by omega) (by omega)
    have HC : Hid _ := pdq32 n base g cap 0 n n (Lib.bitLen (n : Int).toNat) xs.toArray w (by omega) hd hR hg (Nat.zero_le _) (Nat.le_refl _) hn hlim (Or.inl rfl)
    have HD : Hid _ := hd
    clear h hgh hbg hR hl hd hlim
    generalize Lib.bitLen (n : Int).toNat = lm at HB HC
    go_enter Try.func30, Try.ntmps30
    go_wp2_with (first | (go_at_call 35; refine Calls.mono HB.out ?_; rintro e w' ⟨rfl, rfl⟩))
    refine Calls.mono HC.out ?_
    rintro e w1 ⟨rfl, d', h1, h2, h3⟩
    go_wp2_with fail
    go_end0
    refine ⟨rfl, d'.toList, ?_, ?_⟩
    · have := h1.row
      unfold Rw at this
      rw [h1.sz] at this
      exact this
    · have hp := perm_sorted HD.out h2 h3
      exact ⟨by simpa using hp.1, hp.2, h1.keep.os, h1.keep.tape, h1.keep.output, h1.keep.size, fun k hk hn => h1.keep.block k hk (fun e => hn (by rw [e]; rfl))⟩

def int64s (zs : List Int) : List Value := zs.map (Value.int .i64)
theorem row_put {α : Type} [Inhabited α] (enc : α → Value) {w : World} {base g cap n e : Nat} {xs ys : List α} (h : w.ownsRow base e 1 (.slice (some ⟨g, 0, none⟩) n cap) n (xs.map enc)) (hy : ys.length = n) (q : Nat) : (putRow enc (Sort.ahead w q) g 0 ys.toArray).ownsRow base e 1 (.slice (some ⟨g, 0, none⟩) n cap) n (ys.map enc) ∧ KeepF (fun k => k = g) w (putRow enc (Sort.ahead w q) g 0 ys.toArray) := by
  refine ⟨⟨by simpa using hy, ?_⟩, ⟨rfl, rfl, rfl, by simp, fun k hk hn => ?_⟩⟩
  · rcases h.2 with ⟨h', _⟩ | ⟨g', cap', cur, h', hb, hg, hc, hm, hs, ht⟩
    · simp at h'
    · simp only [Value.slice.injEq, Option.some.injEq, Addr.mk.injEq, and_true, true_and] at h'
      obtain ⟨rfl, rfl⟩ := h'
      refine Or.inr ⟨g, cap, putCells enc 0 ys.toArray cur, rfl, hb, ?_, hc, hm, by simpa [putCells] using hs, ?_⟩
      · show (mapBlock _ _ _).heap[g]? = _
        unfold mapBlock
        have : (Sort.ahead w q).heap[g]? = some (.cells cur e (0, 0)) := hg
        simp only [Array.getElem?_modify, if_true, this, Option.map_some, onCells]
      · have hl0 : ((putCells enc 0 ys.toArray cur).toList.take (n * 1)).length = n := by simp [putCells, hs]; omega
        apply List.ext_getElem
        · rw [hl0]; simp [hy]
        · intro i h1 h2
          have hi : i < ys.length := by simpa using h2
          simp [putCells, hi]
  · show (mapBlock _ _ _).heap[k]? = _
    unfold mapBlock
    simp only [Array.getElem?_modify]
    rw [if_neg (fun e => hn e.symm)]
    rfl
theorem row_kept {w w' : World} {base : Nat} {e : TypeId} {size : Nat} {v : Value} {n : Nat} {xs : List Value} {row : Option Nat} (h : w.ownsRow base e size v n xs) (hg : w.grownBy w' row) (hne : ∀ g, v.ownBlock = some g → some g ≠ row) : w'.ownsRow base e size v n xs := by
  rcases id h.2 with ⟨rfl, rfl⟩ | ⟨g, cap, cur, rfl, _⟩
  · exact ⟨h.1, Or.inl ⟨rfl, rfl⟩⟩
  · exact h.kept hg (Or.inr (fun e' => hne g rfl (by simpa [Value.ownBlock] using e')))
theorem row_grow {w : World} {base e sz n : Nat} {v : Value} {xs : List Value} (h : w.ownsRow base e sz v n xs) (os : Array Obj) : (grow w os).ownsRow base e sz v n xs ∧ Below w.heap.size w (grow w os) := by
  have hb : Below w.heap.size w (grow w os) := ⟨rfl, rfl, rfl, by simp [grow], fun k hk => by simp [grow, Array.getElem?_append, hk]⟩
  exact ⟨row_kept (row := Option.none) h ⟨hb.os, hb.tape, hb.output, hb.size, fun k hk _ => hb.block k hk⟩ (fun g _ => by simp), hb⟩
/-- slices.Sort at int64, at a row of its own. -/
theorem sort64 (base : Nat) (v : Value) (n : Nat) (xs : List Int) (w : World) (h : w.ownsRow base 2 1 v n (int64s xs)) (hn : n ≤ 100000000) :
    Calls Try.prog 28 #[v] w fun e w' => e = .returned (.tuple #[]) ∧ ∃ ys : List Int, w'.ownsRow base 2 1 v n (int64s ys) ∧ ys.Perm xs ∧ ys.Pairwise (· ≤ ·) ∧ KeepF (fun k => v.ownBlock = some k) w w' := by
  have hl : xs.length = n := by have := h.1; simpa [int64s] using this
  rcases id h.2 with ⟨rfl, rfl⟩ | ⟨g, cap, cur, rfl, hbg, hgh, _⟩
  · obtain rfl : xs = [] := List.eq_nil_of_length_eq_zero hl
    refine (AnyM.slices_Sort_int_none Try.sort28 none 0 w).mono ?_
    rintro e w1 ⟨rfl, rfl⟩
    exact ⟨rfl, [], h, List.Perm.refl _, List.Pairwise.nil, KeepF.refl _ _⟩
  · have hg : g < w.heap.size := (Array.getElem?_eq_some_iff.1 hgh).1
    have hH : Holds (Value.int .i64) w g 0 xs.toArray := fun j hj => by
      have hj' : j < xs.length := by simpa using hj
      rw [Nat.zero_add]
      refine ⟨?_, h.frozenAt j⟩
      rw [h.cellAt j (by omega)]
      simp [int64s, hj']
    have hc := AnyM.slices_Sort_int Try.sort28 g 0 cap xs w hH hg (by omega)
    rw [hl] at hc
    refine hc.mono ?_
    rintro e w1 ⟨rfl, q, os, rfl⟩
    have hp := List.mergeSort_perm xs (fun x y => decide (x ≤ y))
    have hr := row_put (Value.int .i64) (ys := xs.mergeSort fun x y => decide (x ≤ y)) h (by rw [hp.length_eq]; exact hl) q
    have hr2 := row_grow hr.1 os
    refine ⟨rfl, _, hr2.1, hp, ?_, ?_⟩
    · have := List.pairwise_mergeSort (le := fun x y : Int => decide (x ≤ y)) (by intro a b c h1 h2; simp at *; omega) (by intro a b; simp; omega) xs
      exact this.imp (fun h => by simpa using h)
    · have hk := hr.2.trans (KeepF.of_below (F := fun k => k = g) hr2.2)
      exact ⟨hk.os, hk.tape, hk.output, hk.size, fun k h1 h2 => hk.block k h1 (fun e => h2 (by rw [e]; rfl))⟩

end Go.Proofs.Qxb6626314a
