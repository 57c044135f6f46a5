/-
  Seat b6626221a: zzCloneInts, slices.Clone.
-/
import Derived.Test.Qxb6626221aA
namespace Go.Proofs.Qxb6626221a
open Go.RowKit
set_option linter.unusedVariables false
attribute [local go_sem] eqNil23 neNil23 neNil22

theorem Try.info3 : (Try.prog.info? 3).map (fun i => (i.zero, i.size, i.bytes)) = some (some (.int .i64 0), 1, 8) := by kernel_rfl
theorem Try.info9 : (Try.prog.info? 9).map (fun i => (i.zero, i.size, i.bytes)) = some (some (.string ⟨#[]⟩), 1, 16) := by kernel_rfl

/-- The elements of a slice of int that leads to 'ad' are zs. -/
def Ints (w : World) (ad : Addr) (zs : List Int) : Prop :=
  zs ≠ [] → ∃ b off, ad = ⟨b, off, none⟩ ∧ ∀ i, i < zs.length → w.cell? ⟨b, off + i, none⟩ = some (.int .i64 (zs.getD i 0))

theorem Ints.below {w w' : World} {ad : Addr} {zs : List Int} (h : Ints w ad zs) (hb : Below w.heap.size w w') : Ints w' ad zs := by
  intro hne
  obtain ⟨b, off, rfl, hc⟩ := h hne
  exact ⟨b, off, rfl, fun i hi => cell_later hb (hc i hi)⟩

theorem add_eq (b off j : Nat) : (⟨b, off, none⟩ : Addr).add j = ⟨b, off + j, none⟩ := by
  unfold Addr.add
  by_cases h : j = 0 <;> simp [h]

theorem range_map_getD (zs : List Int) : (List.range zs.length).map (fun j => Value.int .i64 (zs.getD j 0)) = zs.map (Value.int .i64) := by
  apply List.ext_getElem?
  intro j
  by_cases hj : j < zs.length
  · simp [hj]
  · simp [hj]

theorem cloneInts_nil (cap : Nat) (w : World) : Calls Try.prog 6 #[.slice none 0 cap] w fun e w' => e = .returned (.slice none 0 0) ∧ w' = w := by
  go_enter Try.func6, Try.ntmps6
  go_wp2
  go_ret
  exact ⟨rfl, rfl⟩

set_option maxHeartbeats 1000000 in
theorem cloneInts_some (ad : Addr) (cap : Nat) (zs : List Int) (w : World) (hs : Ints w ad zs) (hl : zs.length ≤ 65536) :
    Calls Try.prog 6 #[.slice (some ad) zs.length cap] w fun e w' => e = .returned (.slice (some ⟨w.heap.size, 0, none⟩) zs.length zs.length) ∧
      w'.ownsRow w.heap.size 3 1 (.slice (some ⟨w.heap.size, 0, none⟩) zs.length zs.length) zs.length (zs.map (Value.int .i64)) ∧ Below w.heap.size w w' := by
  obtain ⟨i0, hi, hz0, hz1, hz2⟩ := info_parts Try.info3
  go_enter Try.func6, Try.ntmps6
  go_wp2_with (at_make; go_must (refine wpList_make_full _ rfl _ _ 23 rfl w.heap.size 3 i0 (.int .i64 0) 1 Try.underlying23 hi hz0 hz1 .i64 .i64 _ _ zs.length rfl rfl rfl rfl (by rw [hz2]; omega) (by unfold maxLen; omega) (Nat.le_refl _) ?_; intro w1 hown1 hgrow1))
  have hb1 : Below w.heap.size w w1 := (Below.refl _ _).grown hgrow1 (Nat.le_refl _) (fun j hj => by cases hj)
  clear hgrow1
  go_loopw [4] (fun i wr => ∃ (k : Nat) (xs : List Value), k ≤ zs.length ∧ i = .int .i64 k ∧ wr.ownsRow w.heap.size 3 1 (.slice (some ⟨w.heap.size, 0, none⟩) zs.length zs.length) zs.length xs ∧ (∀ j, j < k → xs[j]? = some (Value.int .i64 (zs.getD j 0))) ∧ Below w.heap.size w wr) (fun i _ => zs.length - (intOf i).toNat)
  case atStart => exact ⟨0, _, Nat.zero_le _, rfl, hown1, fun j hj => by omega, hb1⟩
  case round =>
    obtain ⟨k, xs, hk, rfl, hown, hxs, hnx⟩ := hrel
    clear hown1 hb1
    have hxl : xs.length = zs.length := by have := hown.1; omega
    by_cases hlt : k < zs.length
    · obtain ⟨b, off, rfl, hc⟩ := hs (ne_of_lt hlt)
      have hcx : wr.cell? ⟨b, off + k, none⟩ = some (.int .i64 (zs.getD k 0)) := cell_later hnx (hc k hlt)
      have hst := (hown.stored k (.int .i64 (zs.getD k 0))).1
      have hfz := hown.frozenAt k
      have hck := hown.cellAt k (by omega)
      rw [List.getElem?_eq_getElem (show k < xs.length by omega)] at hck
      have H1 : Hid _ := hst
      have H2 : Hid (Below w.heap.size w (wr.setCell ⟨w.heap.size, k, none⟩ (.int .i64 (zs.getD k 0)))) := hnx.setCell (Nat.le_refl _) _
      have H3 : Hid _ := fill_step (f := fun j => Value.int .i64 (zs.getD j 0)) (show k < xs.length by omega) hxs
      generalize xs[k] = x0 at hck
      generalize zs.getD k 0 = q at hcx H1 H2 H3
      clear hst hown hc hs hxs hnx
      go_wp2
      go_roundw
      case rel => exact ⟨k + 1, _, by omega, by go_num, H1, H3, H2⟩
      case measure => simp [intOf]; omega
    · obtain rfl : k = zs.length := by omega
      have hfin : xs = zs.map (Value.int .i64) := by rw [fill_all (xs := xs) (f := fun j => Value.int .i64 (zs.getD j 0)) (by rw [hxl]; exact hxs), hxl, range_map_getD]
      rw [hfin] at hown
      clear hfin hxs
      go_wp2
      go_ret
      exact ⟨rfl, hown, hnx⟩

/-- slices.Clone. -/
theorem clone_nil (cap : Nat) (w : World) : Calls Try.prog 11 #[.slice none 0 cap] w fun e w' => e = .returned (.slice none 0 0) ∧ w' = w := by
  go_enter Try.func11, Try.ntmps11
  go_wp2
  go_ret
  exact ⟨rfl, rfl⟩

set_option maxHeartbeats 1000000 in
theorem clone_some (ad : Addr) (cap : Nat) (zs : List Int) (w : World) (hs : Ints w ad zs) (hl : zs.length ≤ 65536) :
    Calls Try.prog 11 #[.slice (some ad) zs.length cap] w fun e w' => ∃ v, e = .returned v ∧ (v = .slice none 0 0 → False) ∧
      w'.ownsRow w.heap.size 3 1 v zs.length (zs.map (Value.int .i64)) ∧ Below w.heap.size w w' := by
  obtain ⟨i0, hi, hz0, hz1, hz2⟩ := info_parts Try.info3
  go_enter Try.func11, Try.ntmps11
  have hn : ∀ j u, (zs.map (Value.int .i64))[j]? = some u → (w.alloc (.cells #[] 3)).cell? (ad.add j) = some u := by
    intro j u hj
    have hjl : j < zs.length := by have := (List.getElem?_eq_some_iff.1 hj).1; simpa using this
    obtain ⟨b, off, rfl, hc⟩ := hs (ne_of_lt hjl)
    have h1 := hc j hjl
    simp [hjl] at hj
    subst hj
    have h2 := cell_later ((Below.refl w.heap.size w).alloc (Nat.le_refl _) (.cells #[] 3)) h1
    rw [add_eq]; simpa [hjl] using h2
  go_wp2_with (at_builtin; go_must (refine wpList_append_own _ rfl _ _ 23 rfl w.heap.size 3 i0 (.int .i64 0) 1 8 Try.underlying23 hi hz0 hz1 hz2 rfl (by decide) (.slice (some ⟨w.heap.size, 0, none⟩) 0 0) 0 [] rfl (World.ownsRow_lit w #[] 0 (Nat.le_refl _) (by unfold maxLen; omega) rfl) ad zs.length cap (zs.map (Value.int .i64)) rfl (by simp) hn (ints_oneCell .i64 zs) (by unfold maxLen; omega) (by omega) (by simp) ?_; intro v' w1 hown1 hgrow1 hnil1))
  go_ret
  refine ⟨_, rfl, ?_, ?_, ?_⟩
  · intro h; have := (hnil1.1 h).1; simp at this
  · simpa using hown1
  · exact ((Below.refl _ _).alloc (Nat.le_refl _) _).grown hgrow1 (by simp) (fun j hj => by simp [Value.ownBlock] at hj; omega)

end Go.Proofs.Qxb6626221a
