/-
  Seat b6626314a: words of our own for memory; rows of int32; cmp.Less at int32.
-/
import Derived.Test.Qxb6626314aRows
import Derived.WalkKit
import Derived.WalkSpells
import Derived.WalkLawsBesides
import Derived.RegionTactic
import Derived.ChangeAlike
import Derived.Deep.QuietTactic
import Derived.BigQuiet
import Derived.Maps.OwnSet
import Derived.Maps.AppendAt
import Derived.Deep.RegionHeld3
import Derived.Deep.AppendLies
import Derived.Deep.DeepCutAuto
import Derived.Deep.CutBlock
import Derived.Deep.Draws
import Derived.CellFam
import Derived.Sort.LotA
namespace Go.Proofs.Qxb6626314a
open Go.RowKit Go.Maps
set_option linter.unusedVariables false

/-! ### A function's text, statement by statement -/
def tailAt : Nat → Code → Code
  | 0, c => c
  | n + 1, .seq _ b => tailAt n b
  | _, c => c
def headAt : Code → Code
  | .seq a _ => a
  | c => c
def tl (f : Func) (j : Nat) : Code := tailAt j (f.body.getD .skip)
def st (f : Func) (j : Nat) : Code := headAt (tl f j)

/-! ### Worlds that part in one block alone -/
structure KeepF (F : Nat → Prop) (w w' : World) : Prop where
  os : w'.os = w.os
  tape : w'.tape = w.tape
  output : w'.output = w.output
  size : w.heap.size ≤ w'.heap.size
  block : ∀ k, k < w.heap.size → ¬ F k → w'.heap[k]? = w.heap[k]?
theorem KeepF.of_below {F : Nat → Prop} {w w' : World} (h : Below w.heap.size w w') : KeepF F w w' := ⟨h.os, h.tape, h.output, h.size, fun k hk _ => h.block k hk⟩
theorem KeepF.refl (F : Nat → Prop) (w : World) : KeepF F w w := ⟨rfl, rfl, rfl, Nat.le_refl _, fun _ _ _ => rfl⟩
theorem KeepF.trans {F : Nat → Prop} {a b c : World} (h : KeepF F a b) (k : KeepF F b c) : KeepF F a c :=
  ⟨k.os.trans h.os, k.tape.trans h.tape, k.output.trans h.output, Nat.le_trans h.size k.size, fun i hi hn => (k.block i (Nat.lt_of_lt_of_le hi h.size) hn).trans (h.block i hi hn)⟩
theorem KeepF.of_grown {F : Nat → Prop} {w w' : World} {row : Option Nat} (h : w.grownBy w' row) (hF : ∀ g, row = some g → F g) : KeepF F w w' :=
  ⟨h.os, h.tape, h.output, h.size, fun k hk hn => h.block k hk (fun e => hn (hF k e.symm))⟩
theorem KeepF.drewN {F : Nat → Prop} {w w' : World} (h : KeepF F w w') (n : Nat) : KeepF F w (w'.drewN n) := h.trans (KeepF.of_below (below_drewN (Below.refl _ _) n))
theorem KeepF.setCell {F : Nat → Prop} {w w' : World} (h : KeepF F w w') {g j : Nat} (v : Value) (hF : F g) : KeepF F w (w'.setCell ⟨g, j, none⟩ v) :=
  h.trans ⟨rfl, rfl, rfl, by simp, fun k _ hk => Below.heap_setCell w' ⟨g, j, none⟩ v k (fun e => hk (by rw [e]; exact hF))⟩

/-! ### Rows of int32 -/
def ints (zs : List Int) : List Value := zs.map (Value.int .i32)
/-- The slice (block g, from its first cell on) holds d. -/
def Rw (w : World) (base g cap : Nat) (d : Array Int) : Prop := w.ownsRow base 21 1 (.slice (some ⟨g, 0, none⟩) d.size cap) d.size (ints d.toList)
theorem ints_at (d : Array Int) (i : Nat) (h : i < d.size) : (ints d.toList)[i]? = some (.int .i32 d[i]!) := by
  unfold ints
  rw [List.getElem?_map, Array.getElem?_toList, Array.getElem?_eq_getElem h, getElem!_pos d i h]
  rfl
theorem Rw.cell {w : World} {base g cap : Nat} {d : Array Int} (h : Rw w base g cap d) {i : Nat} (hi : i < d.size) : w.cell? ⟨g, i, none⟩ = some (.int .i32 d[i]!) := by
  have h' : w.ownsRow base 21 1 (.slice (some ⟨g, 0, none⟩) d.size cap) d.size (ints d.toList) := h
  rw [h'.cellAt i (by omega)]
  exact ints_at d i hi
theorem Rw.frozen {w : World} {base g cap : Nat} {d : Array Int} (h : Rw w base g cap d) (i : Nat) : w.frozen? ⟨g, i, none⟩ = false := by
  have h' : w.ownsRow base 21 1 (.slice (some ⟨g, 0, none⟩) d.size cap) d.size (ints d.toList) := h
  exact h'.frozenAt i
theorem Rw.set {w : World} {base g cap : Nat} {d : Array Int} (h : Rw w base g cap d) (i : Nat) (z : Int) : Rw (w.setCell ⟨g, i, none⟩ (.int .i32 z)) base g cap (d.setIfInBounds i z) := by
  have h' : w.ownsRow base 21 1 (.slice (some ⟨g, 0, none⟩) d.size cap) d.size (ints d.toList) := h
  have h2 := (h'.stored i (.int .i32 z)).1
  unfold Rw
  rw [Array.size_setIfInBounds]
  have e : ints (d.setIfInBounds i z).toList = (ints d.toList).set i (.int .i32 z) := by
    unfold ints
    rw [Array.toList_setIfInBounds, List.map_set]
  rw [e]
  exact h2
theorem Rw.drewN {w : World} {base g cap : Nat} {d : Array Int} (h : Rw w base g cap d) (n : Nat) : Rw (w.drewN n) base g cap d := by
  have hb := below_drewN (Below.refl w.heap.size w) n
  have hg : w.grownBy (w.drewN n) none := ⟨hb.os, hb.tape, hb.output, hb.size, fun k hk _ => hb.block k hk⟩
  have h' : w.ownsRow base 21 1 (.slice (some ⟨g, 0, none⟩) d.size cap) d.size (ints d.toList) := h
  exact h'.kept hg (Or.inr (by simp [Value.ownBlock]))
/-- Two cells exchanged. -/
theorem Rw.swap {w : World} {base g cap : Nat} {d : Array Int} (h : Rw w base g cap d) (i j : Nat) : Rw ((w.setCell ⟨g, i, none⟩ (.int .i32 d[j]!)).setCell ⟨g, j, none⟩ (.int .i32 d[i]!)) base g cap (Sort.swp d i j) := (h.set i d[j]!).set j d[i]!
/-- d at an index, as a function (so that the walk leaves it alone). -/
def at_ (d : Array Int) (i : Nat) : Int := d[i]!

set_option maxHeartbeats 1000000 in
theorem isNaN32 (x : Int) (w : World) : Calls Try.prog 66 #[.int .i32 x] w fun e w' => e = .returned (.bool false) ∧ w' = w := by
  go_enter Try.func66, Try.ntmps66
  go_wp2_with fail
  go_ret
  exact ⟨rfl, rfl⟩
set_option maxHeartbeats 1000000 in
theorem less32 (x y : Int) (w : World) : Calls Try.prog 54 #[.int .i32 x, .int .i32 y] w fun e w' => e = .returned (.bool (decide (x < y))) ∧ w' = w := by
  go_enter Try.func54, Try.ntmps54
  go_wp2_with (first | (go_at_call 66; refine Calls.mono (isNaN32 _ _) ?_; rintro e w2 ⟨rfl, hw2⟩; rw [hw2]; clear hw2))
  go_ret
  exact ⟨rfl, rfl⟩

end Go.Proofs.Qxb6626314a
