/-
  Seat b6625890a: words of our own for memory: slices that can be read ('Sl'), maps as functions ('MapIs'), statements of a text ('tl').
-/
import Derived.Test.Qxb6625890aRows
import Derived.WalkKit
import Derived.WalkSpells
import Derived.WalkLawsBesides
import Derived.RegionTactic
import Derived.ChangeAlike
import Derived.Deep.QuietTactic
import Derived.BigQuiet
import Derived.Maps.OwnSet
import Derived.Maps.AppendAt
import Derived.Deep.RegionHeld3
import Derived.Deep.AppendLies
import Derived.Deep.DeepCutAuto
import Derived.Deep.CutBlock
namespace Go.Proofs.Qxb6625890a
open Go.RowKit Go.Maps
set_option linter.unusedVariables false

/-! ### A function's text, statement by statement -/
def tailAt : Nat → Code → Code
  | 0, c => c
  | n + 1, .seq _ b => tailAt n b
  | _, c => c
def headAt : Code → Code
  | .seq a _ => a
  | c => c
def tl (f : Func) (j : Nat) : Code := tailAt j (f.body.getD .skip)
def st (f : Func) (j : Nat) : Code := headAt (tl f j)
def QT (f : Func) (B : Nat) (w0 : World) : Exit → Act → World → Prop := bodyPost Try.prog f (fun e w' => e = .returned (.bool true) ∧ Below B w0 w')

/-! ### Small laws -/
theorem add_eq (b off j : Nat) : (⟨b, off, none⟩ : Addr).add j = ⟨b, off + j, none⟩ := by
  unfold Addr.add
  by_cases h : j = 0 <;> simp [h]
theorem ne_of_lt {α : Type} {l : List α} {k : Nat} (h : k < l.length) : l ≠ [] := by intro e; subst e; simp at h
theorem grown_of_below {w w' : World} (h : Below w.heap.size w w') : w.grownBy w' none := ⟨h.os, h.tape, h.output, h.size, fun k hk _ => h.block k hk⟩
theorem below_of_grown {w w' : World} (h : w.grownBy w' none) : Below w.heap.size w w' := ⟨h.os, h.tape, h.output, h.size, fun k hk => h.block k hk (by simp)⟩
theorem map_below {H : Type} {w w' : World} {P : Program} {k : TypeId} {R : Value → Option (DataW H × List MemPlace)} {b n : Nat} {D : DataW H} (h : w.ownsMap P k R b n D) (hb : Below w.heap.size w w') : w'.ownsMap P k R b n D :=
  h.kept (grown_of_below hb) (by simp)
theorem row_below {w w' : World} {base : Nat} {e : TypeId} {size : Nat} {v : Value} {n : Nat} {xs : List Value} (h : w.ownsRow base e size v n xs) (hb : Below w.heap.size w w') : w'.ownsRow base e size v n xs := by
  refine h.kept (grown_of_below hb) ?_
  cases hv : v.ownBlock with
  | none => exact Or.inl rfl
  | some k => exact Or.inr (by simp)
theorem row_mono {w : World} {base base' : Nat} {e : TypeId} {size : Nat} {v : Value} {n : Nat} {xs : List Value} (hb : base' ≤ base) (h : w.ownsRow base e size v n xs) : w.ownsRow base' e size v n xs := by
  refine ⟨h.1, ?_⟩
  rcases h.2 with h | ⟨g, cap, cur, e1, e2, h⟩
  · exact Or.inl h
  · exact Or.inr ⟨g, cap, cur, e1, Nat.le_trans hb e2, h⟩
theorem cell_setCell_other {w : World} {a p : Addr} {u v : Value} (h : w.cell? p = some v) (hne : p.block ≠ a.block) : (w.setCell a u).cell? p = some v :=
  (World.cell?_of_block (w := w) (Below.heap_setCell w a u p.block hne)).trans h

/-- A block of cells behind a store into it. -/
theorem blk_set {w : World} {g i : Nat} {cs : Array Value} {t : TypeId} (v : Value) (h : w.heap[g]? = some (.cells cs t (0, 0))) : (w.setCell ⟨g, i, none⟩ v).heap[g]? = some (.cells (cs.setIfInBounds i v) t (0, 0)) := heap_setCell_same w g i cs t v h

/-! ### Slices that can be read: their cells -/
def Sl (w : World) (a : Option Addr) (cs : List Value) : Prop :=
  cs ≠ [] → ∃ b off, a = some ⟨b, off, none⟩ ∧ ∀ i, i < cs.length → w.cell? ⟨b, off + i, none⟩ = cs[i]?
theorem Sl.below {w w' : World} {a : Option Addr} {cs : List Value} (h : Sl w a cs) (hb : Below w.heap.size w w') : Sl w' a cs := by
  intro hne
  obtain ⟨b, off, rfl, hc⟩ := h hne
  refine ⟨b, off, rfl, fun i hi => ?_⟩
  have h1 := hc i hi
  rw [List.getElem?_eq_getElem hi] at h1 ⊢
  exact cell_later hb h1
theorem Sl.nil (w : World) (a : Option Addr) : Sl w a [] := fun h => absurd rfl h
theorem sl_of_row {w : World} {base : Nat} {e : TypeId} {size : Nat} {o : Option Addr} {n cp : Nat} {xs : List Value} (h : w.ownsRow base e size (.slice o n cp) n xs) : Sl w o xs := by
  intro hne
  have hl := h.1
  have hp : 0 < xs.length := List.length_pos_iff.2 hne
  rcases h.2 with ⟨h', h''⟩ | ⟨g, cap, cur, h', _⟩
  · subst h''; omega
  · have h2 := h
    simp only [Value.slice.injEq, true_and] at h'
    obtain ⟨rfl, rfl⟩ := h'
    refine ⟨g, 0, rfl, fun i hi => ?_⟩
    rw [Nat.zero_add]
    exact h2.cellAt i (by omega)
theorem Sl.block {w : World} {o : Option Addr} {cs : List Value} (h : Sl w o cs) (hne : cs ≠ []) : ∀ ad, o = some ad → ad.block < w.heap.size := by
  intro ad e
  obtain ⟨b, off, e', hc⟩ := h hne
  rw [e] at e'
  cases e'
  have h0 : 0 < cs.length := List.length_pos_iff.2 hne
  have h1 := hc 0 h0
  rw [List.getElem?_eq_getElem h0] at h1
  exact World.block_lt_of_cell? w _ h1
theorem row_shape {w : World} {base : Nat} {e : TypeId} {size : Nat} {v : Value} {n : Nat} {xs : List Value} (h : w.ownsRow base e size v n xs) : ∃ o cp, v = .slice o n cp := by
  rcases h.2 with ⟨rfl, rfl⟩ | ⟨g, cap, cur, rfl, _⟩
  · exact ⟨none, 0, rfl⟩
  · exact ⟨some ⟨g, 0, none⟩, cap, rfl⟩
theorem row_shape_pos {w : World} {base : Nat} {e : TypeId} {size : Nat} {v : Value} {n : Nat} {xs : List Value} (h : w.ownsRow base e size v n xs) (hn : 0 < n) : ∃ g cp, v = .slice (some ⟨g, 0, none⟩) n cp ∧ base ≤ g := by
  rcases h.2 with ⟨rfl, rfl⟩ | ⟨g, cap, cur, rfl, hb, _⟩
  · omega
  · exact ⟨g, cap, rfl, hb⟩

/-- Pairs, as the cells of structs of two int32. -/
def flat (l : List (Int × Int)) : List Value := l.flatMap (fun p => [.int .i32 p.1, .int .i32 p.2])
theorem flat_length (l : List (Int × Int)) : (flat l).length = l.length * 2 := by
  induction l with
  | nil => rfl
  | cons p l ih => simp only [flat, List.flatMap_cons, List.length_append] at *; rw [ih]; simp; omega
theorem flat_append (l r : List (Int × Int)) : flat (l ++ r) = flat l ++ flat r := by simp [flat]
theorem flat_fst (l : List (Int × Int)) : ∀ i, i < l.length → (flat l)[i * 2]? = some (.int .i32 (l.getD i (0, 0)).1) := by
  induction l with
  | nil => intro i h; simp at h
  | cons p l ih =>
    intro i h
    cases i with
    | zero => rfl
    | succ i =>
      have := ih i (by simpa using h)
      show ([.int .i32 p.1, .int .i32 p.2] ++ flat l)[(i + 1) * 2]? = _
      rw [List.getElem?_append_right (by simp; omega)]
      simpa [show (i + 1) * 2 - 2 = i * 2 by omega] using this
theorem flat_snd (l : List (Int × Int)) : ∀ i, i < l.length → (flat l)[i * 2 + 1]? = some (.int .i32 (l.getD i (0, 0)).2) := by
  induction l with
  | nil => intro i h; simp at h
  | cons p l ih =>
    intro i h
    cases i with
    | zero => rfl
    | succ i =>
      have := ih i (by simpa using h)
      show ([.int .i32 p.1, .int .i32 p.2] ++ flat l)[(i + 1) * 2 + 1]? = _
      rw [List.getElem?_append_right (by simp; omega)]
      simpa [show (i + 1) * 2 + 1 - 2 = i * 2 + 1 by omega] using this
theorem flat_set (l : List (Int × Int)) : ∀ i (x : Int), i < l.length → (flat l).set (i * 2 + 1) (.int .i32 x) = flat (l.set i ((l.getD i (0, 0)).1, x)) := by
  induction l with
  | nil => intro i x h; simp at h
  | cons p l ih =>
    intro i x h
    cases i with
    | zero => rfl
    | succ i =>
      have := ih i x (by simpa using h)
      show ([Value.int .i32 p.1, Value.int .i32 p.2] ++ flat l).set ((i + 1) * 2 + 1) (.int .i32 x) = [Value.int .i32 p.1, Value.int .i32 p.2] ++ flat (l.set i _)
      rw [List.set_append, if_neg (by simp; omega)]
      rw [show (i + 1) * 2 + 1 - [Value.int .i32 p.1, Value.int .i32 p.2].length = i * 2 + 1 by simp; omega, this]
      simp

/-! ### Maps from int32, as functions -/
def anyElem (v : Value) : Option (DataW Value × List MemPlace) := some (.held v, [])
theorem law21 : Keyed Try.prog 21 := int_keyed Try.underlying21
theorem zero51 (w : World) : (zeroValue 51).run Try.prog w = .ok (.slice none 0 0) w := by kernel_rfl
def MapIs (w : World) (b n : Nat) (f : Int → Option Value) : Prop :=
  ∃ D : DataW Value, w.ownsMap Try.prog 21 anyElem b n D ∧ (∀ k, Maps.has D (.int .i32 k) = (f k).isSome) ∧ ∀ k z, D.atKey (.int .i32 k) (.held z) = .held ((f k).getD z)
theorem MapIs.made (w : World) : MapIs (w.alloc (.map #[] 0)) w.heap.size 0 (fun _ => none) :=
  ⟨.map [], World.ownsMap_made _ _ _ _, fun k => by simp [Maps.has], fun k z => atKey_of_not_has (by simp [Maps.has]) _⟩
theorem MapIs.kept {w w' : World} {b n : Nat} {f : Int → Option Value} {row : Option Nat} (h : MapIs w b n f) (hg : w.grownBy w' row) (hne : some b ≠ row) : MapIs w' b n f := by
  obtain ⟨D, h1, h2⟩ := h
  exact ⟨D, h1.kept hg hne, h2⟩
theorem MapIs.of_block {w w' : World} {b n : Nat} {f : Int → Option Value} (h : MapIs w b n f) (hb : w'.heap[b]? = w.heap[b]?) : MapIs w' b n f := by
  obtain ⟨D, ⟨es, clock, h1, h2⟩, h3⟩ := h
  exact ⟨D, ⟨es, clock, hb.trans h1, h2⟩, h3⟩
theorem MapIs.isMap {w : World} {b n : Nat} {f : Int → Option Value} (h : MapIs w b n f) : ∃ es clock, w.heap[b]? = some (.map es clock) := by
  obtain ⟨D, ⟨es, clock, h1, h2⟩, h3⟩ := h
  exact ⟨es, clock, h1⟩
def putAt (f : Int → Option Value) (k : Int) (v : Value) : Int → Option Value := fun x => if x = k then some v else f x
theorem MapIs.look {w : World} {b n : Nat} {f : Int → Option Value} (h : MapIs w b n f) {k : Int} (hk : (Lit.int .i32 k).wf = true) (c : Bool) :
    (Instr.lookup 73 (.map (some b)) (.int .i32 k) c).run Try.prog w = .ok (if c then .tuple #[(f k).getD (.slice none 0 0), .bool (f k).isSome] else (f k).getD (.slice none 0 0)) w := by
  obtain ⟨D, h1, h2, h3⟩ := h
  cases c with
  | true =>
    obtain ⟨v, ps, hrun, hv⟩ := h1.look_ok law21 Try.underlying73 (zero51 w) (zd := .held (.slice none 0 0)) (zp := []) rfl (keyOf_int_mk Try.underlying21 hk)
    rw [hrun, h2 k]
    have e := hv
    rw [h3 k] at e
    simp only [anyElem, Option.some.injEq, Prod.mk.injEq, DataW.held.injEq] at e
    rw [e.1]
    simp
  | false =>
    obtain ⟨v, ps, hrun, hv⟩ := h1.lookup law21 Try.underlying73 (zero51 w) (zd := .held (.slice none 0 0)) (zp := []) rfl (keyOf_int_mk Try.underlying21 hk)
    rw [hrun]
    have e := hv
    rw [h3 k] at e
    simp only [anyElem, Option.some.injEq, Prod.mk.injEq, DataW.held.injEq] at e
    rw [e.1]
    simp
theorem MapIs.store {w : World} {b n : Nat} {f : Int → Option Value} (h : MapIs w b n f) {k : Int} (hk : (Lit.int .i32 k).wf = true) (hn : n < maxLen) (v : Value) :
    ∃ w', (Instr.mapUpdate 73 (.map (some b)) (.int .i32 k) v).run Try.prog w = .ok () w' ∧ MapIs w' b (n + 1) (putAt f k v) ∧ w.grownBy w' (some b) := by
  obtain ⟨D, h1, h2, h3⟩ := h
  have hkl : WideAt.IsKeyLit (.int .i32 k) := by trivial
  obtain ⟨w', hrun, ho, hg⟩ := h1.update law21 Try.underlying73 hn (keyOf_int_mk Try.underlying21 hk) (d := .held v) (ps := []) rfl
  refine ⟨w', hrun, ⟨_, ho, fun x => ?_, fun x z => ?_⟩, hg⟩
  · by_cases e : x = k
    · subst e; rw [has_put_same h1.isMap hkl]; simp [putAt]
    · rw [has_put_other (by simpa using e), h2 x]; simp [putAt, e]
  · by_cases e : x = k
    · subst e; rw [atKey_put_same h1.isMap hkl]; simp [putAt]
    · rw [atKey_put_other (by simpa using e), h3 x]; simp [putAt, e]

end Go.Proofs.Qxb6625890a
