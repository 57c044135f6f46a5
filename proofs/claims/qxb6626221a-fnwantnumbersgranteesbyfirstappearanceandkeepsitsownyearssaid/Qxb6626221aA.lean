/-
  Seat b6626221a: the bounds' contracts.
-/
import Derived.Test.Qxb6626221aRows
import Derived.WalkKit
import Derived.WalkSpells
import Derived.WalkLawsBesides
import Derived.RegionTactic
import Derived.ChangeAlike
import Derived.Deep.QuietTactic
import Derived.BigQuiet
import Derived.Maps.OwnSet
import Derived.Laws.CopyOwn
namespace Go.Proofs.Qxb6626221a
open Go.RowKit
set_option linter.unusedVariables false

theorem eqNil23 (w : World) (a : Option Addr) (n c : Nat) : (binOp .eql 23 (.slice a n c) (.slice none 0 0)).run Try.prog w = .ok (.bool a.isNone) w := Lib.run_eql_slice_nil w 23 3 a n c 0 0 Try.underlying23
theorem neNil23 (w : World) (a : Option Addr) (n c : Nat) : (binOp .neq 23 (.slice a n c) (.slice none 0 0)).run Try.prog w = .ok (.bool (!a.isNone)) w := run_neq_slice_nil_any w 23 3 a n c 0 0 Try.underlying23
theorem neNil22 (w : World) (a : Option Addr) (n c : Nat) : (binOp .neq 22 (.slice a n c) (.slice none 0 0)).run Try.prog w = .ok (.bool (!a.isNone)) w := run_neq_slice_nil_any w 22 9 a n c 0 0 Try.underlying22

theorem grown_of_below {w w' : World} (h : Below w.heap.size w w') : w.grownBy w' none := ⟨h.os, h.tape, h.output, h.size, fun k hk _ => h.block k hk⟩
theorem map_below {H : Type} {w w' : World} {P : Program} {k : TypeId} {R : Value → Option (DataW H × List MemPlace)} {b n : Nat} {D : DataW H} (h : w.ownsMap P k R b n D) (hb : Below w.heap.size w w') : w'.ownsMap P k R b n D :=
  h.kept (grown_of_below hb) (by simp)
theorem row_below {w w' : World} {base : Nat} {e : TypeId} {size : Nat} {v : Value} {n : Nat} {xs : List Value} (h : w.ownsRow base e size v n xs) (hb : Below w.heap.size w w') : w'.ownsRow base e size v n xs := by
  refine h.kept (grown_of_below hb) ?_
  cases hv : v.ownBlock with
  | none => exact Or.inl rfl
  | some k => exact Or.inr (by simp)

/-- A slice of strings that can be read: its elements are ss. -/
def Strs (w : World) (a : Option Addr) (ss : List ByteArray) : Prop :=
  ss ≠ [] → ∃ b off, a = some ⟨b, off, none⟩ ∧ ∀ i, i < ss.length → w.cell? ⟨b, off + i, none⟩ = some (.string (ss.getD i ByteArray.empty))

/-- It answers false; or true, and then each string is short. -/
def BytesAns (ss : List ByteArray) (e : Ending) : Prop := e = .returned (.bool false) ∨ (e = .returned (.bool true) ∧ ∀ i, (ss.getD i ByteArray.empty).size ≤ 1048576)
theorem bytes_end {ss : List ByteArray} {q : Nat} (hq : ¬ q < ss.length) (h : ∀ i, i < q → (ss.getD i ByteArray.empty).size ≤ 1048576) : ∀ i, (ss.getD i ByteArray.empty).size ≤ 1048576 := by
  intro i
  by_cases hi : i < q
  · exact h i hi
  · have : ss.getD i ByteArray.empty = ByteArray.empty := by simp [show ¬ i < ss.length by omega]
    rw [this]; decide

/-- One round of filling an array. -/
theorem fill_step {α : Type} {xs : List α} {f : Nat → α} {k : Nat} (hk : k < xs.length) (h : ∀ j, j < k → xs[j]? = some (f j)) : ∀ j, j < k + 1 → (xs.set k (f k))[j]? = some (f j) := by
  intro j hj
  rw [List.getElem?_set]
  by_cases e : k = j
  · subst e; simp [hk]
  · rw [if_neg e]; exact h j (by omega)
theorem fill_all {α : Type} {xs : List α} {f : Nat → α} (h : ∀ j, j < xs.length → xs[j]? = some (f j)) : xs = (List.range xs.length).map f := by
  apply List.ext_getElem?
  intro j
  by_cases hj : j < xs.length
  · rw [h j hj]; simp [hj]
  · simp [hj]

theorem ne_of_lt {α : Type} {l : List α} {k : Nat} (h : k < l.length) : l ≠ [] := by intro e; subst e; simp at h

set_option maxHeartbeats 1000000 in
theorem bytes10 (a : Option Addr) (cap : Nat) (ss : List ByteArray) (c : Option Addr) (n cap2 : Nat) (k : Int) (w : World) (hs : Strs w a ss) (hw : ∀ i, (ss.getD i ByteArray.empty).size ≤ maxLen) (hl : ss.length ≤ maxLen) (hn : n ≤ maxLen) :
    Calls Try.prog 10 #[.slice a ss.length cap, .slice c n cap2, .int .i64 k] w fun e w' => BytesAns ss e ∧ w' = w := by
  unfold maxLen at hl hn
  go_enter Try.func10, Try.ntmps10
  go_wp2
  · go_ret
    exact ⟨Or.inl rfl, rfl⟩
  · go_loop [7, 8] (fun z i => ∃ q m : Nat, q ≤ ss.length ∧ i = .int .i64 q ∧ m ≤ 1048576 ∧ z = .int .i64 m ∧ ∀ i, i < q → (ss.getD i ByteArray.empty).size ≤ 1048576) (fun _ i => ss.length - (intOf i).toNat)
    case atStart => exact ⟨0, ss.length, Nat.zero_le _, rfl, by omega, rfl, fun i hi => by omega⟩
    case round =>
      obtain ⟨q, m, hq, rfl, hm, rfl, hall⟩ := hrel
      by_cases hlt : q < ss.length
      · obtain ⟨b, off, rfl, hc⟩ := hs (ne_of_lt hlt)
        have hcq := hc q hlt
        have hsz := hw q
        unfold maxLen at hsz
        obtain ⟨s0, e0⟩ : ∃ s0, s0 = ss.getD q ByteArray.empty := ⟨_, rfl⟩
        have HA : Hid (∀ i, i < q + 1 → i ≠ q → (ss.getD i ByteArray.empty).size ≤ 1048576) := fun i h1 h2 => hall i (by omega)
        have HS : Hid (s0 = ss.getD q ByteArray.empty) := e0
        rw [← e0] at hcq hsz
        clear hs hw hc hall e0
        go_wp2
        · go_ret
          exact ⟨Or.inl rfl, rfl⟩
        · go_ret
          exact ⟨Or.inl rfl, rfl⟩
        · go_round
          case rel => exact ⟨q + 1, m + s0.size, by omega, by go_num, by omega, by go_num, fun i hi => by
            by_cases e : i = q
            · subst e; rw [← HS.out]; omega
            · exact HA.out i hi e⟩
          case measure => simp [intOf]; omega
      · have HB : Hid _ := bytes_end hlt hall
        clear hall
        go_wp2
        all_goals (go_ret; first | exact ⟨Or.inl rfl, rfl⟩ | exact ⟨Or.inr ⟨rfl, HB.out⟩, rfl⟩)

set_option maxHeartbeats 1000000 in
theorem bytes5 (a : Option Addr) (cap : Nat) (ss : List ByteArray) (c : Option Addr) (n cap2 : Nat) (w : World) (hs : Strs w a ss) (hw : ∀ i, (ss.getD i ByteArray.empty).size ≤ maxLen) (hl : ss.length ≤ maxLen) (hn : n ≤ maxLen) :
    Calls Try.prog 5 #[.slice a ss.length cap, .slice c n cap2] w fun e w' => BytesAns ss e ∧ w' = w := by
  unfold maxLen at hl hn
  go_enter Try.func5, Try.ntmps5
  go_wp2
  · go_ret
    exact ⟨Or.inl rfl, rfl⟩
  · go_loop [5, 6] (fun z i => ∃ q m : Nat, q ≤ ss.length ∧ i = .int .i64 q ∧ m ≤ 1048576 ∧ z = .int .i64 m ∧ ∀ i, i < q → (ss.getD i ByteArray.empty).size ≤ 1048576) (fun _ i => ss.length - (intOf i).toNat)
    case atStart => exact ⟨0, ss.length, Nat.zero_le _, rfl, by omega, rfl, fun i hi => by omega⟩
    case round =>
      obtain ⟨q, m, hq, rfl, hm, rfl, hall⟩ := hrel
      by_cases hlt : q < ss.length
      · obtain ⟨b, off, rfl, hc⟩ := hs (ne_of_lt hlt)
        have hcq := hc q hlt
        have hsz := hw q
        unfold maxLen at hsz
        obtain ⟨s0, e0⟩ : ∃ s0, s0 = ss.getD q ByteArray.empty := ⟨_, rfl⟩
        have HA : Hid (∀ i, i < q + 1 → i ≠ q → (ss.getD i ByteArray.empty).size ≤ 1048576) := fun i h1 h2 => hall i (by omega)
        have HS : Hid (s0 = ss.getD q ByteArray.empty) := e0
        rw [← e0] at hcq hsz
        clear hs hw hc hall e0
        go_wp2
        · go_ret
          exact ⟨Or.inl rfl, rfl⟩
        · go_ret
          exact ⟨Or.inl rfl, rfl⟩
        · go_round
          case rel => exact ⟨q + 1, m + s0.size, by omega, by go_num, by omega, by go_num, fun i hi => by
            by_cases e : i = q
            · subst e; rw [← HS.out]; omega
            · exact HA.out i hi e⟩
          case measure => simp [intOf]; omega
      · have HB : Hid _ := bytes_end hlt hall
        clear hall
        go_wp2
        all_goals (go_ret; first | exact ⟨Or.inl rfl, rfl⟩ | exact ⟨Or.inr ⟨rfl, HB.out⟩, rfl⟩)

end Go.Proofs.Qxb6626221a
