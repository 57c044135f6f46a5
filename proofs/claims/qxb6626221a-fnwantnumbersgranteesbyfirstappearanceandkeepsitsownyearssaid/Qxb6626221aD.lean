/-
  Seat b6626221a: small laws for the two laws' walks.
-/
import Derived.Test.Qxb6626221aC
import Derived.Deep.DeepCutAuto
import Derived.Deep.CutBlock
namespace Go.Proofs.Qxb6626221a
open Go.RowKit Go.Maps
set_option linter.unusedVariables false

/-- 'v, ok := m[k]' where the map numbers 'acc', and k is among them. -/
theorem wpList_lookup_in {w : World} {ops : Array Oper} {rest : List Oper} {o : Oper} {a : Act} {Q : Exit → Act → World → Prop} (hg : o.guard = none) (m x : Operand) (hop : o.op = Op.lookup 26 m x true)
    (b n : Nat) (D : DataW Unit) (acc : List Pl.Ky) (kl : Pl.Ky) (q : Nat) (hm : a.eval m = .map (some b)) (hown : w.ownsMap Try.prog 9 (plainElem Try.prog 3) b n D) (hN : Num D acc)
    (key : Value) (hx : a.eval x = key) (hkey : keyOf Try.prog 9 key = some (.string kl)) (hin : kl ∈ acc) (hq : acc.idxOf kl = q)
    (hK : wpList Try.prog ops Q rest (a.put o.dst (.tuple #[.int .i64 q, .bool true])) w) : wpList Try.prog ops Q (o :: rest) a w := by
  refine wpList_lookup_own_ok_int w hg m x 26 hop 9 3 .i64 law9 Try.underlying26 Try.underlying3 (zero3 _) b n D hm hown key (.string kl) hx hkey ?_
  intro c hat _
  rw [hN.2.1 kl hin, hq] at hat
  obtain rfl : (q : Int) = c := by simpa using hat
  rw [hN.1 kl, decide_eq_true hin]
  exact hK

/-- .. and k is not. -/
theorem wpList_lookup_out {w : World} {ops : Array Oper} {rest : List Oper} {o : Oper} {a : Act} {Q : Exit → Act → World → Prop} (hg : o.guard = none) (m x : Operand) (hop : o.op = Op.lookup 26 m x true)
    (b n : Nat) (D : DataW Unit) (acc : List Pl.Ky) (kl : Pl.Ky) (hm : a.eval m = .map (some b)) (hown : w.ownsMap Try.prog 9 (plainElem Try.prog 3) b n D) (hN : Num D acc)
    (key : Value) (hx : a.eval x = key) (hkey : keyOf Try.prog 9 key = some (.string kl)) (hin : kl ∉ acc)
    (hK : ∀ c : Int, wpList Try.prog ops Q rest (a.put o.dst (.tuple #[.int .i64 c, .bool false])) w) : wpList Try.prog ops Q (o :: rest) a w := by
  refine wpList_lookup_own_ok_int w hg m x 26 hop 9 3 .i64 law9 Try.underlying26 Try.underlying3 (zero3 _) b n D hm hown key (.string kl) hx hkey ?_
  intro c _ _
  rw [hN.1 kl, decide_eq_false hin]
  exact hK c

/-- 'len(m)'. -/
theorem wpList_len_num {w : World} {ops : Array Oper} {rest : List Oper} {o : Oper} {a : Act} {Q : Exit → Act → World → Prop} (hg : o.guard = none) (m : Operand) (hop : o.op = Op.call { callee := Callee.builtin Builtin.len, args := #[m], argTypes := #[26] })
    (b n : Nat) (D : DataW Unit) (acc : List Pl.Ky) (q : Nat) (hm : a.eval m = .map (some b)) (hown : w.ownsMap Try.prog 9 (plainElem Try.prog 3) b n D) (hN : Num D acc) (hq : acc.length = q)
    (hK : wpList Try.prog ops Q rest (a.put o.dst (.int .i64 q)) w) : wpList Try.prog ops Q (o :: rest) a w := by
  refine wpList_len_own w hg m 26 hop 9 3 Try.underlying26 _ b n D hm hown ?_
  rw [hN.2.2, hq]
  exact hK

/-- A made row, as a whole block. -/
theorem row_block {w : World} {base : Nat} {e : TypeId} {g n : Nat} {xs : List Value} (h : w.ownsRow base e 1 (.slice (some ⟨g, 0, none⟩) n n) n xs) : w.heap[g]? = some (.cells xs.toArray e (0, 0)) ∧ xs.length = n := by
  obtain ⟨h1, h2⟩ := h
  rcases h2 with ⟨h', _⟩ | ⟨g', cap, cur, h', _, hg, _, _, hcs, ht⟩
  · simp at h'
  · simp only [Value.slice.injEq, Option.some.injEq, Addr.mk.injEq, and_true, true_and] at h'
    obtain ⟨rfl, rfl⟩ := h'
    rw [List.take_of_length_le (by rw [Array.length_toList, hcs]; exact Nat.le_refl _)] at ht
    refine ⟨?_, by omega⟩
    rw [hg, ← ht]
theorem splice_all {α : Type} (xs cs : List α) (h : xs.length = cs.length) : splice xs 0 cs = cs := by
  simp [splice, h]

/-- Strings that lie in a block of their own. -/
theorem strs_of_block {w : World} {g : Nat} {e : TypeId} {ss : List ByteArray} (h : w.heap[g]? = some (.cells (ss.map Value.string).toArray e (0, 0))) : Strs w (some ⟨g, 0, none⟩) ss := by
  intro _
  refine ⟨g, 0, rfl, fun i hi => ?_⟩
  rw [cell_of_row w g (0 + i) _ _ _ h]
  simp [hi]
theorem ints_of_block {w : World} {g : Nat} {e : TypeId} {zs : List Int} (h : w.heap[g]? = some (.cells (zs.map (Value.int .i64)).toArray e (0, 0))) : Ints w ⟨g, 0, none⟩ zs := by
  intro _
  refine ⟨g, 0, rfl, fun i hi => ?_⟩
  rw [cell_of_row w g (0 + i) _ _ _ h]
  simp [hi]
theorem strs_src {w : World} {a : Option Addr} {ss : List ByteArray} (hs : Strs w a ss) (h : 0 < (ss.map Value.string).length) : ∃ ad, a = some ad ∧ ∀ j v, (ss.map Value.string)[j]? = some v → w.cell? (ad.add j) = some v := by
  have hne : ss ≠ [] := by intro e; subst e; simp at h
  obtain ⟨b, off, rfl, hc⟩ := hs hne
  refine ⟨_, rfl, fun j v hj => ?_⟩
  have hjl : j < ss.length := by have := (List.getElem?_eq_some_iff.1 hj).1; simpa using this
  rw [add_eq, hc j hjl]
  simp [hjl] at hj ⊢
  exact hj
theorem ints_src {w : World} {c : Option Addr} {zs : List Int} (hs : IntsO w c zs) (h : 0 < (zs.map (Value.int .i64)).length) : ∃ ad, c = some ad ∧ ∀ j v, (zs.map (Value.int .i64))[j]? = some v → w.cell? (ad.add j) = some v := by
  have hne : zs ≠ [] := by intro e; subst e; simp at h
  cases c with
  | none => exact absurd (hs.1 rfl) hne
  | some ad =>
    obtain ⟨b, off, rfl, hc⟩ := hs.2 _ rfl hne
    refine ⟨_, rfl, fun j v hj => ?_⟩
    have hjl : j < zs.length := by have := (List.getElem?_eq_some_iff.1 hj).1; simpa using this
    rw [add_eq, hc j hjl]
    simp [hjl] at hj ⊢
    exact hj
theorem strs_oneCell (ss : List ByteArray) : ∀ u ∈ ss.map Value.string, u.oneCell' = true := by
  intro u hu
  obtain ⟨s, _, rfl⟩ := List.mem_map.1 hu
  rfl
theorem Strs.below {w w' : World} {a : Option Addr} {ss : List ByteArray} (h : Strs w a ss) (hb : Below w.heap.size w w') : Strs w' a ss := by
  intro hne
  obtain ⟨b, off, rfl, hc⟩ := h hne
  exact ⟨b, off, rfl, fun i hi => cell_later hb (hc i hi)⟩
theorem Strs.take {w : World} {a : Option Addr} {ss : List ByteArray} (h : Strs w a ss) (k : Nat) : Strs w a (ss.take k) := by
  intro hne
  obtain ⟨b, off, rfl, hc⟩ := h (by intro e; subst e; simp at hne)
  refine ⟨b, off, rfl, fun i hi => ?_⟩
  have hi' : i < ss.length := by simp at hi; omega
  have hik : i < k := by simp at hi; omega
  rw [hc i hi']
  simp [hi', hik]
theorem want_n (n m : Nat) (a : Option Addr) (cap : Nat) (ss : List ByteArray) (hn : n = ss.length) (c : Option Addr) (cap2 : Nat) (zs : List Int) (hm : m = zs.length) (w : World) (hs : Strs w a ss) (hw : ∀ i, (ss.getD i ByteArray.empty).size ≤ maxLen) (hl : ss.length ≤ 4096) (hc : IntsO w c zs) (hz : zs.length ≤ 65536) :
    Calls Try.prog 7 #[.slice a n cap, .slice c m cap2] w fun e w' => ∃ (b : Nat) (o : Option Addr) (cp : Nat) (D : DataW Unit), e = .returned (.agg #[.map (some b), .slice o m cp]) ∧ w.heap.size ≤ b ∧
      w'.ownsMap Try.prog 9 (plainElem Try.prog 3) b n D ∧ Num D (Pl.dst (keys ss)) ∧ o.isNone = c.isNone ∧
      w'.ownsRow w.heap.size 3 1 (.slice o m cp) m (zs.map (Value.int .i64)) ∧ Below w.heap.size w w' := by
  subst hn; subst hm
  exact want_any a cap ss c cap2 zs w hs hw hl hc hz

theorem gr_any (b : Nat) (o : Option Addr) (n cp : Nat) (w : World) : Calls Try.prog 8 #[.agg #[.map (some b), .slice o n cp]] w fun e w' => e = .returned (.map (some b)) ∧ Below w.heap.size w w' := by
  go_enter Try.func8, Try.ntmps8
  go_wp2
  go_ret
  exact ⟨rfl, (Below.refl _ _).alloc (Nat.le_refl _) _⟩
theorem ye_any (b : Nat) (o : Option Addr) (n cp : Nat) (w : World) : Calls Try.prog 9 #[.agg #[.map (some b), .slice o n cp]] w fun e w' => e = .returned (.slice o n cp) ∧ Below w.heap.size w w' := by
  go_enter Try.func9, Try.ntmps9
  go_wp2
  go_ret
  exact ⟨rfl, (Below.refl _ _).alloc (Nat.le_refl _) _⟩

end Go.Proofs.Qxb6626221a
