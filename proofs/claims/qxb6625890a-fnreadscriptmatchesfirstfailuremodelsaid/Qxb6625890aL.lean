/-
  Seat b6625890a: a ZState in memory; zzCopyInts.
-/
import Derived.Test.Qxb6625890aC
namespace Go.Proofs.Qxb6625890a
open Go.RowKit Go.Maps
set_option linter.unusedVariables false

theorem flatMap_get {α : Type} (g : α → List Value) (k : Nat) (hk : ∀ x, (g x).length = k) (d : α) : ∀ (l : List α) (i j : Nat), i < l.length → j < k → (l.flatMap g)[i * k + j]? = (g (l.getD i d))[j]?
  | [], i, j, h, _ => by simp at h
  | a :: l, 0, j, _, hj => by
    rw [List.flatMap_cons, Nat.zero_mul, Nat.zero_add, List.getElem?_append_left (by rw [hk]; exact hj)]
    rfl
  | a :: l, i + 1, j, h, hj => by
    have hi : i < l.length := by simpa using h
    have e : (i + 1) * k + j = k + (i * k + j) := by rw [Nat.add_mul]; omega
    rw [List.flatMap_cons, List.getElem?_append_right (by rw [hk, e]; omega), hk, e, Nat.add_sub_cancel_left, flatMap_get g k hk d l i j hi hj]
    rfl
theorem flatMap_len {α : Type} (g : α → List Value) (k : Nat) (hk : ∀ x, (g x).length = k) : ∀ l : List α, (l.flatMap g).length = l.length * k
  | [] => by simp
  | a :: l => by rw [List.flatMap_cons, List.length_append, hk, flatMap_len g k hk l, List.length_cons, Nat.add_mul]; omega

/-- Of what was there only cells of the kinds T have turned. -/
structure OnlyT (T : TypeId → Prop) (w w' : World) : Prop where
  os : w'.os = w.os
  tape : w'.tape = w.tape
  output : w'.output = w.output
  size : w.heap.size ≤ w'.heap.size
  cells : ∀ (b : Nat) (c : Array Value) (e : TypeId) (fr : Nat × Nat), w.heap[b]? = some (.cells c e fr) → ¬ T e → w'.heap[b]? = some (.cells c e fr)
theorem OnlyT.refl (T : TypeId → Prop) (w : World) : OnlyT T w w := ⟨rfl, rfl, rfl, Nat.le_refl _, fun _ _ _ _ h _ => h⟩
theorem OnlyT.of_below {T : TypeId → Prop} {w w' : World} (h : Below w.heap.size w w') : OnlyT T w w' :=
  ⟨h.os, h.tape, h.output, h.size, fun b c e fr hb _ => (h.block b (Array.getElem?_eq_some_iff.1 hb).1).trans hb⟩
theorem OnlyT.trans {T : TypeId → Prop} {a b c : World} (h : OnlyT T a b) (k : OnlyT T b c) : OnlyT T a c :=
  ⟨k.os.trans h.os, k.tape.trans h.tape, k.output.trans h.output, Nat.le_trans h.size k.size, fun x cs e fr hb n1 => k.cells x cs e fr (h.cells x cs e fr hb n1) n1⟩
theorem OnlyT.setCell {T : TypeId → Prop} {w w' : World} (h : OnlyT T w w') {g j : Nat} {c : Array Value} {e : TypeId} (hg : w'.heap[g]? = some (.cells c e (0, 0))) (he : T e) (v : Value) : OnlyT T w (w'.setCell ⟨g, j, none⟩ v) :=
  ⟨h.os, h.tape, h.output, by simpa using h.size, fun b c' e' fr hb hn => by
    have hb' := h.cells b c' e' fr hb hn
    refine (Below.heap_setCell w' ⟨g, j, none⟩ v b (fun hx => ?_)).trans hb'
    have hx : b = g := hx
    subst hx
    rw [hg] at hb'
    simp at hb'
    exact hn (hb'.2.1 ▸ he)⟩
theorem OnlyT.row {T : TypeId → Prop} {w w' : World} {base : Nat} {e : TypeId} {size : Nat} {v : Value} {n : Nat} {xs : List Value} (h : OnlyT T w w') (hr : w.ownsRow base e size v n xs) (hn : ¬ T e) : w'.ownsRow base e size v n xs := by
  refine ⟨hr.1, ?_⟩
  rcases hr.2 with h' | ⟨g, cap, cur, h1, h2, hh, h3⟩
  · exact Or.inl h'
  · exact Or.inr ⟨g, cap, cur, h1, h2, h.cells g cur e _ hh hn, h3⟩
theorem OnlyT.drew {T : TypeId → Prop} {w w' : World} (h : OnlyT T w w') : OnlyT T w w'.drew := ⟨h.os, h.tape, h.output, h.size, h.cells⟩
theorem OnlyT.drewN {T : TypeId → Prop} {w w' : World} (h : OnlyT T w w') (n : Nat) : OnlyT T w (w'.drewN n) := h.trans (OnlyT.of_below (below_drewN (Below.refl _ _) n))

/-! ### a ZState -/
structure DEnt where
  key : Int
  ad : Option Addr
  cap : Nat
  zs : List Int
def dcell (d : DEnt) : List Value := [.int .i32 d.key, .slice d.ad d.zs.length d.cap]
def flatD (l : List DEnt) : List Value := l.flatMap dcell
theorem flatD_len (l : List DEnt) : (flatD l).length = l.length * 2 := flatMap_len dcell 2 (fun _ => rfl) l
def d0 : DEnt := ⟨0, none, 0, []⟩
theorem flatD_key (l : List DEnt) (i : Nat) (h : i < l.length) : (flatD l)[i * 2]? = some (.int .i32 (l.getD i d0).key) := flatMap_get dcell 2 (fun _ => rfl) d0 l i 0 h (by omega)
theorem flatD_val (l : List DEnt) (i : Nat) (h : i < l.length) : (flatD l)[i * 2 + 1]? = some (.slice (l.getD i d0).ad (l.getD i d0).zs.length (l.getD i d0).cap) := flatMap_get dcell 2 (fun _ => rfl) d0 l i 1 h (by omega)
def bytes (l : List Int) : List Value := l.map (Value.int .u8)
structure ZV (w : World) (ae ai ar ad : Option Addr) (ends : List Int) (items reads : List (Int × Int)) (des : List DEnt) : Prop where
  e : Sl w ae (bytes ends)
  i : Sl w ai (flat items)
  r : Sl w ar (flat reads)
  d : Sl w ad (flatD des)
  v : ∀ x ∈ des, Sl w x.ad (ints x.zs)
theorem ZV.below {w w' : World} {ae ai ar ad : Option Addr} {ends : List Int} {items reads : List (Int × Int)} {des : List DEnt} (h : ZV w ae ai ar ad ends items reads des) (hb : Below w.heap.size w w') : ZV w' ae ai ar ad ends items reads des :=
  ⟨h.e.below hb, h.i.below hb, h.r.below hb, h.d.below hb, fun x hx => (h.v x hx).below hb⟩
/-- Below some B alone is enough, where all lies below B. -/
theorem Sl.low {w w' : World} {a : Option Addr} {cs : List Value} {B : Nat} (h : Sl w a cs) (hB : cs ≠ [] → ∀ ad, a = some ad → ad.block < B) (hb : Below B w w') : Sl w' a cs := by
  intro hne
  obtain ⟨b, off, rfl, hc⟩ := h hne
  refine ⟨b, off, rfl, fun i hi => ?_⟩
  rw [hb.cell (p := ⟨b, off + i, none⟩) (show b < B from hB hne ⟨b, off, none⟩ rfl)]
  exact hc i hi

abbrev zst (ae : Option Addr) (ne ce : Nat) (ai : Option Addr) (ni ci : Nat) (ar : Option Addr) (nr cr : Nat) (b0 b1 b2 b3 : Bool) (ad : Option Addr) (nd cd : Nat) : Value :=
  .agg #[.slice ae ne ce, .slice ai ni ci, .slice ar nr cr, .bool b0, .bool b1, .bool b2, .bool b3, .slice ad nd cd]
def zcells (ae : Option Addr) (ne ce : Nat) (ai : Option Addr) (ni ci : Nat) (ar : Option Addr) (nr cr : Nat) (b0 b1 b2 b3 : Bool) (ad : Option Addr) (nd cd : Nat) : Array Value :=
  #[.slice ae ne ce, .slice ai ni ci, .slice ar nr cr, .bool b0, .bool b1, .bool b2, .bool b3, .slice ad nd cd]

theorem Sl.at {w : World} {a : Option Addr} {cs : List Value} (h : Sl w a cs) {j : Nat} (hj : j < cs.length) : ∃ b off, a = some ⟨b, off, none⟩ ∧ ∀ i, i < cs.length → w.cell? ⟨b, off + i, none⟩ = cs[i]? := h (ne_of_lt hj)

/-! ### nil slices -/
theorem eqNil (T E : TypeId) (hT : Try.prog.underlying T = some (.slice E)) (w : World) (a : Option Addr) (n c : Nat) : (binOp .eql T (.slice a n c) (.slice none 0 0)).run Try.prog w = .ok (.bool a.isNone) w := Lib.run_eql_slice_nil w T E a n c 0 0 hT
theorem neNil (T E : TypeId) (hT : Try.prog.underlying T = some (.slice E)) (w : World) (a : Option Addr) (n c : Nat) : (binOp .neq T (.slice a n c) (.slice none 0 0)).run Try.prog w = .ok (.bool (!a.isNone)) w := run_neq_slice_nil_any w T E a n c 0 0 hT
theorem eqNil51 (w : World) (a : Option Addr) (n c : Nat) : (binOp .eql 51 (.slice a n c) (.slice none 0 0)).run Try.prog w = .ok (.bool a.isNone) w := eqNil 51 21 Try.underlying51 w a n c
theorem neNil22 (w : World) (a : Option Addr) (n c : Nat) : (binOp .neq 22 (.slice a n c) (.slice none 0 0)).run Try.prog w = .ok (.bool (!a.isNone)) w := neNil 22 5 Try.underlying22 w a n c
theorem neNil23 (w : World) (a : Option Addr) (n c : Nat) : (binOp .neq 23 (.slice a n c) (.slice none 0 0)).run Try.prog w = .ok (.bool (!a.isNone)) w := neNil 23 49 Try.underlying23 w a n c
theorem neNil24 (w : World) (a : Option Addr) (n c : Nat) : (binOp .neq 24 (.slice a n c) (.slice none 0 0)).run Try.prog w = .ok (.bool (!a.isNone)) w := neNil 24 53 Try.underlying24 w a n c
theorem neNil26 (w : World) (a : Option Addr) (n c : Nat) : (binOp .neq 26 (.slice a n c) (.slice none 0 0)).run Try.prog w = .ok (.bool (!a.isNone)) w := neNil 26 58 Try.underlying26 w a n c
attribute [local go_sem] eqNil51

theorem fill_step {α : Type} {xs : List α} {f : Nat → α} {k : Nat} (hk : k < xs.length) (h : ∀ j, j < k → xs[j]? = some (f j)) : ∀ j, j < k + 1 → (xs.set k (f k))[j]? = some (f j) := by
  intro j hj
  rw [List.getElem?_set]
  by_cases e : k = j
  · subst e; simp [hk]
  · rw [if_neg e]; exact h j (by omega)
theorem fill_eq {α : Type} {xs ys : List α} (hl : xs.length = ys.length) (h : ∀ j, j < ys.length → xs[j]? = ys[j]?) : xs = ys := by
  apply List.ext_getElem?
  intro j
  by_cases hj : j < ys.length
  · exact h j hj
  · rw [List.getElem?_eq_none (by omega), List.getElem?_eq_none (by omega)]

/-- zzCopyInts. -/
theorem copyInts_nil (cap : Nat) (w : World) : Calls Try.prog 20 #[.slice none 0 cap] w fun e w' => e = .returned (.slice none 0 0) ∧ w' = w := by
  go_enter Try.func20, Try.ntmps20
  go_wp2
  go_ret
  exact ⟨rfl, rfl⟩
set_option maxHeartbeats 1000000 in
theorem copyInts_some (ad : Addr) (cap : Nat) (zs : List Int) (w : World) (hs : Sl w (some ad) (ints zs)) (hl : zs.length ≤ 100000000) :
    Calls Try.prog 20 #[.slice (some ad) zs.length cap] w fun e w' => e = .returned (.slice (some ⟨w.heap.size, 0, none⟩) zs.length zs.length) ∧
      w'.ownsRow w.heap.size 21 1 (.slice (some ⟨w.heap.size, 0, none⟩) zs.length zs.length) zs.length (ints zs) ∧ Below w.heap.size w w' := by
  obtain ⟨i0, hi, hz0, hz1, hz2⟩ := info_parts Try.info21
  have hil : (ints zs).length = zs.length := by simp [ints]
  go_enter Try.func20, Try.ntmps20
  go_wp2_with (at_make; go_must (refine wpList_make_full _ rfl _ _ 51 rfl w.heap.size 21 i0 (.int .i32 0) 1 Try.underlying51 hi hz0 hz1 .i64 .i64 _ _ zs.length rfl rfl rfl rfl (by rw [hz2]; omega) (by unfold maxLen; omega) (Nat.le_refl _) ?_; intro w1 hown1 hgrow1))
  have hb1 : Below w.heap.size w w1 := (Below.refl _ _).grown hgrow1 (Nat.le_refl _) (fun j hj => by cases hj)
  clear hgrow1
  go_loopw [4] (fun i wr => ∃ (k : Nat) (xs : List Value), k ≤ zs.length ∧ i = .int .i64 k ∧ wr.ownsRow w.heap.size 21 1 (.slice (some ⟨w.heap.size, 0, none⟩) zs.length zs.length) zs.length xs ∧ (∀ j, j < k → xs[j]? = some ((ints zs).getD j undef)) ∧ Below w.heap.size w wr) (fun i _ => zs.length - (intOf i).toNat)
  case atStart => exact ⟨0, _, Nat.zero_le _, rfl, hown1, fun j hj => by omega, hb1⟩
  case round =>
    obtain ⟨k, xs, hk, rfl, hown, hxs, hnx⟩ := hrel
    clear hown1 hb1
    have hxl : xs.length = zs.length := by have := hown.1; omega
    by_cases hlt : k < zs.length
    · obtain ⟨b, off, e0, hc⟩ := (hs.below hnx).at (show k < (ints zs).length by omega)
      cases e0
      have hck0 := hc k (by omega)
      have hgd : (ints zs)[k]? = some (.int .i32 (zs.getD k 0)) := by simp [ints, hlt]
      have hgd2 : (ints zs).getD k undef = .int .i32 (zs.getD k 0) := by rw [List.getD_eq_getElem?_getD, hgd]; rfl
      rw [hgd] at hck0
      have hst := (hown.stored k (.int .i32 (zs.getD k 0))).1
      have hfz := hown.frozenAt k
      have hck := hown.cellAt k (by omega)
      rw [List.getElem?_eq_getElem (show k < xs.length by omega)] at hck
      have hf := fill_step (f := fun j => (ints zs).getD j undef) (show k < xs.length by omega) hxs
      rw [hgd2] at hf
      have H1 : Hid _ := hst
      have H2 : Hid (Below w.heap.size w (wr.setCell ⟨w.heap.size, k, none⟩ (.int .i32 (zs.getD k 0)))) := hnx.setCell (Nat.le_refl _) _
      have H3 : Hid _ := hf
      generalize xs[k] = x0 at hck
      generalize zs.getD k 0 = q at hck0 H1 H2 H3
      clear hst hown hc hs hxs hnx hf hgd hgd2
      go_wp2
      go_roundw
      case rel => exact ⟨k + 1, _, by omega, by go_num, H1, H3, H2⟩
      case measure => simp [intOf]; omega
    · obtain rfl : k = zs.length := by omega
      have hfin : xs = ints zs := fill_eq (by omega) (fun j hj => by rw [hxs j (by omega), List.getD_eq_getElem?_getD, List.getElem?_eq_getElem hj]; rfl)
      rw [hfin] at hown
      clear hfin hxs
      go_wp2
      go_ret
      exact ⟨rfl, hown, hnx⟩
theorem copyInts_any (a : Option Addr) (cap : Nat) (zs : List Int) (w : World) (hs : Sl w a (ints zs)) (hl : zs.length ≤ 100000000) :
    Calls Try.prog 20 #[.slice a zs.length cap] w fun e w' => ∃ o cp, e = .returned (.slice o zs.length cp) ∧ w'.ownsRow w.heap.size 21 1 (.slice o zs.length cp) zs.length (ints zs) ∧ Below w.heap.size w w' := by
  cases a with
  | none =>
    have hz : zs = [] := by
      by_cases h : zs = []
      · exact h
      · obtain ⟨b, off, e, _⟩ := hs (by intro e; exact h (by simpa [ints] using e))
        cases e
    subst hz
    refine (copyInts_nil cap w).mono ?_
    rintro e w' ⟨rfl, hw⟩
    subst hw
    exact ⟨none, 0, rfl, World.ownsRow_nil _ _ _ _, Below.refl _ _⟩
  | some ad =>
    refine (copyInts_some ad cap zs w hs hl).mono ?_
    rintro e w' ⟨rfl, ho, hb⟩
    exact ⟨_, _, rfl, ho, hb⟩

end Go.Proofs.Qxb6625890a
