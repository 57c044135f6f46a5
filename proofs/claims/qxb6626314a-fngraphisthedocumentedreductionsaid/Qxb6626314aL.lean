/-
  Seat b6626314a: slices that can be read, accesses; zzBytes, zzItemCount, zzFind.
-/
import Derived.Test.Qxb6626314aK
import Derived.Maps.AppendAt
import Derived.Maps.OwnSet
import Derived.Maps.RangeWalk
import Derived.Deep.AppendLies
import Derived.Deep.DeepCutAuto
import Derived.Deep.CutBlock
import Derived.BigRegion
namespace Go.Proofs.Qxb6626314a
open Go.RowKit Go.Maps Go.Sort
set_option linter.unusedVariables false

theorem ne_of_lt {α : Type} {l : List α} {k : Nat} (h : k < l.length) : l ≠ [] := by intro e; subst e; simp at h
theorem grown_of_below {w w' : World} (h : Below w.heap.size w w') : w.grownBy w' none := ⟨h.os, h.tape, h.output, h.size, fun k hk _ => h.block k hk⟩
theorem below_of_grown {w w' : World} (h : w.grownBy w' none) : Below w.heap.size w w' := ⟨h.os, h.tape, h.output, h.size, fun k hk => h.block k hk (by simp)⟩
theorem row_below {w w' : World} {base : Nat} {e : TypeId} {size : Nat} {v : Value} {n : Nat} {xs : List Value} (h : w.ownsRow base e size v n xs) (hb : Below w.heap.size w w') : w'.ownsRow base e size v n xs := row_kept h (grown_of_below hb) (fun g _ => by simp)
theorem row_mono {w : World} {base base' : Nat} {e : TypeId} {size : Nat} {v : Value} {n : Nat} {xs : List Value} (hb : base' ≤ base) (h : w.ownsRow base e size v n xs) : w.ownsRow base' e size v n xs := by
  refine ⟨h.1, ?_⟩
  rcases h.2 with h | ⟨g, cap, cur, e1, e2, h⟩
  · exact Or.inl h
  · exact Or.inr ⟨g, cap, cur, e1, Nat.le_trans hb e2, h⟩
theorem row_tag {w : World} {base : Nat} {e : TypeId} {size : Nat} {v : Value} {n : Nat} {xs : List Value} (h : w.ownsRow base e size v n xs) : ∀ g, v.ownBlock = some g → base ≤ g ∧ ∃ cur, w.heap[g]? = some (.cells cur e (0, 0)) := by
  intro g hg
  rcases h.2 with ⟨rfl, _⟩ | ⟨g', cap, cur, rfl, hb, hh, _⟩
  · simp [Value.ownBlock] at hg
  · simp [Value.ownBlock] at hg
    subst hg
    exact ⟨hb, cur, hh⟩
theorem cell_blk {w : World} {g j : Nat} {cs : Array Value} {t : TypeId} {fr : Nat × Nat} {v : Value} (h : w.heap[g]? = some (.cells cs t fr)) (hv : cs[j]? = some v) : w.cell? ⟨g, j, none⟩ = some v := (cell_of_row w g j cs t fr h).trans hv
theorem cell_setCell_other {w : World} {a p : Addr} {u v : Value} (h : w.cell? p = some v) (hne : p.block ≠ a.block) : (w.setCell a u).cell? p = some v :=
  (World.cell?_of_block (w := w) (Below.heap_setCell w a u p.block hne)).trans h
theorem blk_set {w : World} {g i : Nat} {cs : Array Value} {t : TypeId} (v : Value) (h : w.heap[g]? = some (.cells cs t (0, 0))) : (w.setCell ⟨g, i, none⟩ v).heap[g]? = some (.cells (cs.setIfInBounds i v) t (0, 0)) := heap_setCell_same w g i cs t v h
theorem blk_kept {w w' : World} {row : Option Nat} {b : Nat} {o : Obj} (hg : w.grownBy w' row) (hb : w.heap[b]? = some o) (hne : some b ≠ row) : w'.heap[b]? = some o :=
  (hg.block b (Array.getElem?_eq_some_iff.1 hb).1 hne).trans hb
theorem blk_below {w w' : World} {b : Nat} {o : Obj} (hg : Below w.heap.size w w') (hb : w.heap[b]? = some o) : w'.heap[b]? = some o := (hg.block b (Array.getElem?_eq_some_iff.1 hb).1).trans hb
theorem ne_of_tag {w : World} {b g : Nat} {c c' : Array Value} {e e' : TypeId} {fr fr' : Nat × Nat} (hb : w.heap[b]? = some (.cells c e fr)) (hg : w.heap[g]? = some (.cells c' e' fr')) (hne : e ≠ e') : b ≠ g := by
  intro h
  subst h
  rw [hb] at hg
  simp at hg
  exact hne hg.2.1
theorem ne_of_map {w : World} {b g : Nat} {c : Array Value} {e : TypeId} {fr : Nat × Nat} {es : Array MapEntry} {cl : Nat} (hb : w.heap[b]? = some (.cells c e fr)) (hg : w.heap[g]? = some (.map es cl)) : b ≠ g := by
  intro h
  subst h
  rw [hb] at hg
  simp at hg

/-- A slice that can be read: its cells. -/
def Sl (w : World) (a : Option Addr) (cs : List Value) : Prop :=
  cs ≠ [] → ∃ b off, a = some ⟨b, off, none⟩ ∧ ∀ i, i < cs.length → w.cell? ⟨b, off + i, none⟩ = cs[i]?
theorem Sl.below {w w' : World} {a : Option Addr} {cs : List Value} (h : Sl w a cs) (hb : Below w.heap.size w w') : Sl w' a cs := by
  intro hne
  obtain ⟨b, off, rfl, hc⟩ := h hne
  refine ⟨b, off, rfl, fun i hi => ?_⟩
  have h1 := hc i hi
  rw [List.getElem?_eq_getElem hi] at h1 ⊢
  exact cell_later hb h1
theorem Sl.nil (w : World) (a : Option Addr) : Sl w a [] := fun h => absurd rfl h
theorem sl_of_row {w : World} {base : Nat} {e : TypeId} {size : Nat} {o : Option Addr} {n cp : Nat} {xs : List Value} (h : w.ownsRow base e size (.slice o n cp) n xs) : Sl w o xs := by
  intro hne
  have hl := h.1
  have hp : 0 < xs.length := List.length_pos_iff.2 hne
  rcases h.2 with ⟨h', h''⟩ | ⟨g, cap, cur, h', _⟩
  · subst h''; omega
  · have h2 := h
    simp only [Value.slice.injEq, true_and] at h'
    obtain ⟨rfl, rfl⟩ := h'
    refine ⟨g, 0, rfl, fun i hi => ?_⟩
    rw [Nat.zero_add]
    exact h2.cellAt i (by omega)
theorem Sl.at {w : World} {a : Option Addr} {cs : List Value} (h : Sl w a cs) {j : Nat} (hj : j < cs.length) : ∃ b off, a = some ⟨b, off, none⟩ ∧ ∀ i, i < cs.length → w.cell? ⟨b, off + i, none⟩ = cs[i]? := h (ne_of_lt hj)
theorem row_shape {w : World} {base : Nat} {e : TypeId} {size : Nat} {v : Value} {n : Nat} {xs : List Value} (h : w.ownsRow base e size v n xs) : ∃ o cp, v = .slice o n cp := by
  rcases h.2 with ⟨rfl, rfl⟩ | ⟨g, cap, cur, rfl, _⟩
  · exact ⟨none, 0, rfl⟩
  · exact ⟨some ⟨g, 0, none⟩, cap, rfl⟩
theorem i64_cell {w : World} {a : Option Addr} {l : List Int} (h : Sl w a (int64s l)) {k : Nat} (hk : k < l.length) : ∃ b off, a = some ⟨b, off, none⟩ ∧ w.cell? ⟨b, off + k, none⟩ = some (.int .i64 (l.getD k 0)) := by
  have hl : (int64s l).length = l.length := by simp [int64s]
  obtain ⟨b, off, rfl, hc⟩ := h.at (show k < (int64s l).length by omega)
  exact ⟨b, off, rfl, by rw [hc k (by omega)]; simp [int64s, hk]⟩
theorem i32_cell {w : World} {a : Option Addr} {l : List Int} (h : Sl w a (ints l)) {k : Nat} (hk : k < l.length) : ∃ b off, a = some ⟨b, off, none⟩ ∧ w.cell? ⟨b, off + k, none⟩ = some (.int .i32 (l.getD k 0)) := by
  have hl : (ints l).length = l.length := by simp [ints]
  obtain ⟨b, off, rfl, hc⟩ := h.at (show k < (ints l).length by omega)
  exact ⟨b, off, rfl, by rw [hc k (by omega)]; simp [ints, hk]⟩

/-! ### Accesses -/
structure Ac where
  tx : Int
  item : Int
  wr : Bool
def a0 : Ac := ⟨0, 0, false⟩
def acell (a : Ac) : List Value := [.int .i64 a.tx, .int .i32 a.item, .bool a.wr]
def flatA (l : List Ac) : List Value := l.flatMap acell
theorem flatMap_get {α : Type} (g : α → List Value) (k : Nat) (hk : ∀ x, (g x).length = k) (d : α) : ∀ (l : List α) (i j : Nat), i < l.length → j < k → (l.flatMap g)[i * k + j]? = (g (l.getD i d))[j]?
  | [], i, j, h, _ => absurd h (by simp)
  | a :: l, 0, j, _, hj => by
    rw [List.flatMap_cons, List.getElem?_append_left (by rw [hk]; omega)]
    simp
  | a :: l, i + 1, j, h, hj => by
    have hi : i < l.length := by simpa using h
    have e : (i + 1) * k + j = k + (i * k + j) := by rw [Nat.add_mul]; omega
    rw [List.flatMap_cons, List.getElem?_append_right (by rw [hk, e]; omega), hk, e, Nat.add_sub_cancel_left, flatMap_get g k hk d l i j hi hj]
    simp
theorem flatMap_len {α : Type} (g : α → List Value) (k : Nat) (hk : ∀ x, (g x).length = k) : ∀ l : List α, (l.flatMap g).length = l.length * k
  | [] => by simp
  | a :: l => by rw [List.flatMap_cons, List.length_append, hk, flatMap_len g k hk l, List.length_cons, Nat.add_mul]; omega
theorem flatA_len (l : List Ac) : (flatA l).length = l.length * 3 := flatMap_len acell 3 (fun _ => rfl) l
theorem flatA_at (l : List Ac) (i j : Nat) (h : i < l.length) (hj : j < 3) : (flatA l)[i * 3 + j]? = (acell (l.getD i a0))[j]? := flatMap_get acell 3 (fun _ => rfl) a0 l i j h hj
theorem acc_cell {w : World} {a : Option Addr} {l : List Ac} (h : Sl w a (flatA l)) {k : Nat} (hk : k < l.length) : ∃ b off, a = some ⟨b, off, none⟩ ∧ w.cell? ⟨b, off + k * 3, none⟩ = some (.int .i64 (l.getD k a0).tx) ∧ w.cell? ⟨b, off + k * 3 + 1, none⟩ = some (.int .i32 (l.getD k a0).item) ∧ w.cell? ⟨b, off + k * 3 + 2, none⟩ = some (.bool (l.getD k a0).wr) := by
  have hl := flatA_len l
  obtain ⟨b, off, rfl, hc⟩ := h.at (show k * 3 + 2 < (flatA l).length by omega)
  have key : ∀ j, j < 3 → w.cell? ⟨b, off + k * 3 + j, none⟩ = (acell (l.getD k a0))[j]? := fun j hj => by
    rw [Nat.add_assoc, hc (k * 3 + j) (by omega)]; exact flatA_at l k j hk hj
  exact ⟨b, off, rfl, key 0 (by omega), key 1 (by omega), key 2 (by omega)⟩

/-! ### zzBytes -/
def BoolP (w : World) (e : Ending) (w' : World) : Prop := ∃ r, e = .returned (.bool r) ∧ w' = w
set_option maxRecDepth 100000 in
theorem bytes5 (a : Option Addr) (n c : Nat) (b : Option Addr) (m d : Nat) (f : Option Addr) (p q : Nat) (w : World) :
    Calls Try.prog 5 #[.slice a n c, .slice b m d, .slice f p q] w (BoolP w) := by
  go_enter Try.func5, Try.ntmps5
  by_cases h1 : (1048576 : Int) < (n : Int)
  · go_wp2_with fail
    go_ret
    exact ⟨_, rfl, rfl⟩
  by_cases h2 : (1048576 : Int) < (m : Int)
  · go_wp2_with fail
    go_ret
    exact ⟨_, rfl, rfl⟩
  by_cases h3 : (1048576 : Int) < (n : Int) + (m : Int)
  · go_wp2_with fail
    go_ret
    exact ⟨_, rfl, rfl⟩
  by_cases h4 : (1048576 : Int) < (p : Int)
  · go_wp2_with fail
    go_ret
    exact ⟨_, rfl, rfl⟩
  by_cases h5 : (1048576 : Int) < (n : Int) + (m : Int) + (p : Int)
  · go_wp2_with fail
    go_ret
    exact ⟨_, rfl, rfl⟩
  go_wp2_with fail
  go_ret
  exact ⟨_, rfl, rfl⟩
set_option maxRecDepth 100000 in
theorem bytes19 (a : Option Addr) (n c : Nat) (b : Option Addr) (m d : Nat) (f : Option Addr) (p q : Nat) (w : World) :
    Calls Try.prog 19 #[.slice a n c, .slice b m d, .slice f p q] w (BoolP w) := by
  go_enter Try.func19, Try.ntmps19
  by_cases h1 : (1048576 : Int) < (n : Int)
  · go_wp2_with fail
    go_ret
    exact ⟨_, rfl, rfl⟩
  by_cases h2 : (1048576 : Int) < (m : Int)
  · go_wp2_with fail
    go_ret
    exact ⟨_, rfl, rfl⟩
  by_cases h3 : (1048576 : Int) < (n : Int) + (m : Int)
  · go_wp2_with fail
    go_ret
    exact ⟨_, rfl, rfl⟩
  by_cases h4 : (1048576 : Int) < (p : Int)
  · go_wp2_with fail
    go_ret
    exact ⟨_, rfl, rfl⟩
  by_cases h5 : (1048576 : Int) < (n : Int) + (m : Int) + (p : Int)
  · go_wp2_with fail
    go_ret
    exact ⟨_, rfl, rfl⟩
  go_wp2_with fail
  go_ret
  exact ⟨_, rfl, rfl⟩

/-! ### zzItemCount -/
def ICP (L : List Ac) (w : World) (e : Ending) (w' : World) : Prop := Below w.heap.size w w' ∧ ∃ (s : Nat) (ok : Bool), e = .returned (.tuple #[.int .i32 s, .bool ok]) ∧ (ok = true → s ≤ L.length ∧ ∀ i, i < L.length → 0 ≤ (L.getD i a0).item ∧ (L.getD i a0).item < s)
set_option maxRecDepth 100000 in
set_option maxHeartbeats 2000000 in
theorem itemCount (a : Option Addr) (c : Nat) (L : List Ac) (w : World) (hL : Sl w a (flatA L)) (hn : L.length ≤ 4096) :
    Calls Try.prog 6 #[.slice a L.length c] w (ICP L w) := by
  have HL : Hid (Sl w a (flatA L)) := hL
  clear hL
  go_enter Try.func6, Try.ntmps6
  go_wp2_with fail
  go_loopw [4, 9] (fun z i wr => ∃ (q s : Nat), q ≤ L.length ∧ s ≤ q ∧ i = .int .i64 q ∧ z = .int .i32 s ∧ Hid (Below w.heap.size w wr ∧ ∀ i, i < q → 0 ≤ (L.getD i a0).item ∧ (L.getD i a0).item < s)) (fun _ i _ => L.length - (intOf i).toNat)
  case atStart => exact ⟨0, 0, Nat.zero_le _, Nat.le_refl _, rfl, rfl, ⟨Below.refl _ _, fun i hi => absurd hi (by omega)⟩⟩
  case round =>
    obtain ⟨q, s, hq, hsq, rfl, rfl, HO⟩ := hrel
    by_cases hlt : q < L.length
    · have hlt' : (q : Int) < (L.length : Int) := by omega
      obtain ⟨b, off, rfl, c0, c1, c2⟩ := acc_cell (HL.out.below (HO.out.1.mono (Nat.le_refl _))) hlt
      generalize hgd : L.getD q a0 = gd at c0 c1 c2
      have HGD : Hid (L.getD q a0 = gd) := hgd
      have HL' : Hid _ := And.intro hq hsq
      obtain ⟨w2, hw2⟩ : ∃ w2, w2 = wr.alloc (.cells #[.int .i64 gd.tx, .int .i32 gd.item, .bool gd.wr] 37) := ⟨_, rfl⟩
      have hb2 : Below w.heap.size w w2 := by rw [hw2]; exact HO.out.1.alloc HO.out.1.size _
      have h2 : w2.heap[wr.heap.size]? = some (.cells #[.int .i64 gd.tx, .int .i32 gd.item, .bool gd.wr] 37 (0, 0)) := by rw [hw2]; exact heap_alloc_new wr _
      have k1 : w2.cell? ⟨wr.heap.size, 1, none⟩ = some (.int .i32 gd.item) := cell_blk h2 rfl
      have HB2 : Hid _ := hb2
      have HW2 : Hid _ := hw2
      clear hb2 h2 hgd hw2
      have hs4 : s ≤ 4096 := by omega
      go_upto_region 5 with fail
      rw [← HW2.out]
      clear HW2 c0 c1 c2
      by_cases h0 : gd.item < 0
      · go_wp2_with fail
        go_ret2
        exact ⟨HB2.out, 0, false, rfl, fun h => by cases h⟩
      · by_cases h3 : (s : Int) < gd.item
        · go_wp2_with fail
          go_ret2
          exact ⟨HB2.out, 0, false, rfl, fun h => by cases h⟩
        · by_cases h4 : gd.item = (s : Int)
          · go_wp2_with fail
            go_roundw
            case rel => exact ⟨q + 1, s + 1, by omega, by omega, by go_num, by go_num, ⟨HB2.out, fun i hi => by
              by_cases e : i = q
              · subst e; rw [HGD.out]; omega
              · have := HO.out.2 i (by omega); omega⟩⟩
            case measure => simp [intOf]; omega
          · go_wp2_with fail
            go_roundw
            case rel => exact ⟨q + 1, s, by omega, by omega, by go_num, rfl, ⟨HB2.out, fun i hi => by
              by_cases e : i = q
              · subst e; rw [HGD.out]; omega
              · exact HO.out.2 i (by omega)⟩⟩
            case measure => simp [intOf]; omega
    · go_wp2_with fail
      go_ret2
      exact ⟨HO.out.1, s, true, rfl, fun _ => ⟨by omega, fun i hi => HO.out.2 i (by omega)⟩⟩

/-! ### zzFind -/
def fnd (s : List Int) (x : Int) : Int := if x ∈ s then (s.idxOf x : Int) else -1
theorem idxOf_first : ∀ (s : List Int) (k : Nat) (x : Int), k < s.length → s.getD k 0 = x → (∀ i, i < k → s.getD i 0 ≠ x) → s.idxOf x = k
  | [], k, x, h, _, _ => absurd h (by simp)
  | y :: l, 0, x, _, h, _ => by
    simp at h
    subst h
    exact List.idxOf_cons_self
  | y :: l, k + 1, x, hk, h, hlt => by
    have h0 : y ≠ x := by simpa using hlt 0 (by omega)
    rw [List.idxOf_cons]
    have : (y == x) = false := by simpa using h0
    rw [this]
    have ih := idxOf_first l k x (by simpa using hk) (by simpa using h) (fun i hi => by simpa using hlt (i + 1) (by omega))
    simp [ih]
theorem fnd_at {s : List Int} {x : Int} {k : Nat} (hk : k < s.length) (hx : s.getD k 0 = x) (hlt : ∀ i, i < k → s.getD i 0 < x) : fnd s x = k := by
  have hx' : s[k] = x := by rw [← hx]; simp [hk]
  have hm : x ∈ s := by rw [← hx']; exact List.getElem_mem hk
  unfold fnd
  rw [if_pos hm, idxOf_first s k x hk hx (fun i hi => by have := hlt i hi; omega)]
theorem fnd_not {s : List Int} {x : Int} (h : ∀ k, k < s.length → s.getD k 0 ≠ x) : fnd s x = -1 := by
  unfold fnd
  rw [if_neg]
  intro hm
  obtain ⟨k, hk, e⟩ := List.mem_iff_getElem.1 hm
  exact h k hk (by simp [hk, e])
theorem sorted_getD {s : List Int} (h : s.Pairwise (· ≤ ·)) {i j : Nat} (hij : i ≤ j) (hj : j < s.length) : s.getD i 0 ≤ s.getD j 0 := by
  by_cases e : i = j
  · subst e; exact Int.le_refl _
  · rw [List.pairwise_iff_getElem] at h
    have := h i j (by omega) hj (by omega)
    simpa [List.getD_eq_getElem?_getD, hj, show i < s.length by omega] using this
set_option maxRecDepth 100000 in
set_option maxHeartbeats 2000000 in
theorem find_any (a : Option Addr) (c : Nat) (s : List Int) (x : Int) (w : World) (hs : Sl w a (int64s s)) (hp : s.Pairwise (· ≤ ·)) (hn : s.length ≤ 100000000) :
    Calls Try.prog 13 #[.slice a s.length c, .int .i64 x] w fun e w' => e = .returned (.int .i64 (fnd s x)) ∧ w' = w := by
  have HS : Hid (Sl w a (int64s s)) := hs
  have HP : Hid (s.Pairwise (· ≤ ·)) := hp
  clear hs hp
  obtain ⟨n, hn0⟩ : ∃ n, s.length = n := ⟨_, rfl⟩
  rw [hn0] at hn ⊢
  have HN : Hid (s.length = n) := hn0
  clear hn0
  go_enter Try.func13, Try.ntmps13
  go_wp2_with fail
  go_loop [5, 6] (fun vl vh => ∃ lo hi : Nat, vl = .int .i64 lo ∧ vh = .int .i64 hi ∧ lo ≤ hi ∧ hi ≤ n ∧ Hid ((∀ i, i < lo → s.getD i 0 < x) ∧ (∀ i, hi ≤ i → i < n → x ≤ s.getD i 0))) (fun vl vh => (intOf vh - intOf vl).toNat)
  case atStart => exact ⟨0, n, rfl, rfl, by omega, by omega, ⟨fun i hi => by omega, fun i h1 h2 => by omega⟩⟩
  case round =>
    obtain ⟨lo, hi, rfl, rfl, h1, h2, HO⟩ := hrel
    by_cases hlt : lo < hi
    · have hlt' : (lo : Int) < (hi : Int) := by omega
      obtain ⟨d2, hd2⟩ : ∃ d2, d2 = (hi - lo) / 2 := ⟨_, rfl⟩
      obtain ⟨df, hdf⟩ : ∃ df, df = hi - lo := ⟨_, rfl⟩
      have hdI : (hi : Int) - (lo : Int) = (df : Int) := by omega
      have hqI : (df : Int).tdiv 2 = (d2 : Int) := by rw [Int.tdiv_eq_ediv_of_nonneg (by omega)]; omega
      obtain ⟨m, hm⟩ : ∃ m, m = lo + d2 := ⟨_, rfl⟩
      have hmI : (lo : Int) + (d2 : Int) = (m : Int) := by omega
      have hmb : lo ≤ m ∧ m < hi := by omega
      obtain ⟨b, off, rfl, c0⟩ := i64_cell HS.out (show m < s.length by rw [HN.out]; omega)
      have HM : Hid (m = lo + d2 ∧ df = hi - lo ∧ d2 = (hi - lo) / 2) := ⟨hm, hdf, hd2⟩
      have hmn : (m : Int) < (n : Int) := by omega
      clear hm hdf hd2
      generalize hg : s.getD m 0 = gd at c0
      have HG : Hid (s.getD m 0 = gd) := hg
      clear hg
      by_cases hl : gd < x
      · go_wp2_with fail
        go_round
        case rel => exact ⟨m + 1, hi, by go_num, rfl, by omega, h2, ⟨fun i hi' => by
          have := sorted_getD HP.out (show i ≤ m by omega) (show m < s.length by rw [HN.out]; omega)
          rw [HG.out] at this; omega, HO.out.2⟩⟩
        case measure => simp [intOf]; omega
      · go_wp2_with fail
        go_round
        case rel => exact ⟨lo, m, rfl, rfl, by omega, by omega, ⟨HO.out.1, fun i i1 i2 => by
          have := sorted_getD HP.out i1 (show i < s.length by rw [HN.out]; omega)
          rw [HG.out] at this; omega⟩⟩
        case measure => simp [intOf]; omega
    · have e : lo = hi := by omega
      subst e
      by_cases hln : lo < n
      · have hln' : (lo : Int) < (n : Int) := by omega
        obtain ⟨b, off, rfl, c0⟩ := i64_cell HS.out (show lo < s.length by rw [HN.out]; omega)
        generalize hg : s.getD lo 0 = gd at c0
        have HG : Hid (s.getD lo 0 = gd) := hg
        clear hg
        by_cases hx : gd = x
        · subst hx
          have HF : Hid (fnd s gd = lo) := fnd_at (by rw [HN.out]; exact hln) HG.out HO.out.1
          go_wp2_with fail
          go_ret
          exact ⟨by rw [HF.out]; rfl, rfl⟩
        · have HF : Hid (fnd s x = -1) := fnd_not (fun k hk e => by
            have hk' : k < n := by rw [HN.out] at hk; exact hk
            by_cases c1 : k < lo
            · have := HO.out.1 k c1; omega
            · by_cases c2 : k = lo
              · subst c2; rw [HG.out] at e; exact hx e
              · have h3 := HO.out.2 lo (Nat.le_refl _) hln
                have h4 := sorted_getD HP.out (show lo ≤ k by omega) hk
                rw [HG.out] at h3 h4
                omega)
          go_wp2_with fail
          go_ret
          exact ⟨by rw [HF.out]; rfl, rfl⟩
      · have HF : Hid (fnd s x = -1) := fnd_not (fun k hk e => by
          rw [HN.out] at hk
          have := HO.out.1 k (by omega); omega)
        go_wp2_with fail
        go_ret
        exact ⟨by rw [HF.out]; rfl, rfl⟩

end Go.Proofs.Qxb6626314a
