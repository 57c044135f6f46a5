/-
  Seat b6626314a: zzSorted.
-/
import Derived.Test.Qxb6626314aL
import Derived.Laws.CopyOwn
namespace Go.Proofs.Qxb6626314a
open Go.RowKit Go.Maps Go.Sort
set_option linter.unusedVariables false
/-! ### Merging, plain -/
def Blk (n wd : Nat) (f : Nat → Int) : Prop := ∀ c p q, c * wd ≤ p → p < q → q < (c + 1) * wd → q < n → f p ≤ f q
structure MI (f g : Nat → Int) (lo mid hi i j k : Nat) : Prop where
  i0 : lo ≤ i
  i1 : i ≤ mid
  j0 : mid ≤ j
  j1 : j ≤ hi
  e : k + mid = i + j
  srt : ∀ p q, lo ≤ p → p < q → q < k → g p ≤ g q
  bnd : ∀ p q, lo ≤ p → p < k → (i ≤ q ∧ q < mid ∨ j ≤ q ∧ q < hi) → g p ≤ f q
  fwd : ∀ p, lo ≤ p → p < k → ∃ q, (lo ≤ q ∧ q < i ∨ mid ≤ q ∧ q < j) ∧ g p = f q
  bwd : ∀ q, (lo ≤ q ∧ q < i ∨ mid ≤ q ∧ q < j) → ∃ p, lo ≤ p ∧ p < k ∧ g p = f q
def upd (g : Nat → Int) (k : Nat) (x : Int) : Nat → Int := fun p => if p = k then x else g p
theorem upd_same (g : Nat → Int) (k : Nat) (x : Int) : upd g k x k = x := by simp [upd]
theorem upd_ne (g : Nat → Int) {k p : Nat} (x : Int) (h : p ≠ k) : upd g k x p = g p := by simp [upd, h]
structure MC (f : Nat → Int) (lo mid hi : Nat) : Prop where
  lm : lo ≤ mid
  mh : mid ≤ hi
  s1 : ∀ p q, lo ≤ p → p < q → q < mid → f p ≤ f q
  s2 : ∀ p q, mid ≤ p → p < q → q < hi → f p ≤ f q
theorem MI.start {f g : Nat → Int} {lo mid hi : Nat} (h : MC f lo mid hi) : MI f g lo mid hi lo mid lo :=
  ⟨Nat.le_refl _, h.lm, Nat.le_refl _, h.mh, rfl, fun p q a b c => absurd c (by omega), fun p q a b => absurd b (by omega), fun p a b => absurd b (by omega), fun q h => absurd h (by omega)⟩
theorem MI.left {f g : Nat → Int} {lo mid hi i j k : Nat} (hc : MC f lo mid hi) (h : MI f g lo mid hi i j k) (hi' : i < mid) (hle : j < hi → f i ≤ f j) : MI f (upd g k (f i)) lo mid hi (i + 1) j (k + 1) := by
  have hk : lo ≤ k := by have := h.i0; have := h.j0; have := h.e; omega
  refine ⟨by have := h.i0; omega, by omega, h.j0, h.j1, by have := h.e; omega, ?_, ?_, ?_, ?_⟩
  · intro p q h1 h2 h3
    rw [upd_ne _ _ (show p ≠ k by omega)]
    by_cases e : q = k
    · subst e; rw [upd_same]; exact h.bnd p i h1 h2 (Or.inl ⟨Nat.le_refl _, hi'⟩)
    · rw [upd_ne _ _ e]; exact h.srt p q h1 h2 (by omega)
  · intro p q h1 h2 h3
    by_cases e : p = k
    · subst e; rw [upd_same]
      rcases h3 with h3 | h3
      · exact hc.s1 i q h.i0 (by omega) h3.2
      · by_cases e2 : q = j
        · subst e2; exact hle h3.2
        · exact Int.le_trans (hle (by omega)) (hc.s2 j q h.j0 (by omega) h3.2)
    · rw [upd_ne _ _ e]; exact h.bnd p q h1 (by omega) (by omega)
  · intro p h1 h2
    by_cases e : p = k
    · subst e; rw [upd_same]; exact ⟨i, Or.inl ⟨h.i0, by omega⟩, rfl⟩
    · rw [upd_ne _ _ e]
      obtain ⟨q, a, b⟩ := h.fwd p h1 (by omega)
      exact ⟨q, by omega, b⟩
  · intro q hq
    by_cases e : q = i
    · subst e; exact ⟨k, hk, by omega, upd_same _ _ _⟩
    · obtain ⟨p, a, b, c⟩ := h.bwd q (by omega)
      exact ⟨p, a, by omega, by rw [upd_ne _ _ (by omega)]; exact c⟩
theorem MI.right {f g : Nat → Int} {lo mid hi i j k : Nat} (hc : MC f lo mid hi) (h : MI f g lo mid hi i j k) (hj' : j < hi) (hle : i < mid → f j ≤ f i) : MI f (upd g k (f j)) lo mid hi i (j + 1) (k + 1) := by
  have hk : lo ≤ k := by have := h.i0; have := h.j0; have := h.e; omega
  refine ⟨h.i0, h.i1, by have := h.j0; omega, by omega, by have := h.e; omega, ?_, ?_, ?_, ?_⟩
  · intro p q h1 h2 h3
    rw [upd_ne _ _ (show p ≠ k by omega)]
    by_cases e : q = k
    · subst e; rw [upd_same]; exact h.bnd p j h1 h2 (Or.inr ⟨Nat.le_refl _, hj'⟩)
    · rw [upd_ne _ _ e]; exact h.srt p q h1 h2 (by omega)
  · intro p q h1 h2 h3
    by_cases e : p = k
    · subst e; rw [upd_same]
      rcases h3 with h3 | h3
      · by_cases e2 : q = i
        · subst e2; exact hle h3.2
        · exact Int.le_trans (hle (by omega)) (hc.s1 i q h.i0 (by omega) h3.2)
      · exact hc.s2 j q h.j0 (by omega) h3.2
    · rw [upd_ne _ _ e]; exact h.bnd p q h1 (by omega) (by omega)
  · intro p h1 h2
    by_cases e : p = k
    · subst e; rw [upd_same]; exact ⟨j, Or.inr ⟨h.j0, by omega⟩, rfl⟩
    · rw [upd_ne _ _ e]
      obtain ⟨q, a, b⟩ := h.fwd p h1 (by omega)
      exact ⟨q, by omega, b⟩
  · intro q hq
    by_cases e : q = j
    · subst e; exact ⟨k, hk, by omega, upd_same _ _ _⟩
    · obtain ⟨p, a, b, c⟩ := h.bwd q (by omega)
      exact ⟨p, a, by omega, by rw [upd_ne _ _ (by omega)]; exact c⟩
/-- One pass over the blocks, up to lo. -/
structure MO (n wd : Nat) (f g : Nat → Int) (lo : Nat) : Prop where
  at' : ∃ c, lo = c * (2 * wd)
  srt : ∀ c p q, c * (2 * wd) ≤ p → p < q → q < (c + 1) * (2 * wd) → q < lo → q < n → g p ≤ g q
  fwd : ∀ p, p < lo → p < n → ∃ q, q < n ∧ g p = f q
  bwd : ∀ q, q < lo → q < n → ∃ p, p < lo ∧ p < n ∧ g p = f q
theorem MO.start (n wd : Nat) (f g : Nat → Int) : MO n wd f g 0 :=
  ⟨⟨0, by simp⟩, fun c p q _ _ _ h => absurd h (by omega), fun p h => absurd h (by omega), fun p h => absurd h (by omega)⟩
theorem MC.of {n wd : Nat} {f : Nat → Int} {c : Nat} (h : Blk n wd f) (hlt : c * (2 * wd) < n) : MC f (c * (2 * wd)) (min (c * (2 * wd) + wd) n) (min (c * (2 * wd) + 2 * wd) n) := by
  have e1 : (2 * c) * wd = c * (2 * wd) := by rw [Nat.mul_comm 2 c, Nat.mul_assoc]
  have e2 : (2 * c + 1) * wd = c * (2 * wd) + wd := by rw [Nat.add_mul, e1]; omega
  have e3 : (2 * c + 1 + 1) * wd = c * (2 * wd) + 2 * wd := by rw [Nat.add_mul, e2]; omega
  refine ⟨by omega, by omega, fun p q a b c' => ?_, fun p q a b c' => ?_⟩
  · exact h (2 * c) p q (by omega) b (by omega) (by omega)
  · exact h (2 * c + 1) p q (by omega) b (by omega) (by omega)
theorem MO.next {n wd : Nat} {f g g' : Nat → Int} {c : Nat} (hwd : 0 < wd) (h : MO n wd f g (c * (2 * wd))) (hlt : c * (2 * wd) < n)
    {i j k : Nat} (hm : MI f g' (c * (2 * wd)) (min (c * (2 * wd) + wd) n) (min (c * (2 * wd) + 2 * wd) n) i j k) (hk : k = min (c * (2 * wd) + 2 * wd) n)
    (hsame : ∀ p, p < c * (2 * wd) → g' p = g p) : MO n wd f g' (c * (2 * wd) + 2 * wd) := by
  have e0 : (c + 1) * (2 * wd) = c * (2 * wd) + 2 * wd := by rw [Nat.add_mul]; omega
  refine ⟨⟨c + 1, e0.symm⟩, ?_, ?_, ?_⟩
  · intro d p q h1 h2 h3 h4 h5
    by_cases hq : q < c * (2 * wd)
    · rw [hsame p (by omega), hsame q hq]; exact h.srt d p q h1 h2 h3 hq h5
    · rcases Nat.lt_trichotomy d c with hd | hd | hd
      · have := Nat.mul_le_mul_right (2 * wd) (show d + 1 ≤ c by omega); omega
      · subst hd; exact hm.srt p q h1 h2 (by omega)
      · have := Nat.mul_le_mul_right (2 * wd) (show c + 1 ≤ d by omega); omega
  · intro p h1 h2
    by_cases hp : p < c * (2 * wd)
    · rw [hsame p hp]; exact h.fwd p hp h2
    · obtain ⟨q, a, b⟩ := hm.fwd p (by omega) (by omega)
      exact ⟨q, by have := hm.j1; have := hm.i1; omega, b⟩
  · intro q h1 h2
    by_cases hq : q < c * (2 * wd)
    · obtain ⟨p, hp, a, b⟩ := h.bwd q hq h2
      exact ⟨p, by omega, a, by rw [hsame p hp]; exact b⟩
    · obtain ⟨p, a, b, c'⟩ := hm.bwd q (by have := hm.e; have := hm.i1; have := hm.j1; omega)
      exact ⟨p, by omega, by omega, c'⟩
theorem MO.fin {n wd : Nat} {f g : Nat → Int} {lo : Nat} (h : MO n wd f g lo) (hl : n ≤ lo) : Blk n (wd * 2) g ∧ (∀ p, p < n → ∃ q, q < n ∧ g p = f q) ∧ (∀ q, q < n → ∃ p, p < n ∧ g p = f q) :=
  ⟨fun c p q a b d e => h.srt c p q (by rw [Nat.mul_comm 2 wd]; exact a) b (by rw [Nat.mul_comm 2 wd]; exact d) (by omega) e, fun p hp => h.fwd p (by omega) hp, fun q hq => by
    obtain ⟨p, _, a, b⟩ := h.bwd q (by omega) hq
    exact ⟨p, a, b⟩⟩
theorem Blk.one (n : Nat) (f : Nat → Int) : Blk n 1 f := fun c p q a b d e => absurd d (by omega)
theorem Blk.srt {n wd : Nat} {f : Nat → Int} (h : Blk n wd f) (hn : n ≤ wd) : ∀ p q, p < q → q < n → f p ≤ f q := fun p q a b => h 0 p q (by omega) a (by omega) b
theorem Try.info2 : (Try.prog.info? 2).map (fun i => (i.zero, i.size, i.bytes)) = some (some (.int .i64 0), 1, 8) := by kernel_rfl
/-! ### Blocks of int64 -/
theorem add_eq (b off j : Nat) : (⟨b, off, none⟩ : Addr).add j = ⟨b, off + j, none⟩ := by
  unfold Addr.add
  by_cases h : j = 0 <;> simp [h]
theorem row_block {w : World} {base : Nat} {e : TypeId} {g n : Nat} {xs : List Value} (h : w.ownsRow base e 1 (.slice (some ⟨g, 0, none⟩) n n) n xs) : w.heap[g]? = some (.cells xs.toArray e (0, 0)) ∧ xs.length = n := by
  obtain ⟨h1, h2⟩ := h
  rcases h2 with ⟨h', _⟩ | ⟨g', cap, cur, h', _, hg, _, _, hcs, ht⟩
  · simp at h'
  · simp only [Value.slice.injEq, Option.some.injEq, Addr.mk.injEq, and_true, true_and] at h'
    obtain ⟨rfl, rfl⟩ := h'
    rw [List.take_of_length_le (by rw [Array.length_toList, hcs]; exact Nat.le_refl _)] at ht
    refine ⟨?_, by omega⟩
    rw [hg, ← ht]
theorem splice_all {α : Type} (xs cs : List α) (h : xs.length = cs.length) : splice xs 0 cs = cs := by
  simp [splice, h]
theorem int64s_len (A : List Int) : (int64s A).length = A.length := by simp [int64s]
theorem int64s_oneCell (A : List Int) : ∀ u ∈ int64s A, u.oneCell' = true := by
  intro u hu
  obtain ⟨s, _, rfl⟩ := List.mem_map.1 hu
  rfl
theorem frz_blk {w : World} {g : Nat} {cs : Array Value} {t : TypeId} (h : w.heap[g]? = some (.cells cs t (0, 0))) (j : Nat) : w.frozen? ⟨g, j, none⟩ = false := by
  simp [World.frozen?, h]
def B64 (w : World) (g : Nat) (A : List Int) : Prop := w.heap[g]? = some (.cells (int64s A).toArray 2 (0, 0))
theorem B64.cell {w : World} {g : Nat} {A : List Int} (h : B64 w g A) {k : Nat} (hk : k < A.length) : w.cell? ⟨g, k, none⟩ = some (.int .i64 (A.getD k 0)) := cell_blk h (by simp [int64s, hk])
theorem B64.sl {w : World} {g : Nat} {A : List Int} (h : B64 w g A) : Sl w (some ⟨g, 0, none⟩) (int64s A) := by
  intro _
  refine ⟨g, 0, rfl, fun i hi => ?_⟩
  rw [Nat.zero_add]
  unfold B64 at h
  rw [cell_of_row w g i _ _ _ h]
  simp
theorem B64.put {w : World} {g : Nat} {A : List Int} (h : B64 w g A) (k : Nat) (x : Int) : B64 (w.setCell ⟨g, k, none⟩ (.int .i64 x)) g (A.set k x) := by
  have h1 := blk_set (i := k) (.int .i64 x) h
  unfold B64
  rw [h1]
  simp [int64s]
theorem B64.kept {w : World} {g g' : Nat} {A : List Int} (h : B64 w g A) (hne : g ≠ g') (k : Nat) (v : Value) : B64 (w.setCell ⟨g', k, none⟩ v) g A := (Below.heap_setCell w ⟨g', k, none⟩ v g hne).trans h
theorem B64.drew {w : World} {g : Nat} {A : List Int} (h : B64 w g A) (n : Nat) : B64 (w.drewN n) g A := by
  unfold B64 at h ⊢
  rw [← h]
  simp [World.drewN]
theorem getD_set (A : List Int) (k : Nat) (x : Int) (hk : k < A.length) (p : Nat) : (A.set k x).getD p 0 = upd (fun p => A.getD p 0) k x p := by
  unfold upd
  by_cases e : p = k
  · subst e; simp [hk]
  · simp [e, Ne.symm e]
structure TwoA (w : World) (n : Nat) (ga gb : Nat) (A B : List Int) (wr : World) : Prop where
  ba : B64 wr ga A
  bb : B64 wr gb B
  ne : ga ≠ gb
  la : w.heap.size ≤ ga
  lb : w.heap.size ≤ gb
  na : A.length = n
  nb : B.length = n
  bel : Below w.heap.size w wr
theorem TwoA.put {w : World} {n ga gb : Nat} {A B : List Int} {wr : World} (h : TwoA w n ga gb A B wr) (k : Nat) (x : Int) : TwoA w n ga gb A (B.set k x) (wr.setCell ⟨gb, k, none⟩ (.int .i64 x)) :=
  ⟨h.ba.kept h.ne _ _, h.bb.put k x, h.ne, h.la, h.lb, h.na, by simp [h.nb], h.bel.setCell h.lb _⟩
theorem TwoA.drew {w : World} {n ga gb : Nat} {A B : List Int} {wr : World} (h : TwoA w n ga gb A B wr) (k : Nat) : TwoA w n ga gb A B (wr.drewN k) :=
  ⟨h.ba.drew k, h.bb.drew k, h.ne, h.la, h.lb, h.na, h.nb, below_drewN h.bel k⟩
theorem TwoA.swap {w : World} {n ga gb : Nat} {A B : List Int} {wr : World} (h : TwoA w n ga gb A B wr) : TwoA w n gb ga B A wr :=
  ⟨h.bb, h.ba, Ne.symm h.ne, h.lb, h.la, h.nb, h.na, h.bel⟩
def SameM (A B : List Int) : Prop := ∀ x, x ∈ A ↔ x ∈ B
def gd0 (A : List Int) : Nat → Int := fun k => A.getD k 0
theorem mem_gd0 {A : List Int} {x : Int} : x ∈ A ↔ ∃ k, k < A.length ∧ gd0 A k = x := by
  constructor
  · intro h
    obtain ⟨k, hk, e⟩ := List.mem_iff_getElem.1 h
    exact ⟨k, hk, by simp [gd0, hk, e]⟩
  · rintro ⟨k, hk, e⟩
    have : A[k] = x := by rw [← e]; simp [gd0, hk]
    rw [← this]; exact List.getElem_mem hk
theorem sameM_of {A B : List Int} {n : Nat} (ha : A.length = n) (hb : B.length = n) (h1 : ∀ p, p < n → ∃ q, q < n ∧ gd0 B p = gd0 A q) (h2 : ∀ q, q < n → ∃ p, p < n ∧ gd0 B p = gd0 A q) : SameM B A := by
  intro x
  rw [mem_gd0, mem_gd0]
  constructor
  · rintro ⟨k, hk, rfl⟩
    obtain ⟨q, a, b⟩ := h1 k (by omega)
    exact ⟨q, by omega, b.symm⟩
  · rintro ⟨k, hk, rfl⟩
    obtain ⟨q, a, b⟩ := h2 k (by omega)
    exact ⟨q, by omega, b⟩
theorem pairwise_gd0 {A : List Int} {n : Nat} (hn : A.length = n) (h : ∀ p q, p < q → q < n → gd0 A p ≤ gd0 A q) : A.Pairwise (· ≤ ·) := by
  rw [List.pairwise_iff_getElem]
  intro i j hi hj hij
  have := h i j hij (by omega)
  simpa [gd0, hi, hj] using this
theorem gd0_set (A : List Int) (k : Nat) (x : Int) (hk : k < A.length) : gd0 (A.set k x) = upd (gd0 A) k x := funext fun p => getD_set A k x hk p
/-- What zzSorted answers. -/
def SortP (w : World) (s : List Int) (e : Ending) (w' : World) : Prop :=
  ∃ g ys, e = .returned (.slice (some ⟨g, 0, none⟩) ys.length ys.length) ∧ B64 w' g ys ∧ w.heap.size ≤ g ∧ ys.length = s.length ∧ ys.Pairwise (· ≤ ·) ∧ SameM ys s ∧ Below w.heap.size w w'
theorem sl_src {w : World} {a : Option Addr} {cs : List Value} (h : Sl w a cs) (h0 : 0 < cs.length) : ∃ ad, a = some ad ∧ ∀ j v, cs[j]? = some v → w.cell? (ad.add j) = some v := by
  obtain ⟨b, off, rfl, hc⟩ := h.at h0
  refine ⟨_, rfl, fun j v hj => ?_⟩
  have hjl : j < cs.length := (List.getElem?_eq_some_iff.1 hj).1
  rw [add_eq, hc j hjl, hj]
theorem made1 (v : Value) (n : Nat) (h : v.cells = #[v]) : (madeCells v.cells (n * 1)).toList = List.replicate n v := by
  rw [h]
  simp [madeCells, Nat.mod_one, List.map_const']
def Inn (w : World) (n : Nat) (f : Nat → Int) (ga gb lo mid hi : Nat) (g0 : Nat → Int) (A : List Int) (i j k : Nat) (wr : World) : Prop :=
  ∃ B, TwoA w n ga gb A B wr ∧ MI f (gd0 B) lo mid hi i j k ∧ ∀ p, p < lo → gd0 B p = g0 p
set_option maxRecDepth 100000 in
set_option maxHeartbeats 4000000 in
theorem sorted_any (a : Option Addr) (c n : Nat) (s : List Int) (w : World) (hs : Sl w a (int64s s)) (hn0 : s.length = n) (hn : n ≤ 1000000) :
    Calls Try.prog 10 #[.slice a n c] w (SortP w s) := by
  have HS : Hid (Sl w a (int64s s)) := hs
  have HN : Hid (s.length = n) := hn0
  clear hs hn0
  obtain ⟨i0, hi0, hz0, hz1, hz2⟩ := info_parts Try.info2
  go_enter Try.func10, Try.ntmps10
  go_wp2_with (first
    | (at_make; first | (refine wpList_make_full _ rfl _ _ 23 rfl w.heap.size 2 i0 (.int .i64 0) 1 Try.underlying23 hi0 hz0 hz1 .i64 .i64 _ _ n rfl rfl rfl rfl (by rw [hz2]; omega) (by unfold maxLen; omega) (Nat.le_refl _) ?_; intro w1 hown1 hgrow1) | (refine wpList_make_full _ rfl _ _ 23 rfl w.heap.size 2 i0 (.int .i64 0) 1 Try.underlying23 hi0 hz0 hz1 .i64 .i64 _ _ n rfl rfl rfl rfl (by rw [hz2]; omega) (by unfold maxLen; omega) (hb2.size) ?_; intro w3 hown3 hgrow3))
    | (refine wpList_copy_splice rfl (.tmp 17) (.tmp 18) 23 23 rfl 2 Try.underlying23 (by kernel_rfl) _ _ _ _ _ _ rfl rfl w.heap.size 0 _ 2 (row_block hown1).1 (int64s s) (by rw [int64s_len, HN.out]; exact (Nat.min_self n).symm) (fun h => ⟨rfl, sl_src (HS.out.below (below_of_grown hgrow1)) h⟩) (by rw [Nat.zero_add, int64s_len, HN.out, (row_block hown1).2]; exact Nat.le_refl _) (int64s_oneCell s) w.heap.size w (below_of_grown hgrow1) (Nat.le_refl _) ?_; intro w2 hh2 hb2))
  have hblk : B64 w2 w.heap.size s := by
    have := hh2.out
    rw [splice_all _ _ (by rw [int64s_len, HN.out]; exact (row_block hown1).2)] at this
    exact this
  have hb3 : Below w.heap.size w w3 := hb2.trans ((below_of_grown hgrow3).mono hb2.size)
  have hlt2 : w.heap.size < w2.heap.size := (Array.getElem?_eq_some_iff.1 hblk).1
  obtain ⟨B0, hB0, hB0l⟩ : ∃ B0, B64 w3 w2.heap.size B0 ∧ B0.length = n := by
    obtain ⟨r1, r2⟩ := row_block hown3
    refine ⟨List.replicate n 0, ?_, by simp⟩
    unfold B64
    rw [r1]
    rw [made1 _ _ rfl]
    simp [int64s]
  have HT : Hid (TwoA w n w.heap.size w2.heap.size s B0 w3) := ⟨blk_below (below_of_grown hgrow3) hblk, hB0, by omega, Nat.le_refl _, by omega, HN.out, hB0l, hb3⟩
  have hg2 : w.heap.size ≠ w2.heap.size := by omega
  have HS0 : Hid (Blk n 1 (gd0 s) ∧ SameM s s) := ⟨Blk.one _ _, fun _ => Iff.rfl⟩
  clear hh2 hown1 hown3 hgrow1 hgrow3 hblk hb3 hb2 hlt2 hB0 hB0l hi0 hz0 hz1 hz2 HS hg2
  go_loopw [4, 5, 6] (fun va vb vw wr => ∃ (ga gb wd : Nat) (A B : List Int), va = .slice (some ⟨ga, 0, none⟩) n n ∧ vb = .slice (some ⟨gb, 0, none⟩) n n ∧ vw = .int .i64 wd ∧ 0 < wd ∧ wd ≤ 2000000 ∧ Hid (TwoA w n ga gb A B wr ∧ Blk n wd (gd0 A) ∧ SameM A s)) (fun _ _ vw _ => n - (intOf vw).toNat)
  case atStart => exact ⟨_, _, 1, s, B0, rfl, rfl, rfl, by omega, by omega, ⟨HT.out, HS0.out⟩⟩
  case round =>
    clear HT HS0 B0
    obtain ⟨ga, gb, wd, A, B, rfl, rfl, rfl, hw1, hw2, HO⟩ := hrel
    by_cases hwn : wd < n
    · have hwn' : (wd : Int) < (n : Int) := by omega
      have HA : Hid (Blk n wd (gd0 A) ∧ SameM A s) := HO.out.2
      go_wp2_with fail
      go_loopw [7] (fun vl wr => ∃ (lo : Nat) (B : List Int), vl = .int .i64 lo ∧ lo ≤ n + 2 * wd ∧ Hid (TwoA w n ga gb A B wr ∧ MO n wd (gd0 A) (gd0 B) lo)) (fun vl _ => n - (intOf vl).toNat)
      case atStart => exact ⟨0, B, rfl, by omega, ⟨HO.out.1, MO.start _ _ _ _⟩⟩
      case round =>
        clear HO
        obtain ⟨lo, B1, rfl, hlo, HM⟩ := hrel
        by_cases hln : lo < n
        · have hln' : (lo : Int) < (n : Int) := by omega
          obtain ⟨mid, hmid⟩ : ∃ mid, mid = min (lo + wd) n := ⟨_, rfl⟩
          obtain ⟨hi, hhi⟩ : ∃ hi, hi = min (lo + 2 * wd) n := ⟨_, rfl⟩
          have HC : Hid (MC (gd0 A) lo mid hi ∧ mid = min (lo + wd) n ∧ hi = min (lo + 2 * wd) n) := ⟨by
            obtain ⟨c, hc⟩ := HM.out.2.at'
            subst hmid hhi
            rw [hc] at hln ⊢
            exact MC.of HA.out.1 hln, hmid, hhi⟩
          have hmh : lo ≤ mid ∧ mid ≤ hi ∧ hi ≤ n ∧ lo < hi := by omega
          clear hmid hhi
          go_upto_if 39 with fail
          go_cut [8] from 27 to 93 (fun s8 wc => s8 = .int .i64 mid ∧ wc = wr)
          case first =>
            by_cases hm1 : n < lo + wd
            · have hm1' : (n : Int) < (lo : Int) + (wd : Int) := by omega
              have e1 : mid = n := by have := HC.out.2.1; omega
              subst e1
              go_wp2_with fail
              go_meet
              case rel => exact ⟨rfl, rfl⟩
            · have hm1' : ¬ ((n : Int) < (lo : Int) + (wd : Int)) := by omega
              have e1 : mid = lo + wd := by have := HC.out.2.1; omega
              go_wp2_with fail
              go_meet
              case rel => exact ⟨by rw [e1]; go_num, rfl⟩
          case rest =>
            obtain ⟨rfl, rfl⟩ := hcut
            go_upto_if 47 with fail
            go_cut [9] from 27 to 93 (fun s9 wd => s9 = .int .i64 hi ∧ wd = wc)
            case first =>
              by_cases hm1 : n < lo + 2 * wd
              · have hm1' : (n : Int) < (lo : Int) + 2 * (wd : Int) := by omega
                have e1 : hi = n := by have := HC.out.2.2; omega
                subst e1
                go_wp2_with fail
                go_meet
                case rel => exact ⟨rfl, rfl⟩
              · have hm1' : ¬ ((n : Int) < (lo : Int) + 2 * (wd : Int)) := by omega
                have e1 : hi = lo + 2 * wd := by have := HC.out.2.2; omega
                go_wp2_with fail
                go_meet
                case rel => exact ⟨by rw [e1]; go_num, rfl⟩
            case rest =>
              obtain ⟨rfl, hwc⟩ := hcut
              subst hwc
              go_wp2_with fail
              go_loopw [10, 11, 12] (fun vi vj vk wr => ∃ (i j k : Nat), vi = .int .i64 i ∧ vj = .int .i64 j ∧ vk = .int .i64 k ∧ i ≤ mid ∧ j ≤ hi ∧ k ≤ hi ∧ Hid (Inn w n (gd0 A) ga gb lo mid hi (gd0 B1) A i j k wr)) (fun _ _ vk _ => hi - (intOf vk).toNat)
              case atStart => exact ⟨lo, mid, lo, rfl, rfl, rfl, by omega, by omega, by omega, ⟨B1, HM.out.1, MI.start HC.out.1, fun _ _ => rfl⟩⟩
              case round =>
                obtain ⟨i, j, k, rfl, rfl, rfl, hi1, hj1, hk1, HI⟩ := hrel
                by_cases hkh : k < hi
                · have hkh' : (k : Int) < (hi : Int) := by omega
                  obtain ⟨B2, hT, hMI, hP⟩ := HI.out
                  have hkn : k < n := by omega
                  have hkn' : (k : Int) < (n : Int) := by omega
                  have hMe := hMI.e
                  have hMj := hMI.j0
                  have HI2 : Hid (TwoA w n ga gb A B2 wr ∧ MI (gd0 A) (gd0 B2) lo mid hi i j k ∧ ∀ p, p < lo → gd0 B2 p = gd0 B1 p) := ⟨hT, hMI, hP⟩
                  clear HI
                  have hMi := hMI.i0
                  have HFk : Hid (k < n ∧ k + mid = i + j) := ⟨hkn, hMe⟩
                  by_cases hjh : j < hi
                  · have hjh' : (j : Int) < (hi : Int) := by omega
                    have hjn' : (j : Int) < (n : Int) := by omega
                    have d1 : decide ((hi : Int) ≤ (j : Int)) = false := decide_eq_false (by omega)
                    have d3 : decide (hi ≤ j) = false := decide_eq_false (by omega)
                    by_cases him : i < mid
                    · have him' : (i : Int) < (mid : Int) := by omega
                      have hin' : (i : Int) < (n : Int) := by omega
                      have d2 : decide ((i : Int) < (mid : Int)) = true := decide_eq_true him'
                      have d4 : decide (i < mid) = true := decide_eq_true him
                      have cj := hT.ba.cell (show j < A.length by rw [hT.na]; omega)
                      have ci := hT.ba.cell (show i < A.length by rw [hT.na]; omega)
                      clear hT hMI hP
                      by_cases hle : gd0 A i ≤ gd0 A j
                      · have HLE : Hid (j < hi → gd0 A i ≤ gd0 A j) := fun _ => hle
                        have d5 : decide (A.getD i 0 ≤ A.getD j 0) = true := decide_eq_true hle
                        clear hle
                        generalize A.getD i 0 = xi0 at ci d5
                        generalize A.getD j 0 = xj0 at cj d5
                        go_upto_region 22 with fail
                        go_quiet (fail)
                        obtain ⟨wq, hwq⟩ : ∃ wq, wq = wr.drewN nq := ⟨_, rfl⟩
                        rw [← hwq]
                        have HQ : Hid (TwoA w n ga gb A B2 wq) := by rw [hwq]; exact HI2.out.1.drew nq
                        have ci := HQ.out.ba.cell (show i < A.length by rw [HQ.out.na]; omega)
                        have ck := HQ.out.bb.cell (show k < B2.length by rw [HQ.out.nb]; omega)
                        have fk := frz_blk HQ.out.bb k
                        change wq.cell? _ = some (.int .i64 (gd0 A i)) at ci
                        generalize hgj : gd0 A i = xj at ci
                        have HGJ : Hid (gd0 A i = xj) := hgj
                        generalize B2.getD k 0 = xk at ck
                        clear hwq hgj d5
                        go_wp2_with fail
                        go_roundw
                        case rel => exact ⟨i + 1, j, k + 1, by go_num, rfl, by go_num, by omega, by omega, by omega, ⟨B2.set k xj, HQ.out.put k xj, by rw [gd0_set _ _ _ (by rw [HQ.out.nb]; omega), ← HGJ.out]; exact MI.left HC.out.1 HI2.out.2.1 him HLE.out, fun p hp => by rw [gd0_set _ _ _ (by rw [HQ.out.nb]; omega), upd_ne _ _ (by omega)]; exact HI2.out.2.2 p hp⟩⟩
                        case measure => simp [intOf]; omega
                      · have HLE : Hid (i < mid → gd0 A j ≤ gd0 A i) := fun _ => by omega
                        have d5 : decide (A.getD i 0 ≤ A.getD j 0) = false := decide_eq_false hle
                        clear hle
                        generalize A.getD i 0 = xi0 at ci d5
                        generalize A.getD j 0 = xj0 at cj d5
                        go_upto_region 22 with fail
                        go_quiet (fail)
                        obtain ⟨wq, hwq⟩ : ∃ wq, wq = wr.drewN nq := ⟨_, rfl⟩
                        rw [← hwq]
                        have HQ : Hid (TwoA w n ga gb A B2 wq) := by rw [hwq]; exact HI2.out.1.drew nq
                        have cj := HQ.out.ba.cell (show j < A.length by rw [HQ.out.na]; omega)
                        have ck := HQ.out.bb.cell (show k < B2.length by rw [HQ.out.nb]; omega)
                        have fk := frz_blk HQ.out.bb k
                        change wq.cell? _ = some (.int .i64 (gd0 A j)) at cj
                        generalize hgj : gd0 A j = xj at cj
                        have HGJ : Hid (gd0 A j = xj) := hgj
                        generalize B2.getD k 0 = xk at ck
                        clear hwq hgj d5
                        go_wp2_with fail
                        go_roundw
                        case rel => exact ⟨i, j + 1, k + 1, rfl, by go_num, by go_num, by omega, by omega, by omega, ⟨B2.set k xj, HQ.out.put k xj, by rw [gd0_set _ _ _ (by rw [HQ.out.nb]; omega), ← HGJ.out]; exact MI.right HC.out.1 HI2.out.2.1 hjh HLE.out, fun p hp => by rw [gd0_set _ _ _ (by rw [HQ.out.nb]; omega), upd_ne _ _ (by omega)]; exact HI2.out.2.2 p hp⟩⟩
                        case measure => simp [intOf]; omega
                    · clear hT hMI hP
                      have him' : ¬ ((i : Int) < (mid : Int)) := by omega
                      have d2 : decide ((i : Int) < (mid : Int)) = false := decide_eq_false him'
                      have d4 : decide (i < mid) = false := decide_eq_false him
                      have HLE : Hid (i < mid → gd0 A j ≤ gd0 A i) := fun h => absurd h him
                      go_upto_region 22 with fail
                      go_quiet (fail)
                      obtain ⟨wq, hwq⟩ : ∃ wq, wq = wr.drewN nq := ⟨_, rfl⟩
                      rw [← hwq]
                      have HQ : Hid (TwoA w n ga gb A B2 wq) := by rw [hwq]; exact HI2.out.1.drew nq
                      have cj := HQ.out.ba.cell (show j < A.length by rw [HQ.out.na]; omega)
                      have ck := HQ.out.bb.cell (show k < B2.length by rw [HQ.out.nb]; omega)
                      have fk := frz_blk HQ.out.bb k
                      change wq.cell? _ = some (.int .i64 (gd0 A j)) at cj
                      generalize hgj : gd0 A j = xj at cj
                      have HGJ : Hid (gd0 A j = xj) := hgj
                      generalize B2.getD k 0 = xk at ck
                      clear hwq hgj
                      go_wp2_with fail
                      go_roundw
                      case rel => exact ⟨i, j + 1, k + 1, rfl, by go_num, by go_num, by omega, by omega, by omega, ⟨B2.set k xj, HQ.out.put k xj, by rw [gd0_set _ _ _ (by rw [HQ.out.nb]; omega), ← HGJ.out]; exact MI.right HC.out.1 HI2.out.2.1 hjh HLE.out, fun p hp => by rw [gd0_set _ _ _ (by rw [HQ.out.nb]; omega), upd_ne _ _ (by omega)]; exact HI2.out.2.2 p hp⟩⟩
                      case measure => simp [intOf]; omega
                  · clear hT hMI hP
                    have him : i < mid := by omega
                    have hin' : (i : Int) < (n : Int) := by omega
                    have d1 : decide ((hi : Int) ≤ (j : Int)) = true := decide_eq_true (by omega)
                    have d3 : decide (hi ≤ j) = true := decide_eq_true (by omega)
                    have HLE : Hid (j < hi → gd0 A i ≤ gd0 A j) := fun h => absurd h hjh
                    go_upto_region 22 with fail
                    go_quiet (fail)
                    obtain ⟨wq, hwq⟩ : ∃ wq, wq = wr.drewN nq := ⟨_, rfl⟩
                    rw [← hwq]
                    have HQ : Hid (TwoA w n ga gb A B2 wq) := by rw [hwq]; exact HI2.out.1.drew nq
                    have ci := HQ.out.ba.cell (show i < A.length by rw [HQ.out.na]; omega)
                    have ck := HQ.out.bb.cell (show k < B2.length by rw [HQ.out.nb]; omega)
                    have fk := frz_blk HQ.out.bb k
                    change wq.cell? _ = some (.int .i64 (gd0 A i)) at ci
                    generalize hgj : gd0 A i = xj at ci
                    have HGJ : Hid (gd0 A i = xj) := hgj
                    generalize B2.getD k 0 = xk at ck
                    clear hwq hgj
                    go_wp2_with fail
                    go_roundw
                    case rel => exact ⟨i + 1, j, k + 1, by go_num, rfl, by go_num, by omega, by omega, by omega, ⟨B2.set k xj, HQ.out.put k xj, by rw [gd0_set _ _ _ (by rw [HQ.out.nb]; omega), ← HGJ.out]; exact MI.left HC.out.1 HI2.out.2.1 him HLE.out, fun p hp => by rw [gd0_set _ _ _ (by rw [HQ.out.nb]; omega), upd_ne _ _ (by omega)]; exact HI2.out.2.2 p hp⟩⟩
                    case measure => simp [intOf]; omega
                · have e1 : k = hi := by omega
                  obtain ⟨B2, hT, hMI, hP⟩ := HI.out
                  have HZ : Hid (TwoA w n ga gb A B2 wr ∧ MO n wd (gd0 A) (gd0 B2) (lo + 2 * wd)) := ⟨hT, by
                    obtain ⟨c, hc⟩ := HM.out.2.at'
                    have h1 := HM.out.2
                    have h2 := HC.out.2
                    rw [h2.1, h2.2, hc] at hMI
                    rw [hc] at h1 hln hP ⊢
                    exact MO.next hw1 h1 hln hMI (by rw [e1, h2.2, hc]) hP⟩
                  clear hT hMI hP HI
                  have hkh' : ¬ ((k : Int) < (hi : Int)) := by omega
                  go_wp2_with fail
                  go_roundw
                  case rel => exact ⟨lo + 2 * wd, B2, by go_num, by omega, HZ⟩
                  case measure => simp [intOf]; omega
        · obtain ⟨hT, hMO⟩ := HM.out
          obtain ⟨f1, f2, f3⟩ := hMO.fin (by omega)
          have HZ : Hid (TwoA w n gb ga B1 A wr ∧ Blk n (wd * 2) (gd0 B1) ∧ SameM B1 s) := ⟨hT.swap, f1, fun x => (sameM_of hT.na hT.nb f2 f3 x).trans (HA.out.2 x)⟩
          clear hT hMO f1 f2 f3 HM
          have hln' : ¬ ((lo : Int) < (n : Int)) := by omega
          go_wp2_with fail
          go_roundw
          case rel => exact ⟨gb, ga, wd * 2, B1, A, rfl, rfl, by go_num, by omega, by omega, HZ⟩
          case measure => simp [intOf]; omega
    · have hwn' : ¬ ((wd : Int) < (n : Int)) := by omega
      go_wp2_with fail
      go_ret
      obtain ⟨hT, hb, hm⟩ := HO.out
      exact ⟨ga, A, by rw [hT.na]; rfl, hT.ba, hT.la, by rw [hT.na, HN.out], pairwise_gd0 hT.na (hb.srt (by omega)), hm, hT.bel⟩
end Go.Proofs.Qxb6626314a
