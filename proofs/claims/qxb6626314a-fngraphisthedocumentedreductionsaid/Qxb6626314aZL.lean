/-
  Seat b6626314a: zzReductionEdges: the edges.
-/
import Derived.Test.Qxb6626314aZK
namespace Go.Proofs.Qxb6626314a
open Go.RowKit Go.Maps Go.Sort
set_option linter.unusedVariables false
set_option linter.unusedSimpArgs false

/-! ### zzReductionEdges -/
def bools (l : List Bool) : List Value := l.map Value.bool
abbrev lenJ (G : List Int) (A : List Ac) (j : Nat) : Nat := (itemL G A j).length
abbrev offJ (G : List Int) (A : List Ac) (j : Nat) : Nat := sumF (lenJ G A) j
structure RA (w : World) (gst gix gwr m : Nat) (G : List Int) (A : List Ac) (wr : World) : Prop where
  st : ∃ ST : List Int, BI wr gst ST ∧ ST.length = m + 1 ∧ ∀ j, j ≤ m → ST.getD j 0 = offJ G A j
  ix : ∃ IX : List Int, wr.heap[gix]? = some (.cells (ints IX).toArray 21 (0, 0)) ∧ IX.length = offJ G A m ∧ ∀ j, j < m → ∀ k, k < lenJ G A j → IX.getD (offJ G A j + k) 0 = (gp2 (itemL G A j) k).1
  wb : ∃ WR : List Bool, wr.heap[gwr]? = some (.cells (bools WR).toArray 4 (0, 0)) ∧ WR.length = offJ G A m ∧ ∀ j, j < m → ∀ k, k < lenJ G A j → WR.getD (offJ G A j + k) false = (gp2 (itemL G A j) k).2
  b : Below w.heap.size w wr
section
variable {w : World} {gst gix gwr m : Nat} {G : List Int} {A : List Ac} {wr wr' : World}
theorem RA.keep (h : RA w gst gix gwr m G A wr) {F : Nat → Prop} (hk : KeepF F wr wr') (hF : ∀ g, F g → w.heap.size ≤ g ∧ ∃ c, wr.heap[g]? = some (.cells c 2 (0, 0))) : RA w gst gix gwr m G A wr' := by
  have key : ∀ {b : Nat} {c : Array Value} {e : TypeId}, wr.heap[b]? = some (.cells c e (0, 0)) → e ≠ 2 → wr'.heap[b]? = some (.cells c e (0, 0)) := fun {b c e} hb hne => (hk.block b (Array.getElem?_eq_some_iff.1 hb).1 (fun hf => by
    obtain ⟨_, c', hc⟩ := hF b hf
    exact ne_of_tag hb hc hne rfl)).trans hb
  obtain ⟨ST, s1, s2⟩ := h.st
  obtain ⟨IX, i1, i2⟩ := h.ix
  obtain ⟨WR, w1, w2⟩ := h.wb
  refine ⟨⟨ST, key s1 (by decide), s2⟩, ⟨IX, key i1 (by decide), i2⟩, ⟨WR, key w1 (by decide), w2⟩, h.b.trans ⟨hk.os, hk.tape, hk.output, hk.size, fun k hk' => hk.block k (Nat.lt_of_lt_of_le hk' h.b.size) (fun hf => by have := (hF k hf).1; omega)⟩⟩
theorem RA.stc (h : RA w gst gix gwr m G A wr) {j : Nat} (hj : j ≤ m) : wr.cell? ⟨gst, j, none⟩ = some (.int .i64 (offJ G A j)) := by
  obtain ⟨ST, s1, s2, s3⟩ := h.st
  have := s1.cell (show j < ST.length by omega)
  rw [s3 j hj] at this
  exact this
theorem off_lt {j k : Nat} (hj : j < m) (hk : k < lenJ G A j) : offJ G A j + k < offJ G A m := by
  have h1 : offJ G A (j + 1) ≤ offJ G A m := sumF_mono _ (by omega)
  have h2 : offJ G A (j + 1) = offJ G A j + lenJ G A j := rfl
  omega
theorem RA.ixc (h : RA w gst gix gwr m G A wr) {j k : Nat} (hj : j < m) (hk : k < lenJ G A j) : ∃ t : Nat, wr.cell? ⟨gix, offJ G A j + k, none⟩ = some (.int .i32 t) ∧ (gp2 (itemL G A j) k).1 = t ∧ t < G.length := by
  obtain ⟨IX, i1, i2, i3⟩ := h.ix
  obtain ⟨t, ht, htn⟩ := itemL_ix G A j k hk
  have hl := off_lt (m := m) (G := G) (A := A) hj hk
  refine ⟨t, ?_, ht, htn⟩
  have e := i3 j hj k hk
  have e2 : (gp2 (itemL G A j) k).1 = t := ht
  rw [e2] at e
  exact cell_blk i1 (by
    rw [List.getD_eq_getElem?_getD, List.getElem?_eq_getElem (by omega)] at e
    simp only [Option.getD_some] at e
    simp [ints, e, show offJ G A j + k < IX.length by omega])
theorem RA.wbc (h : RA w gst gix gwr m G A wr) {j k : Nat} (hj : j < m) (hk : k < lenJ G A j) : wr.cell? ⟨gwr, offJ G A j + k, none⟩ = some (.bool (gp2 (itemL G A j) k).2) := by
  obtain ⟨WR, i1, i2, i3⟩ := h.wb
  have hl := off_lt (m := m) (G := G) (A := A) hj hk
  have e := i3 j hj k hk
  exact cell_blk i1 (by
    rw [List.getD_eq_getElem?_getD, List.getElem?_eq_getElem (by omega)] at e
    simp only [Option.getD_some] at e
    simp [bools, e, show offJ G A j + k < WR.length by omega])
end
/-- The edges so far: a row, its members. -/
structure ER (w : World) (o : Option Addr) (k c : Nat) (M : Int → Prop) (E : List Int) (wr : World) : Prop where
  r : wr.ownsRow w.heap.size 2 1 (.slice o k c) E.length (int64s E)
  m : ∀ x, x ∈ E ↔ M x
theorem ER.of {w : World} {M : Int → Prop} {E : List Int} {u v : Nat} {wr w' : World} {ve : Value} {en : Ending} (hM : ∀ x, x ∈ E ↔ M x) (h : EdP w.heap.size E u v ve wr en w') {M' : Int → Prop} (hM' : ∀ x, M' x ↔ M x ∨ (u ≠ v ∧ x = pk u v)) : ∃ o' k' c', en = .returned (.slice o' k' c') ∧ ER w o' k' c' M' (edW E u v) w' ∧ KeepF (fun g => ve.ownBlock = some g) wr w' := by
  obtain ⟨o', k', c', e, hr, hk, _⟩ := h
  refine ⟨o', k', c', e, ⟨hr, fun x => ?_⟩, hk⟩
  rw [hM' x]
  unfold edW
  by_cases hu : u = v
  · simp [hu, hM x]
  · simp [hu, hM x]
theorem edW_len (E : List Int) (u v : Nat) : (edW E u v).length ≤ E.length + 1 := by
  unfold edW
  split
  · omega
  · simp
/-- Members: the items below j; of item j the writes' edges of places below a. -/
def M0 (G : List Int) (A : List Ac) (j : Nat) (x : Int) : Prop := ∃ i, i < j ∧ ∃ p q, EPx (itemL G A i) p q x
def M1 (G : List Int) (A : List Ac) (j a : Nat) (x : Int) : Prop := M0 G A j x ∨ ∃ p q, p < a ∧ (gp2 (itemL G A j) p).2 = true ∧ EPx (itemL G A j) p q x
def M2 (G : List Int) (A : List Ac) (j a b : Nat) (x : Int) : Prop := M1 G A j a x ∨ ∃ q, q < b ∧ EPx (itemL G A j) a q x
def M3 (G : List Int) (A : List Ac) (j c : Nat) (x : Int) : Prop := M1 G A j (lenJ G A j) x ∨ ∃ p q, c ≤ p ∧ (gp2 (itemL G A j) p).2 = false ∧ EPx (itemL G A j) p q x
theorem M3_all (G : List Int) (A : List Ac) (j : Nat) (x : Int) : M3 G A j 0 x ↔ M0 G A (j + 1) x := by
  constructor
  · rintro ((⟨i, hi, h⟩ | ⟨p, q, _, _, h⟩) | ⟨p, q, _, _, h⟩)
    · exact ⟨i, by omega, h⟩
    · exact ⟨j, by omega, p, q, h⟩
    · exact ⟨j, by omega, p, q, h⟩
  · rintro ⟨i, hi, p, q, h⟩
    by_cases e : i = j
    · subst e
      cases hw : (gp2 (itemL G A i) p).2 with
      | true => exact Or.inl (Or.inr ⟨p, q, by have := h.1; have := h.2.1; unfold lenJ; omega, hw, h⟩)
      | false => exact Or.inr ⟨p, q, Nat.zero_le _, hw, h⟩
    · exact Or.inl (Or.inl ⟨i, by omega, p, q, h⟩)
theorem M1_read (G : List Int) (A : List Ac) (j a : Nat) (hw : (gp2 (itemL G A j) a).2 = false) (x : Int) : M1 G A j (a + 1) x ↔ M1 G A j a x := by
  constructor
  · rintro (h | ⟨p, q, hp, hh, h⟩)
    · exact Or.inl h
    · by_cases e : p = a
      · subst e; rw [hw] at hh; cases hh
      · exact Or.inr ⟨p, q, by omega, hh, h⟩
  · rintro (h | ⟨p, q, hp, hh, h⟩)
    · exact Or.inl h
    · exact Or.inr ⟨p, q, by omega, hh, h⟩
theorem M2_start (G : List Int) (A : List Ac) (j a : Nat) (x : Int) : M2 G A j a (a + 1) x ↔ M1 G A j a x := by
  constructor
  · rintro (h | ⟨q, hq, h⟩)
    · exact h
    · have := h.1; omega
  · exact Or.inl
theorem M2_end (G : List Int) (A : List Ac) (j a b : Nat) (hw : (gp2 (itemL G A j) a).2 = true) (hb : b ≤ lenJ G A j) (hend : b = lenJ G A j ∨ (a < b - 1 ∧ (gp2 (itemL G A j) (b - 1)).2 = true)) (x : Int) : M1 G A j (a + 1) x ↔ M2 G A j a b x := by
  constructor
  · rintro (h | ⟨p, q, hp, hh, h⟩)
    · exact Or.inl (Or.inl h)
    · by_cases e : p = a
      · subst e
        refine Or.inr ⟨q, ?_, h⟩
        rcases hend with e | ⟨e1, e2⟩
        · have := h.2.1; unfold lenJ at e; omega
        · apply Classical.byContradiction
          intro hn
          have := h.2.2.2.2.1 (b - 1) e1 (by omega)
          rw [e2] at this; cases this
      · exact Or.inl (Or.inr ⟨p, q, by omega, hh, h⟩)
  · rintro ((h | ⟨p, q, hp, hh, h⟩) | ⟨q, hq, h⟩)
    · exact Or.inl h
    · exact Or.inr ⟨p, q, by omega, hh, h⟩
    · exact Or.inr ⟨a, q, by omega, hw, h⟩
theorem M2_step (G : List Int) (A : List Ac) (j a b u v : Nat) (hab : a < b) (hb : b < lenJ G A j) (hw : (gp2 (itemL G A j) a).2 = true) (hno : ∀ r, a < r → r < b → (gp2 (itemL G A j) r).2 = false) (hu : (gp2 (itemL G A j) a).1 = u) (hv : (gp2 (itemL G A j) b).1 = v) (x : Int) : M2 G A j a (b + 1) x ↔ M2 G A j a b x ∨ (u ≠ v ∧ x = pk u v) := by
  constructor
  · rintro (h | ⟨q, hq, h⟩)
    · exact Or.inl (Or.inl h)
    · by_cases e : q = b
      · subst e
        have h3 := h.2.2.1
        have h6 := h.2.2.2.2.2
        rw [hu, hv] at h3 h6
        exact Or.inr ⟨by omega, h6⟩
      · exact Or.inl (Or.inr ⟨q, by omega, h⟩)
  · rintro ((h | ⟨q, hq, h⟩) | ⟨h1, h2⟩)
    · exact Or.inl h
    · exact Or.inr ⟨q, by omega, h⟩
    · exact Or.inr ⟨b, by omega, hab, hb, by rw [hu, hv]; omega, Or.inl hw, hno, by rw [hu, hv]; exact h2⟩
theorem M3_start (G : List Int) (A : List Ac) (j : Nat) (x : Int) : M3 G A j (lenJ G A j) x ↔ M1 G A j (lenJ G A j) x := by
  constructor
  · rintro (h | ⟨p, q, hp, _, h⟩)
    · exact h
    · have := h.1; have := h.2.1; unfold lenJ at hp; omega
  · exact Or.inl
theorem M3_none (G : List Int) (A : List Ac) (j c : Nat) (h0 : (gp2 (itemL G A j) c).2 = true ∨ ∀ r, c < r → r < lenJ G A j → (gp2 (itemL G A j) r).2 = false) (x : Int) : M3 G A j c x ↔ M3 G A j (c + 1) x := by
  constructor
  · rintro (h | ⟨p, q, hp, hr, h⟩)
    · exact Or.inl h
    · by_cases e : p = c
      · subst e
        rcases h0 with h0 | h0
        · rw [h0] at hr; cases hr
        · have := h0 q h.1 h.2.1
          rcases h.2.2.2.1 with h1 | h1
          · rw [hr] at h1; cases h1
          · rw [this] at h1; cases h1
      · exact Or.inr ⟨p, q, by omega, hr, h⟩
  · rintro (h | ⟨p, q, hp, hr, h⟩)
    · exact Or.inl h
    · exact Or.inr ⟨p, q, by omega, hr, h⟩
theorem M3_step (G : List Int) (A : List Ac) (j c d u v : Nat) (hcd : c < d) (hd : d < lenJ G A j) (hr : (gp2 (itemL G A j) c).2 = false) (hw : (gp2 (itemL G A j) d).2 = true) (hno : ∀ r, c < r → r < d → (gp2 (itemL G A j) r).2 = false) (hu : (gp2 (itemL G A j) c).1 = u) (hv : (gp2 (itemL G A j) d).1 = v) (x : Int) : M3 G A j c x ↔ M3 G A j (c + 1) x ∨ (u ≠ v ∧ x = pk u v) := by
  constructor
  · rintro (h | ⟨p, q, hp, hr', h⟩)
    · exact Or.inl (Or.inl h)
    · by_cases e : p = c
      · subst e
        have hqw : (gp2 (itemL G A j) q).2 = true := by
          rcases h.2.2.2.1 with h1 | h1
          · rw [hr] at h1; cases h1
          · exact h1
        have hq : q = d := by
          rcases Nat.lt_trichotomy q d with y | y | y
          · have := hno q h.1 y; rw [hqw] at this; cases this
          · exact y
          · have := h.2.2.2.2.1 d hcd y; rw [hw] at this; cases this
        subst hq
        have h3 := h.2.2.1
        have h6 := h.2.2.2.2.2
        rw [hu, hv] at h3 h6
        exact Or.inr ⟨by omega, h6⟩
      · exact Or.inl (Or.inr ⟨p, q, by omega, hr', h⟩)
  · rintro ((h | ⟨p, q, hp, hr', h⟩) | ⟨h1, h2⟩)
    · exact Or.inl h
    · exact Or.inr ⟨p, q, by omega, hr', h⟩
    · exact Or.inr ⟨c, d, Nat.le_refl _, hr, hcd, hd, by rw [hu, hv]; omega, Or.inr hw, hno, by rw [hu, hv]; exact h2⟩
theorem tl16_0 : tl Try.f16 0 = Code.seq (st Try.f16 0) (tl Try.f16 1) := by kernel_rfl
theorem tl16_1 : tl Try.f16 1 = Code.seq (st Try.f16 1) (tl Try.f16 2) := by kernel_rfl
theorem tl16_2 : tl Try.f16 2 = Code.seq (st Try.f16 2) (tl Try.f16 3) := by kernel_rfl
theorem tl16_3 : tl Try.f16 3 = Code.seq (st Try.f16 3) (tl Try.f16 4) := by kernel_rfl
theorem tl16_4 : tl Try.f16 4 = Code.seq (st Try.f16 4) (tl Try.f16 5) := by kernel_rfl
theorem tl16_5 : tl Try.f16 5 = Code.seq (st Try.f16 5) (tl Try.f16 6) := by kernel_rfl
theorem tl16_6 : tl Try.f16 6 = Code.seq (st Try.f16 6) (tl Try.f16 7) := by kernel_rfl
theorem tl16_7 : tl Try.f16 7 = Code.seq (st Try.f16 7) (tl Try.f16 8) := by kernel_rfl
theorem tl16_8 : tl Try.f16 8 = Code.seq (st Try.f16 8) (tl Try.f16 9) := by kernel_rfl
theorem tl16_9 : tl Try.f16 9 = Code.seq (st Try.f16 9) (tl Try.f16 10) := by kernel_rfl
theorem tl16_10 : tl Try.f16 10 = Code.seq (st Try.f16 10) (tl Try.f16 11) := by kernel_rfl
theorem tl16_11 : tl Try.f16 11 = Code.seq (st Try.f16 11) (tl Try.f16 12) := by kernel_rfl

/-- What zzReductionEdges answers. -/
def RedP (G : List Int) (A : List Ac) (m : Nat) (w : World) (e : Ending) (w' : World) : Prop := ∃ o k c ys, e = .returned (.slice o k c) ∧ k = ys.length ∧ Sl w' o (int64s ys) ∧ ys.Pairwise (· < ·) ∧ (∀ x, x ∈ ys ↔ M0 G A m x) ∧ ys.length ≤ 8192 ∧ Below w.heap.size w w'
def SJ (w : World) (gst gix gwr m : Nat) (G : List Int) (A : List Ac) (j : Nat) (o : Option Addr) (k c : Nat) (wr : World) : Prop := ∃ E, ER w o k c (M0 G A j) E wr ∧ RA w gst gix gwr m G A wr ∧ E.length ≤ 2 * offJ G A j
def SP (w : World) (gst gix gwr m : Nat) (G : List Int) (A : List Ac) (j a : Nat) (o : Option Addr) (k c : Nat) (wr : World) : Prop := ∃ E h, ER w o k c (M1 G A j a) E wr ∧ RA w gst gix gwr m G A wr ∧ E.length ≤ 2 * offJ G A j + h ∧ h ≤ lenJ G A j ∧ ∀ r, a ≤ r → r + 1 < h → (gp2 (itemL G A j) r).2 = false
def SQ (w : World) (gst gix gwr m : Nat) (G : List Int) (A : List Ac) (j a b : Nat) (o : Option Addr) (k c : Nat) (wr : World) : Prop := ∃ E, ER w o k c (M2 G A j a b) E wr ∧ RA w gst gix gwr m G A wr ∧ E.length ≤ 2 * offJ G A j + b ∧ ∀ r, a < r → r < b → (gp2 (itemL G A j) r).2 = false
def SN (w : World) (gst gix gwr m : Nat) (G : List Int) (A : List Ac) (j c : Nat) (nw : Int) (o : Option Addr) (k cc : Nat) (wr : World) : Prop := ∃ E, ER w o k cc (M3 G A j c) E wr ∧ RA w gst gix gwr m G A wr ∧ E.length + c ≤ 2 * offJ G A j + 2 * lenJ G A j ∧
  ((nw = -1 ∧ ∀ r, c ≤ r → r < lenJ G A j → (gp2 (itemL G A j) r).2 = false) ∨ (∃ d, c ≤ d ∧ d < lenJ G A j ∧ nw = ((offJ G A j + d : Nat) : Int) ∧ (gp2 (itemL G A j) d).2 = true ∧ ∀ r, c ≤ r → r < d → (gp2 (itemL G A j) r).2 = false))
theorem ER.shape {w : World} {o : Option Addr} {k c : Nat} {M : Int → Prop} {E : List Int} {wr : World} (h : ER w o k c M E wr) : k = E.length := by
  obtain ⟨ox, cx, hx⟩ := row_shape h.r
  simp at hx
  exact hx.2.1
theorem ER.own {w : World} {o : Option Addr} {k c : Nat} {M : Int → Prop} {E : List Int} {wr : World} (h : ER w o k c M E wr) : ∀ g, (Value.slice o k c).ownBlock = some g → w.heap.size ≤ g ∧ ∃ c', wr.heap[g]? = some (.cells c' 2 (0, 0)) := fun g hg => row_tag h.r g hg
theorem ER.mono {w : World} {o : Option Addr} {k c : Nat} {M M' : Int → Prop} {E : List Int} {wr : World} (h : ER w o k c M E wr) (hM : ∀ x, M' x ↔ M x) : ER w o k c M' E wr := ⟨h.r, fun x => (h.m x).trans (hM x).symm⟩

set_option maxRecDepth 100000 in
set_option maxHeartbeats 4000000 in
theorem a12 {w0 w : World} {m : Nat} {A : List Ac} {G : List Int} {gst gix gwr : Nat} {o : Option Addr} {k c : Nat} (u0 u1 u2 u3 u4 u5 u6 u7 u8 u9 u10 u11 u12 u13 u14 u15 u16 u17 u18 u19 u20 u21 u23 u24 u25 u26 u27 u28 u29 u30 u31 u32 u33 u34 u35 u36 u37 u38 u39 u40 u41 u42 u43 u44 u45 u46 u47 u48 u49 u50 u51 u52 u53 u54 u55 u56 u57 u58 u59 u60 u61 u62 u63 u64 u65 u66 u67 u68 u69 u70 u71 u72 u73 u74 u75 u76 u77 u78 u79 u80 u81 u82 u83 u84 u85 u86 u87 u88 u89 u90 u91 u92 u93 u94 u95 u96 u97 u98 u99 u100 u101 u102 u103 u104 u105 u106 u107 u108 u109 u110 u111 u112 u113 u114 u115 u116 u117 u118 u119 u120 u121 u122 u123 u124 u125 u126 u127 u128 u129 u130 u131 u132 u133 u134 u135 u136 u137 u138 u139 u140 u141 u142 u143 u144 u145 u146 u147 u148 u149 u150 u151 u152 u153 u154 u155 u156 u157 u158 u159 u160 u161 u162 u163 u164 u165 u166 u167 u168 u169 u170 u171 u172 u173 u174 u175 u176 u177 u178 u179 u180 u181 u182 u183 u184 u185 u186 u187 u188 u189 u190 u191 u192 u193 u194 u195 u196 u197 u198 u199 u200 u201 u202 u203 u204 : Value)
    (H : Hid (SJ w0 gst gix gwr m G A m o k c w)) (hoff : offJ G A m ≤ 4096) :
    Code.wp Try.prog (tl Try.f16 12) (bodyPost Try.prog Try.f16 (RedP G A m w0)) ⟨#[u0, u1, u2, u3, u4, u5, u6, u7, u8, u9, u10, u11, u12, u13, u14, u15, u16, u17, u18, u19, u20, u21, .slice o k c, u23, u24, u25, u26, u27, u28, u29, u30, u31, u32, u33, u34, u35, u36, u37, u38, u39, u40, u41, u42, u43, u44, u45, u46, u47, u48, u49, u50, u51, u52, u53, u54, u55, u56, u57, u58, u59, u60, u61, u62, u63, u64, u65, u66, u67, u68, u69, u70, u71, u72, u73, u74, u75, u76, u77, u78, u79, u80, u81, u82, u83, u84, u85, u86, u87, u88, u89, u90, u91, u92, u93, u94, u95, u96, u97, u98, u99, u100, u101, u102, u103, u104, u105, u106, u107, u108, u109, u110, u111, u112, u113, u114, u115, u116, u117, u118, u119, u120, u121, u122, u123, u124, u125, u126, u127, u128, u129, u130, u131, u132, u133, u134, u135, u136, u137, u138, u139, u140, u141, u142, u143, u144, u145, u146, u147, u148, u149, u150, u151, u152, u153, u154, u155, u156, u157, u158, u159, u160, u161, u162, u163, u164, u165, u166, u167, u168, u169, u170, u171, u172, u173, u174, u175, u176, u177, u178, u179, u180, u181, u182, u183, u184, u185, u186, u187, u188, u189, u190, u191, u192, u193, u194, u195, u196, u197, u198, u199, u200, u201, u202, u203, u204], []⟩ w := by
  obtain ⟨E, hE, hR, hl⟩ := H.out
  have hk := hE.shape
  have hrow := hE.r
  rw [← hk] at hrow
  have HC : Hid _ := sorted_any o c k E w (by rw [hk] at hrow; exact sl_of_row hrow) hk.symm (by omega)
  have HE : Hid (Below w0.heap.size w0 w ∧ (∀ x, x ∈ E ↔ M0 G A m x) ∧ E.length ≤ 8192) := ⟨hR.b, hE.m, by omega⟩
  clear hE hR hl hk hrow H
  conv => arg 2; whnf
  go_wp2_with fail
  refine Calls.mono HC.out ?_
  rintro e w1 ⟨g3, ys, rfl, s1, s2, s3, s4, s5, s6⟩
  have HD : Hid _ := dedupe_any (some ⟨g3, 0, none⟩) ys.length ys w1 s1.sl s4 (by have := HE.out.2.2; omega)
  have HE2 : Hid (Below w0.heap.size w0 w1 ∧ SameM ys E ∧ ys.length = E.length) := ⟨HE.out.1.trans (s6.mono HE.out.1.size), s5, s3⟩
  clear s1 s2 s3 s4 s5 s6 HC
  go_wp2_with fail
  refine Calls.mono HD.out ?_
  rintro e w2 ⟨o2, k2, c2, zs, rfl, d1, d2, d3, d4, d5, d6⟩
  have HZ : Hid (RedP G A m w0 (.returned (.slice o2 k2 c2)) w2) := ⟨o2, k2, c2, zs, rfl, d1, d2, d3, fun x => ((d4 x).trans (HE2.out.2.1 x)).trans (HE.out.2.1 x), by have := HE.out.2.2; have := HE2.out.2.2; omega, HE2.out.1.trans (d6.mono HE2.out.1.size)⟩
  clear d1 d2 d3 d4 d5 d6 HD HE HE2
  go_wp2_with fail
  go_ret
  exact HZ.out

set_option maxRecDepth 100000 in
set_option maxHeartbeats 4000000 in
theorem a11 {w0 w : World} {m : Nat} {A : List Ac} {G : List Int} {gst gix gwr : Nat} (u0 u1 u2 u3 u4 u5 u6 u7 u8 u11 u12 u13 u14 u17 u18 u19 u20 u21 u23 u24 u25 u26 u27 u28 u29 u30 u31 u32 u33 u34 u35 u36 u37 u38 u39 u40 u41 u42 u43 u44 u45 u46 u47 u48 u49 u50 u51 u52 u53 u54 u55 u56 u57 u58 u59 u60 u61 u62 u63 u64 u65 u66 u67 u68 u69 u70 u71 u72 u73 u74 u75 u76 u77 u78 u79 u80 u81 u82 u83 u84 u85 u86 u87 u88 u89 u90 u91 u92 u93 u94 u95 u96 u97 u98 u99 u100 u101 u102 u103 u104 u105 u106 u107 u108 u109 u110 u111 u112 u113 u114 u115 u116 u117 u118 u119 u120 u121 u122 u123 u124 u125 u126 u127 u128 u129 u130 u131 u132 u133 u134 u135 u136 u137 u138 u139 u140 u141 u142 u143 u144 u145 u146 u147 u148 u149 u150 u151 u152 u153 u154 u155 u156 u157 u158 u159 u160 u161 u162 u163 u164 u165 u166 u167 u168 u169 u170 u171 u172 u173 u174 u175 u176 u177 u178 u179 u180 u181 u182 u183 u184 u185 u186 u187 u188 u189 u190 u191 u192 u193 u194 u195 u196 u197 u198 u199 u200 u201 u202 u203 u204 : Value)
    (HR : Hid (RA w0 gst gix gwr m G A w)) (hoff : offJ G A m ≤ 4096) (hm : m ≤ 4096) (hG : G.length ≤ 12288) :
    Code.wp Try.prog (tl Try.f16 11) (bodyPost Try.prog Try.f16 (RedP G A m w0)) ⟨#[u0, u1, u2, u3, u4, u5, u6, u7, u8, .int .i64 m, .slice (some ⟨gst, 0, none⟩) (m + 1) (m + 1), u11, u12, u13, u14, .slice (some ⟨gix, 0, none⟩) (offJ G A m) (offJ G A m), .slice (some ⟨gwr, 0, none⟩) (offJ G A m) (offJ G A m), u17, u18, u19, u20, u21, .slice none 0 0, u23, u24, u25, u26, u27, u28, u29, u30, u31, u32, u33, u34, u35, u36, u37, u38, u39, u40, u41, u42, u43, u44, u45, u46, u47, u48, u49, u50, u51, u52, u53, u54, u55, u56, u57, u58, u59, u60, u61, u62, u63, u64, u65, u66, u67, u68, u69, u70, u71, u72, u73, u74, u75, u76, u77, u78, u79, u80, u81, u82, u83, u84, u85, u86, u87, u88, u89, u90, u91, u92, u93, u94, u95, u96, u97, u98, u99, u100, u101, u102, u103, u104, u105, u106, u107, u108, u109, u110, u111, u112, u113, u114, u115, u116, u117, u118, u119, u120, u121, u122, u123, u124, u125, u126, u127, u128, u129, u130, u131, u132, u133, u134, u135, u136, u137, u138, u139, u140, u141, u142, u143, u144, u145, u146, u147, u148, u149, u150, u151, u152, u153, u154, u155, u156, u157, u158, u159, u160, u161, u162, u163, u164, u165, u166, u167, u168, u169, u170, u171, u172, u173, u174, u175, u176, u177, u178, u179, u180, u181, u182, u183, u184, u185, u186, u187, u188, u189, u190, u191, u192, u193, u194, u195, u196, u197, u198, u199, u200, u201, u202, u203, u204], []⟩ w := by
  have H0 : Hid (SJ w0 gst gix gwr m G A 0 none 0 0 w) := ⟨[], ⟨World.ownsRow_nil _ _ _ _, fun x => by
    constructor
    · intro h; simp at h
    · rintro ⟨i, hi, _⟩; omega⟩, HR.out, by simp⟩
  clear HR
  rw [tl16_11]
  refine wp_seq_k (fun K hK => ?_)
  conv => arg 2; whnf
  go_wp2_with fail
  go_loopw [22, 23] (fun v22 v23 wr => ∃ (j : Nat) (o : Option Addr) (k c : Nat), v23 = .int .i64 j ∧ v22 = .slice o k c ∧ j ≤ m ∧ Hid (SJ w0 gst gix gwr m G A j o k c wr)) (fun _ v23 _ => m - (intOf v23).toNat)
  case atStart => exact ⟨0, none, 0, 0, rfl, rfl, Nat.zero_le _, H0⟩
  case round =>
    clear H0
    obtain ⟨j, o, k, c, rfl, rfl, hj, HO⟩ := hrel
    by_cases hjm : j < m
    · have hjm' : (j : Int) < (m : Int) := by omega
      obtain ⟨E0, hE0, hR0, hl0⟩ := HO.out
      have cs := hR0.stc (show j ≤ m by omega)
      have ct := hR0.stc (show j + 1 ≤ m by omega)
      have hofj : offJ G A (j + 1) = offJ G A j + lenJ G A j := rfl
      have hof2 : offJ G A (j + 1) ≤ offJ G A m := sumF_mono _ (by omega)
      have HSP0 : Hid (SP w0 gst gix gwr m G A j 0 o k c wr) := ⟨E0, 0, hE0.mono (fun x => ⟨fun h => by rcases h with h | ⟨p, q, hp, _⟩; exact h; omega, Or.inl⟩), hR0, by omega, Nat.zero_le _, fun r _ h => by omega⟩
      clear HO hE0 hR0 hl0
      obtain ⟨sj, hsj⟩ : ∃ sj, sj = offJ G A j := ⟨_, rfl⟩
      obtain ⟨n, hn⟩ : ∃ n, n = offJ G A m := ⟨_, rfl⟩
      obtain ⟨l, hl⟩ : ∃ l, l = lenJ G A j := ⟨_, rfl⟩
      obtain ⟨te, hte⟩ : ∃ te, te = sj + l := ⟨_, rfl⟩
      have ct2 : wr.cell? ⟨gst, j + 1, none⟩ = some (.int .i64 te) := by rw [ct, hofj, hte, hsj, hl]
      have HTE : Hid (te = sj + l) := hte
      have hst : sj ≤ te ∧ te ≤ n := by omega
      clear hte
      rw [← hsj] at cs
      have HV : Hid (sj = offJ G A j ∧ n = offJ G A m ∧ l = lenJ G A j) := ⟨hsj, hn, hl⟩
      have hsl : sj + l ≤ n := by omega
      have hn4 : n ≤ 4096 := by omega
      clear ct hofj hof2
      rw [← hn]
      rw [← hn] at hoff
      clear hsj hn hl
      go_wp2_with fail
      go_loopw [22, 26] (fun v22 v26 wr => ∃ (a pa : Nat) (o : Option Addr) (k c : Nat), v26 = .int .i64 pa ∧ v22 = .slice o k c ∧ a ≤ l ∧ Hid (pa = sj + a) ∧ Hid (SP w0 gst gix gwr m G A j a o k c wr)) (fun _ v26 _ => te - (intOf v26).toNat)
      case atStart => exact ⟨0, sj, o, k, c, rfl, rfl, Nat.zero_le _, rfl, HSP0⟩
      case round =>
        clear HSP0 cs ct2
        obtain ⟨a, pa, o1, k1, c1, rfl, rfl, ha, HPA, HI⟩ := hrel
        by_cases hpt : pa < te
        · have hal : a < l := by have := HPA.out; have := HTE.out; omega
          have hal2 : a < lenJ G A j := by rw [← HV.out.2.2]; exact hal
          have hal' : (pa : Int) < (te : Int) := by omega
          have han : (pa : Int) < (n : Int) := by omega
          obtain ⟨E, h, hE, hR, hl1, hl2, hl3⟩ := HI.out
          have cw := hR.wbc hjm hal2
          rw [← HV.out.1, ← HPA.out] at cw
          cases hw : (gp2 (itemL G A j) a).2 with
          | false =>
            rw [hw] at cw
            have HZ : Hid (SP w0 gst gix gwr m G A j (a + 1) o1 k1 c1 wr) := ⟨E, h, hE.mono (M1_read G A j a hw), hR, hl1, hl2, fun r hr => hl3 r (by omega)⟩
            clear HI hE hR hl1 hl2 hl3 hw
            go_wp2_with fail
            go_roundw
            case rel => exact ⟨a + 1, pa + 1, o1, k1, c1, by go_num, rfl, by omega, (by have := HPA.out; omega : pa + 1 = sj + (a + 1)), HZ⟩
            case measure => simp [intOf]; omega
          | true =>
            rw [hw] at cw
            have hh : h ≤ a + 1 := by
              apply Classical.byContradiction
              intro hn
              have := hl3 a (Nat.le_refl _) (by omega)
              rw [hw] at this; cases this
            have HQ0 : Hid (SQ w0 gst gix gwr m G A j a (a + 1) o1 k1 c1 wr) := ⟨E, hE.mono (M2_start G A j a), hR, by omega, fun r h1 h2 => by omega⟩
            have HWA : Hid ((gp2 (itemL G A j) a).2 = true) := hw
            clear HI hE hR hl1 hl2 hl3 hw hh
            go_wp2_with fail
            go_loopw [22, 27] (fun v22 v27 wr => ∃ (b pb : Nat) (o : Option Addr) (k c : Nat), v27 = .int .i64 pb ∧ v22 = .slice o k c ∧ b ≤ l ∧ a < b ∧ Hid (pb = sj + b) ∧ Hid (SQ w0 gst gix gwr m G A j a b o k c wr)) (fun _ v27 _ => te - (intOf v27).toNat)
            case atStart => exact ⟨a + 1, pa + 1, o1, k1, c1, by go_num, rfl, by omega, by omega, (by have := HPA.out; omega : pa + 1 = sj + (a + 1)), HQ0⟩
            case round =>
              clear HQ0 cw
              obtain ⟨b, pb, o2, k2, c2, rfl, rfl, hb, hab, HPB, HJ⟩ := hrel
              obtain ⟨E, hE, hR, hl1, hl2⟩ := HJ.out
              have hll : lenJ G A j = l := HV.out.2.2.symm
              by_cases hpbt : pb < te
              · have hbl : b < l := by have := HPB.out; have := HTE.out; omega
                have hbl2 : b < lenJ G A j := by omega
                have hbl' : (pb : Int) < (te : Int) := by omega
                have hbn : (pb : Int) < (n : Int) := by omega
                obtain ⟨tu, cu, hu, hun⟩ := hR.ixc hjm hal2
                obtain ⟨tv, cv, hv, hvn⟩ := hR.ixc hjm hbl2
                rw [← HV.out.1, ← HPA.out] at cu
                rw [← HV.out.1, ← HPB.out] at cv
                have hoj : offJ G A j = sj := HV.out.1.symm
                have hk2 := hE.shape
                have HC : Hid _ := edW_any w0.heap.size o2 k2 c2 E tu tv wr.drew hE.r (Nat.le_trans hR.b.size (Nat.le_refl _)) (by omega) (by omega) (by omega)
                have HE : Hid (ER w0 o2 k2 c2 (M2 G A j a b) E wr ∧ RA w0 gst gix gwr m G A wr ∧ E.length ≤ 2 * offJ G A j + b ∧ ∀ r, a < r → r < b → (gp2 (itemL G A j) r).2 = false) := ⟨hE, hR, hl1, hl2⟩
                have HT : Hid ((gp2 (itemL G A j) a).1 = tu ∧ (gp2 (itemL G A j) b).1 = tv) := ⟨hu, hv⟩
                clear HJ hE hR hl1 hl2 hu hv hk2 hll hoj
                go_wp2_with fail
                refine wp_shade2 (fun KK hKK => ?_)
                have HKK : Hid _ := hKK
                clear hKK
                go_region_held3 (fun w' => w'.cell? ⟨gix, pa, none⟩ = some (.int .i32 tu) ∧ w'.cell? ⟨gix, pb, none⟩ = some (.int .i32 tv))
                  (first | go_keep | (exact hx))
                  ((go_at_call 32; refine Calls.mono HC.out ?_; rintro e w3 he; obtain ⟨o4, k4, c4, he4, hE4, hK4⟩ := ER.of (M' := M2 G A j a (b + 1)) HE.out.1.m he (M2_step G A j a b tu tv hab hbl2 HWA.out HE.out.2.2.2 HT.out.1 HT.out.2); subst he4; have hR4 := HE.out.2.1.keep ((KeepF.of_below ((Below.refl wr.heap.size wr).drew)).trans hK4) (fun g hg => HE.out.1.own g hg); have hx : w3.cell? ⟨gix, pa, none⟩ = some (.int .i32 tu) ∧ w3.cell? ⟨gix, pb, none⟩ = some (.int .i32 tv) := (by obtain ⟨t1, y1, y2, _⟩ := hR4.ixc hjm hal2; obtain ⟨t2, z1, z2, _⟩ := hR4.ixc hjm hbl2; rw [HT.out.1] at y2; rw [HT.out.2] at z2; have e1 : t1 = tu := (by omega); have e2 : t2 = tv := (by omega); rw [e1] at y1; rw [e2] at z1; rw [HPA.out, HPB.out, HV.out.1]; exact ⟨y1, z1⟩)))
                refine HKK.out _ _ ?_
                clear HKK KK
                have cwb := hR4.wbc hjm hbl2
                rw [← HV.out.1, ← HPB.out] at cwb
                have hel := edW_len E tu tv
                cases hwb : (gp2 (itemL G A j) b).2 with
                | true =>
                  rw [hwb] at cwb
                  have HZ : Hid (SP w0 gst gix gwr m G A j (a + 1) o4 k4 c4 w3) := ⟨edW E tu tv, b + 1, hE4.mono (M2_end G A j a (b + 1) HWA.out (by omega) (Or.inr ⟨by omega, by simpa using hwb⟩)), hR4, by have := HE.out.2.2.1; omega, by omega, fun r h1 h2 => HE.out.2.2.2 r (by omega) (by omega)⟩
                  clear hE4 hR4 he hK4 hx HC HE HT hwb cu cv hel
                  go_wp2_with fail
                  go_roundw
                  case rel => exact ⟨a + 1, pa + 1, o4, k4, c4, by go_num, rfl, by omega, (by have := HPA.out; omega : pa + 1 = sj + (a + 1)), HZ⟩
                  case measure => simp [intOf]; omega
                | false =>
                  rw [hwb] at cwb
                  have HZ : Hid (SQ w0 gst gix gwr m G A j a (b + 1) o4 k4 c4 w3) := ⟨edW E tu tv, hE4, hR4, by have := HE.out.2.2.1; omega, fun r h1 h2 => by
                    by_cases e : r = b
                    · subst e; exact hwb
                    · exact HE.out.2.2.2 r h1 (by omega)⟩
                  clear hE4 hR4 he hK4 hx HC HE HT hwb cu cv hel
                  go_wp2_with fail
                  go_roundw
                  case rel => exact ⟨b + 1, pb + 1, o4, k4, c4, by go_num, rfl, by omega, by omega, (by have := HPB.out; omega : pb + 1 = sj + (b + 1)), HZ⟩
                  case measure => simp [intOf]; omega
              · have hbe : b = l := by have := HPB.out; have := HTE.out; omega
                have HZ : Hid (SP w0 gst gix gwr m G A j (a + 1) o2 k2 c2 wr) := ⟨E, l, hE.mono (M2_end G A j a b HWA.out (by omega) (Or.inl (by omega))), hR, by omega, by omega, fun r h1 h2 => hl2 r (by omega) (by omega)⟩
                clear HJ hE hR hl1 hl2 hll
                clear hbe
                go_wp2_with fail
                go_roundw
                case rel => exact ⟨a + 1, pa + 1, o2, k2, c2, by go_num, rfl, by omega, (by have := HPA.out; omega : pa + 1 = sj + (a + 1)), HZ⟩
                case measure => simp [intOf]; omega
        · have hae : a = l := by have := HPA.out; have := HTE.out; omega
          obtain ⟨E, h, hE, hR, hl1, hl2, hl3⟩ := HI.out
          have hll : lenJ G A j = l := HV.out.2.2.symm
          have HN0 : Hid (SN w0 gst gix gwr m G A j l (-1) o1 k1 c1 wr) := ⟨E, hE.mono (fun x => by rw [hae, ← hll]; exact M3_start G A j x), hR, by omega, Or.inl ⟨rfl, fun r h1 h2 => by omega⟩⟩
          clear HI hE hR hl1 hl2 hl3 hll hae
          go_wp2_with fail
          go_loopw [22, 28, 29] (fun v22 v28 v29 wr => ∃ (cc : Nat) (z nw : Int) (o : Option Addr) (k c : Nat), v29 = .int .i64 z ∧ v28 = .int .i64 nw ∧ v22 = .slice o k c ∧ cc ≤ l ∧ -1 ≤ z ∧ z ≤ 5000 ∧ Hid (z = (sj : Int) + cc - 1) ∧ Hid (SN w0 gst gix gwr m G A j cc nw o k c wr)) (fun _ _ v29 _ => (intOf v29 + 1).toNat)
          case atStart => exact ⟨l, (te : Int) - 1, -1, o1, k1, c1, rfl, rfl, rfl, Nat.le_refl _, by omega, by omega, (by have := HTE.out; omega : (te : Int) - 1 = (sj : Int) + l - 1), HN0⟩
          case round =>
            clear HN0
            obtain ⟨cc, z, nw, o2, k2, c2, rfl, rfl, rfl, hcc, hz1, hz2, HZ0, HJ⟩ := hrel
            obtain ⟨E, hE, hR, hl1, hnw⟩ := HJ.out
            have hll : lenJ G A j = l := HV.out.2.2.symm
            have hoj : offJ G A j = sj := HV.out.1.symm
            cases cc with
            | zero =>
              have hzs : ¬ ((sj : Int) ≤ z) := by have := HZ0.out; omega
              have HZ : Hid (SJ w0 gst gix gwr m G A (j + 1) o2 k2 c2 wr) := ⟨E, hE.mono (fun x => (M3_all G A j x).symm), hR, by
                have : offJ G A (j + 1) = offJ G A j + lenJ G A j := rfl
                omega⟩
              clear HJ hE hR hl1 hnw hll hoj
              go_wp2_with fail
              go_roundw
              case rel => exact ⟨j + 1, o2, k2, c2, by go_num, rfl, by omega, HZ⟩
              case measure => simp [intOf]; omega
            | succ p =>
              obtain ⟨pp, hpp⟩ : ∃ pp : Nat, z = pp := ⟨sj + p, by have := HZ0.out; omega⟩
              subst hpp
              have HPP : Hid (pp = sj + p) := by have := HZ0.out; show pp = sj + p; omega
              have hpl2 : p < lenJ G A j := by omega
              have hps : (sj : Int) ≤ (pp : Int) := by have := HPP.out; omega
              have hpn : (pp : Int) < (n : Int) := by have := HPP.out; omega
              have cw := hR.wbc hjm hpl2
              rw [← HV.out.1, ← HPP.out] at cw
              cases hw : (gp2 (itemL G A j) p).2 with
              | true =>
                rw [hw] at cw
                have HZ : Hid (SN w0 gst gix gwr m G A j p (pp : Int) o2 k2 c2 wr) := ⟨E, hE.mono (M3_none G A j p (Or.inl hw)), hR, by omega, Or.inr ⟨p, Nat.le_refl _, hpl2, by rw [hoj, ← HPP.out], hw, fun r h1 h2 => by omega⟩⟩
                clear HJ hE hR hl1 hnw hll hoj hw
                go_wp2_with fail
                go_roundw
                case rel => exact ⟨p, (pp : Int) - 1, (pp : Int), o2, k2, c2, by go_num, rfl, rfl, by omega, by omega, by omega, (by have := HPP.out; omega : (pp : Int) - 1 = (sj : Int) + p - 1), HZ⟩
                case measure => simp [intOf]
              | false =>
                rw [hw] at cw
                rcases hnw with ⟨e1, e2⟩ | ⟨d, d1, d2, d3, d4, d5⟩
                · subst e1
                  have HZ : Hid (SN w0 gst gix gwr m G A j p (-1) o2 k2 c2 wr) := ⟨E, hE.mono (M3_none G A j p (Or.inr (fun r h1 h2 => e2 r (by omega) h2))), hR, by omega, Or.inl ⟨rfl, fun r h1 h2 => by
                    by_cases e : r = p
                    · subst e; exact hw
                    · exact e2 r (by omega) h2⟩⟩
                  clear HJ hE hR hl1 e2 hll hoj hw
                  go_wp2_with fail
                  go_roundw
                  case rel => exact ⟨p, (pp : Int) - 1, -1, o2, k2, c2, by go_num, rfl, rfl, by omega, by omega, by omega, (by have := HPP.out; omega : (pp : Int) - 1 = (sj : Int) + p - 1), HZ⟩
                  case measure => simp [intOf]
                · obtain ⟨pd, hpd0⟩ : ∃ pd, pd = sj + d := ⟨_, rfl⟩
                  have hnw2 : nw = (pd : Int) := by rw [d3, hoj, hpd0]
                  subst hnw2
                  have hpdn : (pd : Int) < (n : Int) := by omega
                  have hdl : d < lenJ G A j := d2
                  have hpd : p < d := by omega
                  obtain ⟨tu, cu, hu, hun⟩ := hR.ixc hjm hpl2
                  obtain ⟨tv, cv, hv, hvn⟩ := hR.ixc hjm hdl
                  rw [← HV.out.1, ← HPP.out] at cu
                  rw [← HV.out.1, ← hpd0] at cv
                  have HC : Hid _ := edW_any w0.heap.size o2 k2 c2 E tu tv wr.drew hE.r (Nat.le_trans hR.b.size (Nat.le_refl _)) (by omega) (by omega) (by omega)
                  have HE : Hid (ER w0 o2 k2 c2 (M3 G A j (p + 1)) E wr ∧ RA w0 gst gix gwr m G A wr ∧ E.length + (p + 1) ≤ 2 * offJ G A j + 2 * lenJ G A j) := ⟨hE, hR, hl1⟩
                  have HT : Hid ((gp2 (itemL G A j) p).1 = tu ∧ (gp2 (itemL G A j) d).1 = tv) := ⟨hu, hv⟩
                  have HWP : Hid ((gp2 (itemL G A j) p).2 = false) := hw
                  have HD : Hid ((gp2 (itemL G A j) d).2 = true ∧ (∀ r, p < r → r < d → (gp2 (itemL G A j) r).2 = false) ∧ pd = sj + d) := ⟨d4, fun r h1 h2 => d5 r (by omega) h2, hpd0⟩
                  clear HJ hE hR hl1 hll hoj hw hu hv d1 d2 d3 d4 d5 hpd0
                  go_wp2_with fail
                  refine wp_shade2 (fun KK hKK => ?_)
                  have HKK : Hid _ := hKK
                  clear hKK
                  go_region_held3 (fun w' => w'.cell? ⟨gix, pp, none⟩ = some (.int .i32 tu) ∧ w'.cell? ⟨gix, pd, none⟩ = some (.int .i32 tv))
                    (first | go_keep | (exact hx))
                    ((go_at_call 32; refine Calls.mono HC.out ?_; rintro e w3 he; obtain ⟨o4, k4, c4, he4, hE4, hK4⟩ := ER.of (M' := M3 G A j p) HE.out.1.m he (M3_step G A j p d tu tv hpd hdl HWP.out HD.out.1 HD.out.2.1 HT.out.1 HT.out.2); subst he4; have hR4 := HE.out.2.1.keep ((KeepF.of_below ((Below.refl wr.heap.size wr).drew)).trans hK4) (fun g hg => HE.out.1.own g hg); have hx : w3.cell? ⟨gix, pp, none⟩ = some (.int .i32 tu) ∧ w3.cell? ⟨gix, pd, none⟩ = some (.int .i32 tv) := (by obtain ⟨t1, y1, y2, _⟩ := hR4.ixc hjm hpl2; obtain ⟨t2, z1, z2, _⟩ := hR4.ixc hjm hdl; rw [HT.out.1] at y2; rw [HT.out.2] at z2; have e1 : t1 = tu := (by omega); have e2 : t2 = tv := (by omega); rw [e1] at y1; rw [e2] at z1; rw [HPP.out, HD.out.2.2, HV.out.1]; exact ⟨y1, z1⟩)))
                  refine HKK.out _ _ ?_
                  clear HKK KK
                  have cwb := hR4.wbc hjm hpl2
                  rw [← HV.out.1, ← HPP.out, HWP.out] at cwb
                  have hel := edW_len E tu tv
                  have HZ : Hid (SN w0 gst gix gwr m G A j p (pd : Int) o4 k4 c4 w3) := ⟨edW E tu tv, hE4, hR4, by have := HE.out.2.2; omega, Or.inr ⟨d, by omega, hdl, by rw [HD.out.2.2, HV.out.1], HD.out.1, fun r h1 h2 => by
                    by_cases e : r = p
                    · subst e; exact HWP.out
                    · exact HD.out.2.1 r (by omega) h2⟩⟩
                  clear hE4 hR4 he hK4 hx HC HE HT cu cv hel HWP HD cw
                  go_wp2_with fail
                  go_roundw
                  case rel => exact ⟨p, (pp : Int) - 1, (pd : Int), o4, k4, c4, by go_num, rfl, rfl, by omega, by omega, by omega, (by have := HPP.out; omega : (pp : Int) - 1 = (sj : Int) + p - 1), HZ⟩
                  case measure => simp [intOf]
    · have hje : j = m := by omega
      subst hje
      go_wp2_with fail
      exact a12 _ _ _ _ _ _ _ _ _ _ _ _ _ _ _ _ _ _ _ _ _ _ _ _ _ _ _ _ _ _ _ _ _ _ _ _ _ _ _ _ _ _ _ _ _ _ _ _ _ _ _ _ _ _ _ _ _ _ _ _ _ _ _ _ _ _ _ _ _ _ _ _ _ _ _ _ _ _ _ _ _ _ _ _ _ _ _ _ _ _ _ _ _ _ _ _ _ _ _ _ _ _ _ _ _ _ _ _ _ _ _ _ _ _ _ _ _ _ _ _ _ _ _ _ _ _ _ _ _ _ _ _ _ _ _ _ _ _ _ _ _ _ _ _ _ _ _ _ _ _ _ _ _ _ _ _ _ _ _ _ _ _ _ _ _ _ _ _ _ _ _ _ _ _ _ _ _ _ _ _ _ _ _ _ _ _ _ _ _ _ _ _ _ _ _ _ _ _ _ _ _ _ _ _ HO hoff
end Go.Proofs.Qxb6626314a
