/-
  Seat b6626314a: Graph: its contract.
-/
import Derived.Test.Qxb6626314aZ
namespace Go.Proofs.Qxb6626314a
open Go.RowKit Go.Maps Go.Sort
set_option linter.unusedVariables false
set_option linter.unusedSimpArgs false

theorem graphP_of {A : List Ac} {T X G : List Int} {m gp gg ga gs : Nat} {v1 : Value} {VA : Nat → Value} {S' : Nat → List Int} {w0 w' : World} (hG : GPr A T X G) (hn : G.length ≤ 12288) (ha : GA w0.heap.size gp gg ga m G (itemL G A) VA v1 (.slice (some ⟨gs, 0, none⟩) G.length G.length) w') (ht : ∃ V, RT w0.heap.size 21 1 gs 44 G.length (fun u => (S' u).length) (fun u => ints (S' u)) V w') (hb : Below w0.heap.size w0 w')
    (hs : ∀ u, u < G.length → (S' u).Pairwise (· < ·) ∧ SameM (S' u) (redJ (itemL G A) m u) ∧ (S' u).length ≤ 100000000) : GraphP A T X m w0 (.returned (.pointer (some ⟨gg, 0, none⟩))) w' := by
  obtain ⟨ot, ct, hv1⟩ := row_shape ha.tx
  subst hv1
  obtain ⟨V, hV⟩ := ht
  refine ⟨gg, ot, ct, ga, gs, G, S', rfl, ⟨ha.gb.g, sl_of_row ha.tx, fun j hj => ?_, fun u hu => ?_⟩, hb, hG, hn, hs⟩
  · have hr := ha.ac.row j hj
    obtain ⟨o, c, e⟩ := row_shape hr
    have hc := ha.ac.cell hj
    rw [e] at hr hc
    exact ⟨o, c, hc, sl_of_row hr⟩
  · have hr := hV.row u hu
    obtain ⟨o, c, e⟩ := row_shape hr
    have hc := hV.cell hu
    rw [e] at hr hc
    exact ⟨o, c, hc, sl_of_row hr⟩
set_option maxRecDepth 100000 in
set_option maxHeartbeats 2000000 in
theorem graph_any {B0 gh be bt bi m ne nt : Nat} {A : List Ac} {T X : List Int} {va : Value} {w : World} (h : HV B0 gh va be bt bi A ne nt m (enF X) (txF T A X) w) (hnt : nt ≤ 12288) (hm : m ≤ 4096) (hA : A.length ≤ 4096) (hI : ∀ i, i < A.length → 0 ≤ (A.getD i a0).item ∧ (A.getD i a0).item < m) (hW : ∀ i, i < A.length → R64 (A.getD i a0).tx) (hT : ∀ k, k < T.length → R64 (T.getD k 0)) :
    Calls Try.prog 8 #[.pointer (some ⟨gh, 0, none⟩)] w (GraphP A T X m w) := by
  have HH : Hid _ := h
  have HI : Hid (∀ i, i < A.length → 0 ≤ (A.getD i a0).item ∧ (A.getD i a0).item < m) := hI
  have HW : Hid (∀ i, i < A.length → R64 (A.getD i a0).tx) := hW
  have HT : Hid (∀ k, k < T.length → R64 (T.getD k 0)) := hT
  clear h hI hW hT
  go_enter Try.func8, Try.ntmps8
  change Code.wp Try.prog (tl Try.f8 0) (bodyPost Try.prog Try.f8 (GraphP A T X m w)) _ _
  rw [tl8_0]
  refine wp_seq_k (fun K hK => ?_)
  conv => arg 2; whnf
  go_wp2_with fail
  rw [tl8_1]
  refine wp_seq_k (fun K hK => ?_)
  conv => arg 2; whnf
  go_wp2_with fail
  obtain ⟨w1, hw1⟩ : ∃ w1, w1 = w.alloc (.cells #[.slice none 0 0, .slice none 0 0, .slice none 0 0] 57) := ⟨_, rfl⟩
  have b1 : Below w.heap.size w w1 := by rw [hw1]; exact (Below.refl _ _).alloc (Nat.le_refl _) _
  have s1 : w1.heap.size = w.heap.size + 1 := by rw [hw1]; simp
  have h1 : w1.heap[w.heap.size]? = some (.cells #[.slice none 0 0, .slice none 0 0, .slice none 0 0] 57 (0, 0)) := by rw [hw1]; exact heap_alloc_new w _
  obtain ⟨w2, hw2⟩ : ∃ w2, w2 = w1.alloc (.cells #[.pointer (some ⟨w.heap.size, 0, none⟩)] 29) := ⟨_, rfl⟩
  have b2 : Below w1.heap.size w1 w2 := by rw [hw2]; exact (Below.refl _ _).alloc (Nat.le_refl _) _
  have h2 : w2.heap[w1.heap.size]? = some (.cells #[.pointer (some ⟨w.heap.size, 0, none⟩)] 29 (0, 0)) := by rw [hw2]; exact heap_alloc_new w1 _
  have HG : Hid (GB w.heap.size w1.heap.size w.heap.size (.slice none 0 0) (.slice none 0 0) (.slice none 0 0) w2) := ⟨h2, blk_below b2 h1, by omega, Nat.le_refl _⟩
  have HBw : Hid (Below w.heap.size w w2) := b1.trans (b2.mono b1.size)
  have HR : Hid (∀ (G : List Int) (v1 : Value) (ga : Nat) (VA : Nat → Value) (gs : Nat) (S' : Nat → List Int) (w' : World), GPr A T X G → G.length ≤ 12288 → GA w.heap.size w1.heap.size w.heap.size ga m G (itemL G A) VA v1 (.slice (some ⟨gs, 0, none⟩) G.length G.length) w' → (∃ V, RT w.heap.size 21 1 gs 44 G.length (fun u => (S' u).length) (fun u => ints (S' u)) V w') → Below w.heap.size w w' → (∀ u, u < G.length → (S' u).Pairwise (· < ·) ∧ SameM (S' u) (redJ (itemL G A) m u) ∧ (S' u).length ≤ 100000000) → GraphP A T X m w (.returned (.pointer (some ⟨w.heap.size, 0, none⟩))) w') :=
    fun G v1 ga VA gs S' w' a b c d e f => graphP_of a b c d e f
  rw [s1] at HG HR
  have e2 : (w.alloc (.cells #[.slice none 0 0, .slice none 0 0, .slice none 0 0] 57)).alloc (.cells #[.pointer (some ⟨w.heap.size, 0, none⟩)] 29) = w2 := by rw [hw2, hw1]
  rw [e2]
  exact g2 _ _ _ _ _ _ _ _ _ _ _ _ _ _ _ _ _ _ _ _ _ _ _ _ _ _ _ _ _ _ _ _ _ _ _ _ _ _ _ _ _ _ _ _ _ _ _ _ _ _ _ _ _ _ _ _ _ _ _ _ _ _ _ _ _ _ _ _ _ _ _ _ _ _ _ _ _ _ _ _ _ _ _ _ _ _ _ _ _ _ _ _ _ _ _ _ _ _ _ _ _ _ _ _ _ _ _ _ _ _ _ _ _ _ _ _ _ _ _ _ _ _ _ _ _ _ _ _ _ _ _ _ _ _ _ _ _ _ _ _ _ _ _ _ _ _ _ _ _ _ _ _ _ _ _ _ _ _ _ _ _ _ _ _ _ _ _ _ _ _ _ _ _ _ _ _ _ _ _ _ _ _ _ _ _ _ _ _ _ _ _ _ _ _ _ _ _ _ _ _ _ _ _ _ _ HH rfl hnt HG HBw hm hA HI HW HT HR
end Go.Proofs.Qxb6626314a
