/-
  Seat b6625890a: zzCloneState.
-/
import Derived.Test.Qxb6625890aM
namespace Go.Proofs.Qxb6625890a
open Go.RowKit Go.Maps
set_option linter.unusedVariables false

/-- A copied state: rows of its own, all from block B on. -/
structure Copied (w : World) (B : Nat) (x0 x1 x2 x4 : Value) (ends : List Int) (items reads : List (Int × Int)) (des des' : List DEnt) : Prop where
  len : des'.length = des.length
  d : w.ownsRow B 58 2 x4 des.length (flatD des')
  co : CopyOf w B des des'
  e : w.ownsRow B 5 1 x0 ends.length (bytes ends)
  i : w.ownsRow B 49 2 x1 items.length (flat items)
  r : w.ownsRow B 53 2 x2 reads.length (flat reads)

theorem QC_mono {R R' : Value → World → Prop} (h : ∀ v w, R v w → R' v w) : ∀ e a w, QC R e a w → QC R' e a w := by
  intro e a w hq
  cases e with
  | normal => obtain ⟨hd, v, hr, v', h1, h2⟩ := hq; exact ⟨hd, v, hr, v', h1, h _ _ h2⟩
  | ret => obtain ⟨hd, v, hr, v', h1, h2⟩ := hq; exact ⟨hd, v, hr, v', h1, h _ _ h2⟩
  | exit id => exact hq
  | goto l => exact hq
  | panic ch => obtain ⟨h0, v', h1, h2⟩ := hq; exact ⟨h0, v', h1, h _ _ h2⟩
  | outgrown => obtain ⟨v', h1, h2⟩ := hq; exact ⟨v', h1, h _ _ h2⟩

set_option maxRecDepth 100000 in
set_option maxHeartbeats 1000000 in
theorem clone_any (ae : Option Addr) (ce : Nat) (ai : Option Addr) (ci : Nat) (ar : Option Addr) (cr : Nat) (c0 c1 c2 c3 : Bool) (ad : Option Addr) (cd : Nat) (ends : List Int) (items reads : List (Int × Int)) (des : List DEnt) (w : World) (hZ : ZV w ae ai ar ad ends items reads des) (l1 : ends.length ≤ 1048576) (l2 : items.length ≤ 1048576) (l3 : reads.length ≤ 1048576) (l4 : des.length ≤ 1048576) (l5 : ∀ x ∈ des, x.zs.length ≤ 1048576) :
    Calls Try.prog 7 #[zst ae ends.length ce ai items.length ci ar reads.length cr c0 c1 c2 c3 ad des.length cd] w fun e w' => ∃ v, e = .returned v ∧ ∃ x0 x1 x2 x4 des', v = .agg #[x0, x1, x2, .bool c0, .bool c1, .bool c2, .bool c3, x4] ∧ Copied w' w.heap.size x0 x1 x2 x4 ends items reads des des' ∧ Below w.heap.size w w' := by
  obtain ⟨w1, hw1⟩ : ∃ w1, w1 = w.alloc (.cells (zcells ae ends.length ce ai items.length ci ar reads.length cr c0 c1 c2 c3 ad des.length cd) 28) := ⟨_, rfl⟩
  obtain ⟨w2, hw2⟩ : ∃ w2, w2 = w1.alloc (.cells #[.slice none 0 0, .slice none 0 0, .slice none 0 0, .bool false, .bool false, .bool false, .bool false, .slice none 0 0] 28) := ⟨_, rfl⟩
  obtain ⟨w3, hw3⟩ : ∃ w3, w3 = w2.alloc (.cells #[.slice none 0 0, .slice none 0 0, .slice none 0 0, .bool false, .bool false, .bool false, .bool false, .slice none 0 0] 28) := ⟨_, rfl⟩
  have b1 : Below w.heap.size w w1 := by rw [hw1]; exact (Below.refl _ _).alloc (Nat.le_refl _) _
  have b2 : Below w1.heap.size w1 w2 := by rw [hw2]; exact (Below.refl _ _).alloc (Nat.le_refl _) _
  have b3 : Below w2.heap.size w2 w3 := by rw [hw3]; exact (Below.refl _ _).alloc (Nat.le_refl _) _
  have s1 : w1.heap.size = w.heap.size + 1 := by rw [hw1]; simp
  have s2 : w2.heap.size = w.heap.size + 2 := by rw [hw2]; simp [s1]
  have h1 : w1.heap[w.heap.size]? = some (.cells (zcells ae ends.length ce ai items.length ci ar reads.length cr c0 c1 c2 c3 ad des.length cd) 28 (0, 0)) := by rw [hw1]; exact heap_alloc_new w _
  have h2 : w2.heap[w1.heap.size]? = some (.cells #[.slice none 0 0, .slice none 0 0, .slice none 0 0, .bool false, .bool false, .bool false, .bool false, .slice none 0 0] 28 (0, 0)) := by rw [hw2]; exact heap_alloc_new w1 _
  have h3 : w3.heap[w2.heap.size]? = some (.cells #[.slice none 0 0, .slice none 0 0, .slice none 0 0, .bool false, .bool false, .bool false, .bool false, .slice none 0 0] 28 (0, 0)) := by rw [hw3]; exact heap_alloc_new w2 _
  have hb : Below w.heap.size w w3 := b1.trans ((b2.mono (by omega)).trans (b3.mono (by omega)))
  have hst : w3.heap[w.heap.size]? = some (.cells (zcells ae ends.length ce ai items.length ci ar reads.length cr c0 c1 c2 c3 ad des.length cd) 28 (0, 0)) := ((b3.block _ (by omega)).trans (b2.block _ (by omega))).trans h1
  have hrs : w3.heap[w1.heap.size]? = _ := (b3.block _ (by omega)).trans h2
  have HST : Hid _ := hst
  have HRS : Hid _ := hrs
  have HBO : Hid _ := h3
  have HB : Hid _ := hb
  have H1 : Hid _ := hw1
  have H2 : Hid _ := hw2
  have H3 : Hid _ := hw3
  have HZ : Hid _ := hZ
  have e1 : (w.alloc (.cells (zcells ae ends.length ce ai items.length ci ar reads.length cr c0 c1 c2 c3 ad des.length cd) 28)) = w1 := hw1.symm
  have o1 : w.heap.size < w1.heap.size := by omega
  have o2 : w1.heap.size < w2.heap.size := by omega
  clear b1 b2 b3 h1 h2 h3 hb hst hrs hZ e1 s1 s2
  go_enter Try.func7, Try.ntmps7
  change Code.wp Try.prog (tl Try.f7 0) (QC (fun v w' => ∃ x0 x1 x2 x4 des', v = .agg #[x0, x1, x2, .bool c0, .bool c1, .bool c2, .bool c3, x4] ∧ Copied w' w.heap.size x0 x1 x2 x4 ends items reads des des' ∧ Below w.heap.size w w')) _ _
  rw [tl7_0]
  refine wp_seq_k (fun K hK => ?_)
  conv => arg 2; whnf
  go_wp2_with fail
  rw [tl7_1]
  refine wp_seq_k (fun K hK => ?_)
  conv => arg 2; whnf
  go_wp2_with fail
  have e3 := H3.out
  rw [H2.out, H1.out] at e3
  have n1 : w1.heap.size = w.heap.size + 1 := by rw [H1.out]; simp
  have n2 : w2.heap.size = w.heap.size + 1 + 1 := by rw [H2.out]; simp [n1]
  rw [n1] at HRS
  rw [n2] at HBO
  unfold zcells at e3
  rw [← e3]
  exact cl2 _ _ _ _ _ _ _ _ _ _ _ _ _ _ _ _ _ _ _ _ _ _ _ _ _ _ _ _ _ _ _ _ _ _ _ _ _ _ _ _ _ _ _ _ _ _ _ _ _ _ _ _ _ _ _ _ _ _ _ _ _ _ _ _ _ _ _ _ _ _ _ _ _ _ _ _ _ _ _ _ _ _ _ _ _ _ _ _ _ _ _ _ _ _ _ _ _ _ _ _ _ _ _ _ _ _ _ _ _ _ _ _ _ _ _ _ _ _ _ _ _ _ _ _ _ _ _ _ _ _ _ _ _ _ _ HST.out HBO.out HRS.out (Nat.lt_succ_self _) (Nat.lt_succ_self _) (Nat.le_refl _) rfl HZ.out l1 l2 l3 l4 l5 HB.out (fun x0 x1 x2 w' x4 des' hlen h4 hco h0 h1 h2 hbb => ⟨x0, x1, x2, x4, des', rfl, ⟨hlen, h4, hco, h0, h1, h2⟩, hbb⟩)

end Go.Proofs.Qxb6625890a
