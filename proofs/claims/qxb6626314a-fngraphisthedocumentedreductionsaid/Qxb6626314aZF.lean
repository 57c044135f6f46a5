/-
  Seat b6626314a: the law of the conflicts: vocabulary.
-/
import Derived.Test.Qxb6626314aZE
namespace Go.Proofs.Qxb6626314a
open Go.RowKit Go.Maps Go.Sort
set_option linter.unusedVariables false
set_option linter.unusedSimpArgs false

/-! ### The law FnGraphReachesExactlyTheConflicts -/
def idxA (G ab : List Int) (A : List Ac) : List Int := A.map fun a => if a.tx ∈ ab then -1 else (G.idxOf a.tx : Int)
theorem idxA_len (G ab : List Int) (A : List Ac) : (idxA G ab A).length = A.length := by simp [idxA]
theorem idxA_getD (G ab : List Int) (A : List Ac) (i : Nat) (hi : i < A.length) : (idxA G ab A).getD i 0 = if (A.getD i a0).tx ∈ ab then -1 else (G.idxOf (A.getD i a0).tx : Int) := by
  unfold idxA
  rw [List.getD_eq_getElem?_getD, List.getElem?_map, List.getElem?_eq_getElem hi, List.getD_eq_getElem?_getD, List.getElem?_eq_getElem hi]
  rfl
structure L4 (w0 w1 : World) (oa og ob : Option Addr) (gs m : Nat) (A : List Ac) (T X G ab : List Int) (succ : Nat → List Int) : Prop where
  b01 : Below w0.heap.size w0 w1
  sa : Sl w1 oa (flatA A)
  sg : Sl w1 og (int64s G)
  sb : Sl w1 ob (int64s ab)
  gp : GPr A T X G
  abs : ab.Pairwise (· ≤ ·)
  abm : SameM ab X
  su : SuV w1 gs G.length succ
  rel : ∀ u, u < G.length → SameM (succ u) (redJ (itemL G A) m u)
  hI : ∀ i, i < A.length → 0 ≤ (A.getD i a0).item ∧ (A.getD i a0).item < m
  lA : A.length ≤ 4096
  lG : G.length ≤ 12288
  lb : ab.length ≤ 4096
  hm : m ≤ 4096
/-- Counted or not. -/
theorem L4.ix {w0 w1 : World} {oa og ob : Option Addr} {gs m : Nat} {A : List Ac} {T X G ab : List Int} {succ : Nat → List Int} (h : L4 w0 w1 oa og ob gs m A T X G ab succ) {i : Nat} (hi : i < A.length) :
    ((A.getD i a0).tx ∈ ab ∧ (idxA G ab A).getD i 0 = -1) ∨ ((A.getD i a0).tx ∉ ab ∧ (A.getD i a0).tx ∈ G ∧ ∃ t : Nat, t < G.length ∧ t = G.idxOf (A.getD i a0).tx ∧ (idxA G ab A).getD i 0 = t) := by
  rw [idxA_getD G ab A i hi]
  by_cases hX : (A.getD i a0).tx ∈ ab
  · exact Or.inl ⟨hX, by rw [if_pos hX]⟩
  · have hG : (A.getD i a0).tx ∈ G := (h.gp.2 _).2 ⟨Or.inr (List.mem_map.2 ⟨_, getD_mem a0 hi, rfl⟩), fun hx => hX ((h.abm _).2 hx)⟩
    exact Or.inr ⟨hX, hG, _, List.idxOf_lt_length_of_mem hG, rfl, by rw [if_neg hX]⟩
theorem row_zero {w : World} {base : Nat} {o : Option Addr} {k c n : Nat} {xs : List Value} (h : w.ownsRow base 21 1 (.slice o k c) n xs) : w.ownsRow base 21 1 (.slice o 0 c) 0 [] := by
  rcases h.2 with ⟨e, _⟩ | ⟨g, cap, cur, e, h2, h3, h4, h5, h6, h7⟩
  · simp at e
    obtain ⟨rfl, rfl, rfl⟩ := e
    exact World.ownsRow_nil _ _ _ _
  · simp at e
    obtain ⟨rfl, rfl, rfl⟩ := e
    exact ⟨rfl, Or.inr ⟨g, c, cur, rfl, h2, h3, Nat.zero_le _, h5, h6, by simp⟩⟩
theorem own_zero (o : Option Addr) (k c : Nat) : (Value.slice o 0 c).ownBlock = (Value.slice o k c).ownBlock := by cases o <;> rfl
/-- The searches' memory. -/
structure LB (w1 : World) (gi ge n : Nat) (IX : List Int) (bfs : Nat) (SE : List Int) (o : Option Addr) (k c : Nat) (w : World) : Prop where
  x : w.heap[gi]? = some (.cells (ints IX).toArray 21 (0, 0))
  e : BI w ge SE
  ne : SE.length = n
  lq : Lq SE bfs
  le : w1.heap.size ≤ ge
  q : ∃ nq xs, w.ownsRow w1.heap.size 21 1 (.slice o k c) nq xs
  ap : (Value.slice o k c).ownBlock ≠ some gi
  b : Below w1.heap.size w1 w
theorem LB.drew {w1 : World} {gi ge n : Nat} {IX : List Int} {bfs : Nat} {SE : List Int} {o : Option Addr} {k c : Nat} {w w' : World} (h : LB w1 gi ge n IX bfs SE o k c w) (hb : Below w.heap.size w w') : LB w1 gi ge n IX bfs SE o k c w' :=
  ⟨blk_below hb h.x, h.e.below hb, h.ne, h.lq, h.le, by obtain ⟨a, b, hq⟩ := h.q; exact ⟨a, b, row_below hq hb⟩, h.ap, h.b.trans (hb.mono h.b.size)⟩
theorem LB.ix {w1 : World} {gi ge n : Nat} {IX : List Int} {bfs : Nat} {SE : List Int} {o : Option Addr} {k c : Nat} {w : World} (h : LB w1 gi ge n IX bfs SE o k c w) {i : Nat} (hi : i < IX.length) : w.cell? ⟨gi, i, none⟩ = some (.int .i32 (IX.getD i 0)) := cell_blk h.x (by simp [ints, hi])
/-- Closed under the successors, with the source in it. -/
def Cl (n : Nat) (succ : Nat → List Int) (bfs : Nat) (src : Nat) (SE : List Int) : Prop := SE.getD src 0 = bfs ∧ ∀ u : Nat, u < n → SE.getD u 0 = bfs → Dn succ bfs SE u
theorem LB.reach {w1 : World} {gi ge n : Nat} {IX : List Int} {bfs : Nat} {SE : List Int} {o : Option Addr} {k c : Nat} {w wd w' : World} {succ : Nat → List Int} {src : Nat} {e : Ending} (h : LB w1 gi ge n IX bfs SE o k c w) (hd : Below w.heap.size w wd) (hr : ReachP w1 ge n succ ((bfs : Int) + 1) src (.slice o 0 c) wd e w') :
    ∃ o' k' c' SE', e = .returned (.slice o' k' c') ∧ LB w1 gi ge n IX (bfs + 1) SE' o' k' c' w' ∧ Cl n succ (bfs + 1) src SE' := by
  obtain ⟨o', k', c', SE', qs, rfl, hR, hs, hcl, hK, hloc⟩ := hr
  have hx := blk_below hd h.x
  have hne : gi ≠ ge := ne_of_tag h.x h.e (by decide)
  refine ⟨o', k', c', SE', rfl, ⟨(hK.block gi (Array.getElem?_eq_some_iff.1 hx).1 (fun e => ?_)).trans hx, hR.e, hR.ne, by simpa using hR.lq, hR.le, ⟨_, _, hR.q⟩, fun e => ?_, hR.b⟩, ⟨by simpa using hs, fun u hu hsu => by simpa using hcl u hu (by simpa using hsu)⟩⟩
  · rcases e with e | e
    · exact hne e
    · rw [own_zero o k c] at e; exact h.ap e
  · rcases hloc gi e with a | a
    · rw [own_zero o k c] at a; exact h.ap a
    · have := (Array.getElem?_eq_some_iff.1 hx).1; omega
theorem L4.found {w0 w1 : World} {oa og ob : Option Addr} {gs m : Nat} {A : List Ac} {T X G ab : List Int} {succ : Nat → List Int} (h : L4 w0 w1 oa og ob gs m A T X G ab succ) {SE : List Int} {bfs i j : Nat} (hij : i < j) (hj : j < A.length) (gi : (A.getD i a0).tx ∈ G) (gj : (A.getD j a0).tx ∈ G) (hit : (A.getD i a0).item = (A.getD j a0).item) (hw : (A.getD i a0).wr = true ∨ (A.getD j a0).wr = true) (hc : Cl G.length succ bfs (G.idxOf (A.getD i a0).tx) SE) : SE.getD (G.idxOf (A.getD j a0).tx) 0 = bfs := by
  have := conflict_complete h.hI (fun x => SE.getD x.toNat 0 = bfs) (fun u v hv hu => by
    obtain ⟨v', rfl, hv2, hu2, _⟩ := edge_sound hv
    have hd := hc.2 u hu2 (by simpa using hu)
    exact hd _ (by simpa using (h.rel u hu2 (v' : Int)).2 hv)) hij hj gi gj hit hw (by simpa using hc.1)
  simpa using this
set_option maxRecDepth 100000 in
theorem gtxs_any {w : World} {gg : Nat} {v1 v2 v3 : Value} (h : w.heap[gg]? = some (.cells #[v1, v2, v3] 57 (0, 0))) : Calls Try.prog 9 #[.pointer (some ⟨gg, 0, none⟩)] w fun e w' => e = .returned v1 ∧ w' = w := by
  have c0 : w.cell? ⟨gg, 0, none⟩ = some v1 := cell_blk h rfl
  clear h
  go_enter Try.func9, Try.ntmps9
  go_wp2_with fail
  go_ret
  exact ⟨rfl, rfl⟩
set_option maxRecDepth 100000 in
theorem gsucc_any {w : World} {gg : Nat} {v1 v2 v3 : Value} (h : w.heap[gg]? = some (.cells #[v1, v2, v3] 57 (0, 0))) : Calls Try.prog 17 #[.pointer (some ⟨gg, 0, none⟩)] w fun e w' => e = .returned v3 ∧ w' = w := by
  have c0 : w.cell? ⟨gg, 2, none⟩ = some v3 := cell_blk h rfl
  clear h
  go_enter Try.func17, Try.ntmps17
  go_wp2_with fail
  go_ret
  exact ⟨rfl, rfl⟩
theorem tl4_0 : tl Try.f4 0 = Code.seq (st Try.f4 0) (tl Try.f4 1) := by kernel_rfl
theorem tl4_1 : tl Try.f4 1 = Code.seq (st Try.f4 1) (tl Try.f4 2) := by kernel_rfl
theorem tl4_2 : tl Try.f4 2 = Code.seq (st Try.f4 2) (tl Try.f4 3) := by kernel_rfl
theorem tl4_3 : tl Try.f4 3 = Code.seq (st Try.f4 3) (tl Try.f4 4) := by kernel_rfl
theorem tl4_4 : tl Try.f4 4 = Code.seq (st Try.f4 4) (tl Try.f4 5) := by kernel_rfl
theorem tl4_5 : tl Try.f4 5 = Code.seq (st Try.f4 5) (tl Try.f4 6) := by kernel_rfl
theorem tl4_6 : tl Try.f4 6 = Code.seq (st Try.f4 6) (tl Try.f4 7) := by kernel_rfl
theorem tl4_7 : tl Try.f4 7 = Code.seq (st Try.f4 7) (tl Try.f4 8) := by kernel_rfl
theorem tl4_8 : tl Try.f4 8 = Code.seq (st Try.f4 8) (tl Try.f4 9) := by kernel_rfl
theorem tl4_9 : tl Try.f4 9 = Code.seq (st Try.f4 9) (tl Try.f4 10) := by kernel_rfl
theorem tl4_10 : tl Try.f4 10 = Code.seq (st Try.f4 10) (tl Try.f4 11) := by kernel_rfl
theorem tl4_11 : tl Try.f4 11 = Code.seq (st Try.f4 11) (tl Try.f4 12) := by kernel_rfl
theorem tl4_12 : tl Try.f4 12 = Code.seq (st Try.f4 12) (tl Try.f4 13) := by kernel_rfl
theorem tl4_13 : tl Try.f4 13 = Code.seq (st Try.f4 13) (tl Try.f4 14) := by kernel_rfl
theorem tl4_14 : tl Try.f4 14 = Code.seq (st Try.f4 14) (tl Try.f4 15) := by kernel_rfl
theorem tl4_15 : tl Try.f4 15 = Code.seq (st Try.f4 15) (tl Try.f4 16) := by kernel_rfl
theorem tl4_16 : tl Try.f4 16 = Code.seq (st Try.f4 16) (tl Try.f4 17) := by kernel_rfl
theorem tl4_17 : tl Try.f4 17 = Code.seq (st Try.f4 17) (tl Try.f4 18) := by kernel_rfl
theorem tl4_18 : tl Try.f4 18 = Code.seq (st Try.f4 18) (tl Try.f4 19) := by kernel_rfl
theorem tl4_19 : tl Try.f4 19 = Code.seq (st Try.f4 19) (tl Try.f4 20) := by kernel_rfl
theorem tl4_20 : tl Try.f4 20 = Code.seq (st Try.f4 20) (tl Try.f4 21) := by kernel_rfl
theorem tl4_21 : tl Try.f4 21 = Code.seq (st Try.f4 21) (tl Try.f4 22) := by kernel_rfl
theorem tl4_22 : tl Try.f4 22 = Code.seq (st Try.f4 22) (tl Try.f4 23) := by kernel_rfl
theorem tl4_23 : tl Try.f4 23 = Code.seq (st Try.f4 23) (tl Try.f4 24) := by kernel_rfl
theorem tl4_24 : tl Try.f4 24 = Code.seq (st Try.f4 24) (tl Try.f4 25) := by kernel_rfl
theorem tl4_25 : tl Try.f4 25 = Code.seq (st Try.f4 25) (tl Try.f4 26) := by kernel_rfl
end Go.Proofs.Qxb6626314a
