/-
  Seat b6625890a: zzCloneState, statement by statement. Frames written by program.
-/
import Derived.Test.Qxb6625890aL
import Derived.BigRegion
namespace Go.Proofs.Qxb6625890a
open Go.RowKit Go.Maps
set_option linter.unusedVariables false
attribute [local go_sem] neNil22 neNil23 neNil24 neNil26

def QC (R : Value → World → Prop) : Exit → Act → World → Prop := bodyPost Try.prog Try.f7 (fun e w' => ∃ v, e = .returned v ∧ R v w')

theorem grown_setCell' {w : World} (g j : Nat) (v : Value) : w.grownBy (w.setCell ⟨g, j, none⟩ v) (some g) :=
  ⟨rfl, rfl, rfl, by simp, fun k _ hk => Below.heap_setCell w ⟨g, j, none⟩ v k (fun e => hk (by rw [e]))⟩
theorem OnlyT.mono {T T' : TypeId → Prop} {w w' : World} (h : OnlyT T w w') (ht : ∀ e, T e → T' e) : OnlyT T' w w' := ⟨h.os, h.tape, h.output, h.size, fun b c e fr hb hn => h.cells b c e fr hb (fun hh => hn (ht e hh))⟩

/-- The copied entries: the same keys and numbers; each slice owns its row; no two lie in one row. -/
structure CopyOf (w : World) (B : Nat) (des des' : List DEnt) : Prop where
  len : des'.length ≤ des.length
  key : ∀ i, i < des'.length → (des'.getD i d0).key = (des.getD i d0).key ∧ (des'.getD i d0).zs = (des.getD i d0).zs
  own : ∀ i, i < des'.length → w.ownsRow B 21 1 (.slice (des'.getD i d0).ad (des'.getD i d0).zs.length (des'.getD i d0).cap) (des'.getD i d0).zs.length (ints (des'.getD i d0).zs)
  dis : ∀ i j, i < des'.length → j < des'.length → i ≠ j → ∀ a, (des'.getD i d0).ad = some a → ∀ b, (des'.getD j d0).ad = some b → a.block ≠ b.block
theorem CopyOf.nil (w : World) (B : Nat) (des : List DEnt) : CopyOf w B des [] := ⟨Nat.zero_le _, fun i h => by simp at h, fun i h => by simp at h, fun i j h => by simp at h⟩
theorem row_base {w : World} {base b2 : Nat} {e : TypeId} {size : Nat} {v : Value} {n : Nat} {xs : List Value} (h : w.ownsRow base e size v n xs) (hb : b2 ≤ base) : w.ownsRow b2 e size v n xs := by
  refine ⟨h.1, ?_⟩
  rcases h.2 with h' | ⟨g, cap, cur, h1, h2, h3⟩
  · exact Or.inl h'
  · exact Or.inr ⟨g, cap, cur, h1, Nat.le_trans hb h2, h3⟩
theorem row_ge {w : World} {base : Nat} {e : TypeId} {size : Nat} {a : Addr} {m cp n : Nat} {xs : List Value} (h : w.ownsRow base e size (.slice (some a) m cp) n xs) : base ≤ a.block ∧ a.block < w.heap.size := by
  rcases h.2 with ⟨h', _⟩ | ⟨g, cap, cur, h1, h2, h3, _⟩
  · cases h'
  · cases h1
    exact ⟨h2, (Array.getElem?_eq_some_iff.1 h3).1⟩
theorem getD_push_lt {α : Type} (l : List α) (x d : α) (i : Nat) (h : i < l.length) : (l ++ [x]).getD i d = l.getD i d := by
  rw [List.getD_eq_getElem?_getD, List.getD_eq_getElem?_getD, List.getElem?_append_left h]
theorem getD_push_eq {α : Type} (l : List α) (x d : α) : (l ++ [x]).getD l.length d = x := by
  rw [List.getD_eq_getElem?_getD, List.getElem?_append_right (Nat.le_refl _)]; simp
theorem CopyOf.push {wr w2 w3 : World} {B : Nat} {des des' : List DEnt} {o : Option Addr} {cp : Nat} (h : CopyOf wr B des des') (hk : des'.length < des.length) (hb2 : Below wr.heap.size wr w2)
    (hown : w2.ownsRow wr.heap.size 21 1 (.slice o (des.getD des'.length d0).zs.length cp) (des.getD des'.length d0).zs.length (ints (des.getD des'.length d0).zs)) (hO : OnlyT (fun e => e = 58) w2 w3) (hB : B ≤ wr.heap.size) :
    CopyOf w3 B des (des' ++ [⟨(des.getD des'.length d0).key, o, cp, (des.getD des'.length d0).zs⟩]) := by
  refine ⟨by simp; omega, ?_, ?_, ?_⟩
  · intro i hi
    by_cases e : i < des'.length
    · rw [getD_push_lt _ _ _ _ e]; exact h.key i e
    · obtain rfl : i = des'.length := by simp at hi; omega
      rw [getD_push_eq]; exact ⟨rfl, rfl⟩
  · intro i hi
    by_cases e : i < des'.length
    · rw [getD_push_lt _ _ _ _ e]; exact hO.row (row_below (h.own i e) hb2) (by decide)
    · obtain rfl : i = des'.length := by simp at hi; omega
      rw [getD_push_eq]; exact hO.row (row_base hown hB) (by decide)
  · have old : ∀ i, i < des'.length → ∀ a, (des'.getD i d0).ad = some a → a.block < wr.heap.size := fun i hi a ha => by
      have := h.own i hi
      rw [ha] at this
      exact (row_ge this).2
    have new : ∀ a, o = some a → wr.heap.size ≤ a.block := fun a ha => by rw [ha] at hown; exact (row_ge hown).1
    intro i j hi hj hne a ha b hb
    by_cases e : i < des'.length
    · rw [getD_push_lt _ _ _ _ e] at ha
      by_cases e' : j < des'.length
      · rw [getD_push_lt _ _ _ _ e'] at hb; exact h.dis i j e e' hne a ha b hb
      · obtain rfl : j = des'.length := by simp at hj; omega
        rw [getD_push_eq] at hb
        have h1 := old i e a ha
        have h2 := new b hb
        omega
    · obtain rfl : i = des'.length := by simp at hi; omega
      rw [getD_push_eq] at ha
      have e' : j < des'.length := by simp at hj; omega
      rw [getD_push_lt _ _ _ _ e'] at hb
      have h1 := old j e' b hb
      have h2 := new a ha
      omega
theorem row_two {w : World} {base : Nat} {e : TypeId} {g m cp k : Nat} {xs : List Value} (h : w.ownsRow base e 2 (.slice (some ⟨g, 0, none⟩) m cp) m xs) (hk : k < m) : ∃ y1 y2, w.cell? ⟨g, k * 2, none⟩ = some y1 ∧ w.cell? ⟨g, k * 2 + 1, none⟩ = some y2 := by
  have hl := h.1
  exact ⟨xs[k * 2]'(by omega), xs[k * 2 + 1]'(by omega), by rw [h.cellAt (k * 2) (by omega), List.getElem?_eq_getElem], by rw [h.cellAt (k * 2 + 1) (by omega), List.getElem?_eq_getElem]⟩
theorem wp_shade {P : Program} {c : Code} {Q : Exit → Act → World → Prop} {a : Act} {w : World} (h : ∀ K : Act → World → Prop, (∀ a w, Q .normal a w → K a w) → Code.wp P c (fun e a w => e = .normal ∧ K a w) a w) : Code.wp P c Q a w :=
  Code.wp_mono (fun e a w hh => by obtain ⟨rfl, h2⟩ := hh; exact h2) (h (fun a w => Q .normal a w) (fun _ _ h => h))
theorem cell_set2 {w : World} {b g i j off : Nat} {v v' x : Value} (h : w.cell? ⟨b, off, none⟩ = some x) (n : b ≠ g) : ((w.setCell ⟨g, i, none⟩ v).setCell ⟨g, j, none⟩ v').cell? ⟨b, off, none⟩ = some x :=
  (World.cell?_of_block ((Below.heap_setCell _ ⟨g, j, none⟩ v' b (fun e => n e)).trans (Below.heap_setCell w ⟨g, i, none⟩ v b (fun e => n e)))).trans h
theorem flatD_push (l : List DEnt) (d : DEnt) : flatD (l ++ [d]) = flatD l ++ dcell d := by simp [flatD]
theorem tl7_0 : tl Try.f7 0 = Code.seq (st Try.f7 0) (tl Try.f7 1) := by kernel_rfl
theorem tl7_1 : tl Try.f7 1 = Code.seq (st Try.f7 1) (tl Try.f7 2) := by kernel_rfl
theorem tl7_2 : tl Try.f7 2 = Code.seq (st Try.f7 2) (tl Try.f7 3) := by kernel_rfl
theorem tl7_3 : tl Try.f7 3 = Code.seq (st Try.f7 3) (tl Try.f7 4) := by kernel_rfl
theorem tl7_4 : tl Try.f7 4 = Code.seq (st Try.f7 4) (tl Try.f7 5) := by kernel_rfl
theorem tl7_5 : tl Try.f7 5 = Code.seq (st Try.f7 5) (tl Try.f7 6) := by kernel_rfl
theorem tl7_6 : tl Try.f7 6 = Code.seq (st Try.f7 6) (tl Try.f7 7) := by kernel_rfl
theorem tl7_7 : tl Try.f7 7 = Code.seq (st Try.f7 7) (tl Try.f7 8) := by kernel_rfl

set_option maxRecDepth 100000 in
set_option maxHeartbeats 2000000 in
theorem cl7 {w w0 : World} (B bst bres bout : Nat) (ae : Option Addr) (ce : Nat) (ai : Option Addr) (ci : Nat) (ar : Option Addr) (cr : Nat) (c0 c1 c2 c3 : Bool) (ad : Option Addr) (cd : Nat) (ends : List Int) (items reads : List (Int × Int)) (des : List DEnt) (x0 x1 x2 x4 : Value) (des' : List DEnt) (u0 u4 u5 u6 u7 u8 u9 u10 u11 u12 u13 u14 u15 u16 u17 u18 u19 u20 u21 u22 u23 u24 u25 u26 u27 u28 u29 u30 u31 u32 u33 u34 u35 u36 u37 u38 u39 u40 u41 u42 u43 u44 u45 u46 u47 u48 u49 u50 u51 u52 u53 u54 u55 u56 u57 u58 u59 u60 u61 u62 u63 u64 u65 u66 u67 u68 u69 u70 u71 u72 u73 u74 u75 u76 u77 u78 u79 u80 u81 u82 u83 u84 u85 u86 u87 u88 u89 u90 u91 u92 u93 u94 u95 u96 u97 u98 u99 u100 u101 u102 u103 u104 u105 u106 u107 u108 u109 u110 u111 u112 u113 u114 u115 u116 : Value) (R : Value → World → Prop)
    (hst : w.heap[bst]? = some (.cells (zcells ae ends.length ce ai items.length ci ar reads.length cr c0 c1 c2 c3 ad des.length cd) 28 (0, 0))) (hbo : w.heap[bout]? = some (.cells #[x0, x1, x2, .bool c0, .bool c1, .bool c2, .bool c3, x4] 28 (0, 0))) (hrs : w.heap[bres]? = some (.cells #[.slice none 0 0, .slice none 0 0, .slice none 0 0, .bool false, .bool false, .bool false, .bool false, .slice none 0 0] 28 (0, 0))) (o1 : bst < bres) (o2 : bres < bout) (o3 : B ≤ bst) (hB : B = w0.heap.size) (hZ : ZV w0 ae ai ar ad ends items reads des) (l1 : ends.length ≤ 1048576) (l2 : items.length ≤ 1048576) (l3 : reads.length ≤ 1048576) (l4 : des.length ≤ 1048576) (l5 : ∀ x ∈ des, x.zs.length ≤ 1048576) (hb : Below B w0 w) (hD4 : w.ownsRow B 58 2 x4 des.length (flatD des')) (hCO : CopyOf w B des des') (hCL : des'.length = des.length) (hD0 : w.ownsRow B 5 1 x0 ends.length (bytes ends)) (hD1 : w.ownsRow B 49 2 x1 items.length (flat items)) (hD2 : w.ownsRow B 53 2 x2 reads.length (flat reads)) (hR : ∀ w' x4 des', des'.length = des.length → w'.ownsRow B 58 2 x4 des.length (flatD des') → CopyOf w' B des des' → w'.ownsRow B 5 1 x0 ends.length (bytes ends) → w'.ownsRow B 49 2 x1 items.length (flat items) → w'.ownsRow B 53 2 x2 reads.length (flat reads) → Below B w0 w' → R (.agg #[x0, x1, x2, .bool c0, .bool c1, .bool c2, .bool c3, x4]) w') :
    Code.wp Try.prog (tl Try.f7 7) (QC R) ⟨#[u0, .pointer (some ⟨bst, 0, none⟩), .pointer (some ⟨bres, 0, none⟩), .pointer (some ⟨bout, 0, none⟩), u4, u5, u6, u7, u8, u9, u10, u11, u12, u13, u14, u15, u16, u17, u18, u19, u20, u21, u22, u23, u24, u25, u26, u27, u28, u29, u30, u31, u32, u33, u34, u35, u36, u37, u38, u39, u40, u41, u42, u43, u44, u45, u46, u47, u48, u49, u50, u51, u52, u53, u54, u55, u56, u57, u58, u59, u60, u61, u62, u63, u64, u65, u66, u67, u68, u69, u70, u71, u72, u73, u74, u75, u76, u77, u78, u79, u80, u81, u82, u83, u84, u85, u86, u87, u88, u89, u90, u91, u92, u93, u94, u95, u96, u97, u98, u99, u100, u101, u102, u103, u104, u105, u106, u107, u108, u109, u110, u111, u112, u113, u114, u115, u116], []⟩ w := by
  have k0 : w.cell? ⟨bout, 0, none⟩ = some x0 := cell_blk hbo rfl
  have k1 : w.cell? ⟨bout, 1, none⟩ = some x1 := cell_blk hbo rfl
  have k2 : w.cell? ⟨bout, 2, none⟩ = some x2 := cell_blk hbo rfl
  have k3 : w.cell? ⟨bout, 3, none⟩ = some (.bool c0) := cell_blk hbo rfl
  have k4 : w.cell? ⟨bout, 4, none⟩ = some (.bool c1) := cell_blk hbo rfl
  have k5 : w.cell? ⟨bout, 5, none⟩ = some (.bool c2) := cell_blk hbo rfl
  have k6 : w.cell? ⟨bout, 6, none⟩ = some (.bool c3) := cell_blk hbo rfl
  have k7 : w.cell? ⟨bout, 7, none⟩ = some x4 := cell_blk hbo rfl
  obtain ⟨a0, p0, e0⟩ := row_shape hD0
  obtain ⟨a1, p1, e1⟩ := row_shape hD1
  obtain ⟨a2, p2, e2⟩ := row_shape hD2
  obtain ⟨a4, p4, e4⟩ := row_shape hD4
  have r0 : w.cell? ⟨bres, 0, none⟩ = some (.slice none 0 0) := cell_blk hrs rfl
  have r1 : w.cell? ⟨bres, 1, none⟩ = some (.slice none 0 0) := cell_blk hrs rfl
  have r2 : w.cell? ⟨bres, 2, none⟩ = some (.slice none 0 0) := cell_blk hrs rfl
  have r3 : w.cell? ⟨bres, 3, none⟩ = some (.bool false) := cell_blk hrs rfl
  have r4 : w.cell? ⟨bres, 4, none⟩ = some (.bool false) := cell_blk hrs rfl
  have r5 : w.cell? ⟨bres, 5, none⟩ = some (.bool false) := cell_blk hrs rfl
  have r6 : w.cell? ⟨bres, 6, none⟩ = some (.bool false) := cell_blk hrs rfl
  have r7 : w.cell? ⟨bres, 7, none⟩ = some (.slice none 0 0) := cell_blk hrs rfl
  have g : ∀ j, w.frozen? ⟨bres, j, none⟩ = false := fun j => frozen_of_row w bres j _ _ hrs
  have g0 := g 0
  have g1 := g 1
  have g2 := g 2
  have g3 := g 3
  have g4 := g 4
  have g5 := g 5
  have g6 := g 6
  have g7 := g 7
  obtain ⟨wf, hwf⟩ : ∃ wf, wf = (((((((w.setCell ⟨bres, 0, none⟩ x0).setCell ⟨bres, 1, none⟩ x1).setCell ⟨bres, 2, none⟩ x2).setCell ⟨bres, 3, none⟩ (.bool c0)).setCell ⟨bres, 4, none⟩ (.bool c1)).setCell ⟨bres, 5, none⟩ (.bool c2)).setCell ⟨bres, 6, none⟩ (.bool c3)).setCell ⟨bres, 7, none⟩ x4 := ⟨_, rfl⟩
  have s1 := (OnlyT.refl (fun e => e = 28) w).setCell (j := 0) hrs rfl x0
  have q1 := blk_set (i := 0) x0 hrs
  have s2 := s1.setCell (j := 1) q1 rfl x1
  have q2 := blk_set (i := 1) x1 q1
  have s3 := s2.setCell (j := 2) q2 rfl x2
  have q3 := blk_set (i := 2) x2 q2
  have s4 := s3.setCell (j := 3) q3 rfl (.bool c0)
  have q4 := blk_set (i := 3) (.bool c0) q3
  have s5 := s4.setCell (j := 4) q4 rfl (.bool c1)
  have q5 := blk_set (i := 4) (.bool c1) q4
  have s6 := s5.setCell (j := 5) q5 rfl (.bool c2)
  have q6 := blk_set (i := 5) (.bool c2) q5
  have s7 := s6.setCell (j := 6) q6 rfl (.bool c3)
  have q7 := blk_set (i := 6) (.bool c3) q6
  have s8 := s7.setCell (j := 7) q7 rfl x4
  have hbf : Below B w0 wf := by
    rw [hwf]
    exact (((((((hb.setCell (by show B ≤ bres; omega) _).setCell (by show B ≤ bres; omega) _).setCell (by show B ≤ bres; omega) _).setCell (by show B ≤ bres; omega) _).setCell (by show B ≤ bres; omega) _).setCell (by show B ≤ bres; omega) _).setCell (by show B ≤ bres; omega) _).setCell (by show B ≤ bres; omega) _
  rw [← hwf] at s8
  have hfin := hR wf x4 des' hCL (s8.row hD4 (by decide)) ⟨hCO.len, hCO.key, fun i hi => s8.row (hCO.own i hi) (by decide), hCO.dis⟩ (s8.row hD0 (by decide)) (s8.row hD1 (by decide)) (s8.row hD2 (by decide)) hbf
  have HFIN : Hid _ := hfin
  have HWF : Hid _ := hwf
  subst e0 e1 e2 e4
  clear hfin hwf s1 s2 s3 s4 s5 s6 s7 s8 q1 q2 q3 q4 q5 q6 q7 hbf hR hCO hD0 hD1 hD2 hD4 hZ hst hbo hrs g hb
  conv => arg 2; whnf
  unfold QC
  have o4 : bres ≠ bout := by omega
  go_wp2_with fail
  simp [bodyPost, results, Try.results7, go_sem, r0, r1, r2, r3, r4, r5, r6, r7]
  have := HFIN.out
  rw [HWF.out] at this
  exact this

set_option maxRecDepth 100000 in
set_option maxHeartbeats 2000000 in
theorem cl6 {w w0 : World} (B bst bres bout : Nat) (ae : Option Addr) (ce : Nat) (ai : Option Addr) (ci : Nat) (ar : Option Addr) (cr : Nat) (c0 c1 c2 c3 : Bool) (ad : Option Addr) (cd : Nat) (ends : List Int) (items reads : List (Int × Int)) (des : List DEnt) (x0 x1 x2 : Value) (u0 u4 u5 u6 u7 u8 u9 u10 u11 u12 u13 u14 u15 u16 u17 u18 u19 u20 u21 u22 u23 u24 u25 u26 u27 u28 u29 u30 u31 u32 u33 u34 u35 u36 u37 u38 u39 u40 u41 u42 u43 u44 u45 u46 u47 u48 u49 u50 u51 u52 u53 u54 u55 u56 u57 u58 u59 u60 u61 u62 u63 u64 u65 u66 u67 u68 u69 u70 u71 u72 u73 u74 u75 u76 u77 u78 u79 u80 u81 u82 u83 u84 u85 u86 u87 u88 u89 u90 u91 u92 u93 u94 u95 u96 u97 u98 u99 u100 u101 u102 u103 u104 u105 u106 u107 u108 u109 u110 u111 u112 u113 u114 u115 u116 : Value) (R : Value → World → Prop)
    (hst : w.heap[bst]? = some (.cells (zcells ae ends.length ce ai items.length ci ar reads.length cr c0 c1 c2 c3 ad des.length cd) 28 (0, 0))) (hbo : w.heap[bout]? = some (.cells #[x0, x1, x2, .bool c0, .bool c1, .bool c2, .bool c3, .slice none 0 0] 28 (0, 0))) (hrs : w.heap[bres]? = some (.cells #[.slice none 0 0, .slice none 0 0, .slice none 0 0, .bool false, .bool false, .bool false, .bool false, .slice none 0 0] 28 (0, 0))) (o1 : bst < bres) (o2 : bres < bout) (o3 : B ≤ bst) (hB : B = w0.heap.size) (hZ : ZV w0 ae ai ar ad ends items reads des) (l1 : ends.length ≤ 1048576) (l2 : items.length ≤ 1048576) (l3 : reads.length ≤ 1048576) (l4 : des.length ≤ 1048576) (l5 : ∀ x ∈ des, x.zs.length ≤ 1048576) (hb : Below B w0 w) (hD0 : w.ownsRow B 5 1 x0 ends.length (bytes ends)) (hD1 : w.ownsRow B 49 2 x1 items.length (flat items)) (hD2 : w.ownsRow B 53 2 x2 reads.length (flat reads)) (hR : ∀ w' x4 des', des'.length = des.length → w'.ownsRow B 58 2 x4 des.length (flatD des') → CopyOf w' B des des' → w'.ownsRow B 5 1 x0 ends.length (bytes ends) → w'.ownsRow B 49 2 x1 items.length (flat items) → w'.ownsRow B 53 2 x2 reads.length (flat reads) → Below B w0 w' → R (.agg #[x0, x1, x2, .bool c0, .bool c1, .bool c2, .bool c3, x4]) w') :
    Code.wp Try.prog (tl Try.f7 6) (QC R) ⟨#[u0, .pointer (some ⟨bst, 0, none⟩), .pointer (some ⟨bres, 0, none⟩), .pointer (some ⟨bout, 0, none⟩), u4, u5, u6, u7, u8, u9, u10, u11, u12, u13, u14, u15, u16, u17, u18, u19, u20, u21, u22, u23, u24, u25, u26, u27, u28, u29, u30, u31, u32, u33, u34, u35, u36, u37, u38, u39, u40, u41, u42, u43, u44, u45, u46, u47, u48, u49, u50, u51, u52, u53, u54, u55, u56, u57, u58, u59, u60, u61, u62, u63, u64, u65, u66, u67, u68, u69, u70, u71, u72, u73, u74, u75, u76, u77, u78, u79, u80, u81, u82, u83, u84, u85, u86, u87, u88, u89, u90, u91, u92, u93, u94, u95, u96, u97, u98, u99, u100, u101, u102, u103, u104, u105, u106, u107, u108, u109, u110, u111, u112, u113, u114, u115, u116], []⟩ w := by
  obtain ⟨i0, hi, hz0, hz1, hz2⟩ := info_parts Try.info58
  have k1 : w.cell? ⟨bst, 7, none⟩ = some (.slice ad des.length cd) := cell_blk hst rfl
  have k2 : w.cell? ⟨bout, 7, none⟩ = some (.slice none 0 0) := cell_blk hbo rfl
  have f2 := frozen_of_row w bout 7 _ _ hbo
  have hcl : (flatD des).length = des.length * 2 := flatD_len des
  have hbS := hb.size
  have HRR : Hid _ := hR
  clear hR
  rw [tl7_6]
  refine wp_seq_k (fun K hK => ?_)
  conv => arg 2; whnf
  cases ad with
  | none =>
    have hnil : des = [] := by
      by_cases h : des = []
      · exact h
      · obtain ⟨b, off, e, _⟩ := hZ.d (by intro e; rw [e] at hcl; simp only [List.length_nil] at hcl; exact h (List.eq_nil_of_length_eq_zero (by omega)))
        cases e
    have hD : w.ownsRow B 58 2 (.slice none 0 0) des.length (flatD []) := by rw [hnil]; exact World.ownsRow_nil _ _ _ _
    go_wp2_with fail
    exact cl7 _ _ _ _ _ _ _ _ _ _ _ _ _ _ _ _ _ _ _ _ _ _ _ _ _ _ _ _ _ _ _ _ _ _ _ _ _ _ _ _ _ _ _ _ _ _ _ _ _ _ _ _ _ _ _ _ _ _ _ _ _ _ _ _ _ _ _ _ _ _ _ _ _ _ _ _ _ _ _ _ _ _ _ _ _ _ _ _ _ _ _ _ _ _ _ _ _ _ _ _ _ _ _ _ _ _ _ _ _ _ _ _ _ _ _ _ _ _ _ _ _ _ _ _ _ _ _ _ _ _ _ _ _ _ _ _ _ _ _ _  hst hbo hrs o1 o2 o3 hB hZ l1 l2 l3 l4 l5 hb hD (CopyOf.nil _ _ _) (by rw [hnil]) hD0 hD1 hD2 HRR.out
  | some ad0 =>
    go_wp2_with (at_make; go_must (refine wpList_make_full _ rfl _ _ 26 rfl B 58 i0 (.agg #[.int .i32 0, .slice none 0 0]) 2 Try.underlying26 hi hz0 hz1 .i64 .i64 _ _ des.length rfl rfl rfl rfl (by rw [hz2]; omega) (by unfold maxLen; omega) (Nat.le_trans (by omega) hb.size) ?_; intro w1 hown1 hgrow1; have hb1 := below_of_grown hgrow1; have k1' := cell_later hb1 k1; have k2' := cell_later hb1 k2; have hbo1 := blk_kept hgrow1 hbo (by simp); have f2' := frozen_of_row w1 bout 7 _ _ hbo1))
    have hst1 := blk_kept hgrow1 hst (by simp)
    have hrs1 := blk_kept hgrow1 hrs (by simp)
    have hgw : bout < w.heap.size := (Array.getElem?_eq_some_iff.1 hbo).1
    have hs1 := grown_setCell' (w := w1) bout 7 (.slice (some ⟨w.heap.size, 0, none⟩) des.length des.length)
    have hbo2 := blk_set (i := 7) (.slice (some ⟨w.heap.size, 0, none⟩) des.length des.length) hbo1
    have hst2 := blk_kept hs1 hst1 (by simp; omega)
    have hrs2 := blk_kept hs1 hrs1 (by simp; omega)
    have hown2 : (w1.setCell ⟨bout, 7, none⟩ (.slice (some ⟨w.heap.size, 0, none⟩) des.length des.length)).ownsRow B 58 2 (.slice (some ⟨w.heap.size, 0, none⟩) des.length des.length) des.length _ := row_kept hown1 hs1 (fun g hv => by simp [Value.ownBlock] at hv; simp; omega)
    have hO : OnlyT (fun e => e = 58 ∨ e = 28) w (w1.setCell ⟨bout, 7, none⟩ (.slice (some ⟨w.heap.size, 0, none⟩) des.length des.length)) := (OnlyT.of_below hb1).setCell hbo1 (Or.inr rfl) _
    have hbB : Below B w0 (w1.setCell ⟨bout, 7, none⟩ (.slice (some ⟨w.heap.size, 0, none⟩) des.length des.length)) := (hb.trans (hb1.mono (by omega))).setCell (by show B ≤ bout; omega) _
    have HK1 : Hid _ := hst2
    have HK2 : Hid _ := hbo2
    have HK3 : Hid _ := hrs2
    have HO : Hid _ := hO
    have HOWN : Hid _ := hown2
    have HBB : Hid _ := hbB
    have HDD : Hid _ := And.intro hD0 (And.intro hD1 hD2)
    clear hown1 hgrow1 hb1 k1' k2' hbo1 f2' hst1 hrs1 hs1 hbo2 hst2 hrs2 hown2 hO hbB k1 k2 f2 hst hbo hrs hi hz0 hz1 hz2 hD0 hD1 hD2
    obtain ⟨wB, hwB⟩ : ∃ wB, wB = w1.setCell ⟨bout, 7, none⟩ (.slice (some ⟨w.heap.size, 0, none⟩) des.length des.length) := ⟨_, rfl⟩
    rw [← hwB] at HK1 HK2 HK3 HO HOWN HBB ⊢
    clear hwB
    go_loopw [7] (fun i wr => ∃ (k : Nat) (xs : List Value) (des' : List DEnt), k ≤ des.length ∧ des'.length = k ∧ i = .int .i64 k ∧ wr.ownsRow B 58 2 (.slice (some ⟨w.heap.size, 0, none⟩) des.length des.length) des.length xs ∧ (∀ j, j < k * 2 → xs[j]? = (flatD des')[j]?) ∧ CopyOf wr B des des' ∧ OnlyT (fun e => e = 58) wB wr ∧ Below B w0 wr) (fun i _ => des.length - (intOf i).toNat)
    case atStart => exact ⟨0, _, [], Nat.zero_le _, rfl, rfl, HOWN.out, fun j hj => by omega, CopyOf.nil _ _ _, OnlyT.refl _ _, HBB.out⟩
    case round =>
      obtain ⟨k, xs, des', hk, hdl, rfl, hown, hxs, hCO, hOr, hbr⟩ := hrel
      have hxl : xs.length = des.length * 2 := hown.1
      have hst3 := hOr.cells _ _ _ _ HK1.out (by decide)
      have hbo3 := hOr.cells _ _ _ _ HK2.out (by decide)
      have hrs3 := hOr.cells _ _ _ _ HK3.out (by decide)
      have k1 : wr.cell? ⟨bst, 7, none⟩ = some (.slice (some ad0) des.length cd) := cell_blk hst3 rfl
      by_cases hlt : k < des.length
      · have k2 : wr.cell? ⟨bout, 7, none⟩ = some (.slice (some ⟨w.heap.size, 0, none⟩) des.length des.length) := cell_blk hbo3 rfl
        obtain ⟨b, off, e0, hc⟩ := (hZ.d.below (hB ▸ hbr)).at (show k * 2 < (flatD des).length by omega)
        cases e0
        have hlt' : (k : Int) < (des.length : Int) := by omega
        have hlt0 : (0 : Int) ≤ (k : Int) := by omega
        have c1 : wr.cell? ⟨b, off + k * 2, none⟩ = some (.int .i32 (des.getD k d0).key) := by rw [hc (k * 2) (by omega)]; exact flatD_key des k hlt
        have c2 : wr.cell? ⟨b, off + k * 2 + 1, none⟩ = some (.slice (des.getD k d0).ad (des.getD k d0).zs.length (des.getD k d0).cap) := by rw [Nat.add_assoc, hc (k * 2 + 1) (by omega)]; exact flatD_val des k hlt
        have hm : des.getD k d0 ∈ des := by rw [List.getD_eq_getElem?_getD, List.getElem?_eq_getElem hlt]; exact List.getElem_mem _
        have hsl : Sl wr.drew (des.getD k d0).ad (ints (des.getD k d0).zs) := ((hZ.v _ hm).below (hB ▸ (Below.drew hbr)))
        have hcall := copyInts_any (des.getD k d0).ad (des.getD k d0).cap (des.getD k d0).zs wr.drew hsl (Nat.le_trans (l5 _ hm) (by omega))
        have hbw : w.heap.size < wr.heap.size := by have := row_ge hown; exact this.2
        have hblt : b < w0.heap.size := by
          obtain ⟨b', off', e', hc'⟩ := hZ.d.at (show k * 2 < (flatD des).length by omega)
          cases e'
          have := hc' (k * 2) (by omega)
          rw [flatD_key des k hlt] at this
          exact World.block_lt_of_cell? w0 _ this
        have n1 : b ≠ w.heap.size := by omega
        have n2 : bst ≠ w.heap.size := by omega
        have n3 : bout ≠ w.heap.size := by omega
        have HXL : Hid _ := hlt
        have HST : Hid _ := And.intro hst3 (And.intro hbo3 hrs3)
        have HOr : Hid _ := hOr
        have HX : Hid _ := hxs
        have HOW : Hid _ := hown
        have HBR : Hid _ := hbr
        have HCO : Hid _ := hCO
        have HDL : Hid _ := hdl
        have HCALL : Hid _ := hcall
        clear hown hxs hOr hbr hc HK1 HK2 HK3 HO HOWN HBB hst3 hbo3 hrs3 hZ hCO hcall hsl hdl
        generalize hg : des.getD k d0 = gd at *
        go_wp2_with fail
        refine wp_shade (fun KK hKK => ?_)
        have HKK : Hid _ := hKK
        clear hKK
        go_region_held3 (fun w' => w'.cell? ⟨bst, 7, none⟩ = some (.slice (some ⟨b, off, none⟩) des.length cd) ∧ w'.cell? ⟨bout, 7, none⟩ = some (.slice (some ⟨w.heap.size, 0, none⟩) des.length des.length) ∧ w'.cell? ⟨b, off + k * 2, none⟩ = some (.int .i32 gd.key) ∧ w'.cell? ⟨b, off + k * 2 + 1, none⟩ = some (.slice gd.ad gd.zs.length gd.cap))
          (first
            | go_keep
            | (exact ⟨cell_later hb2 k1, cell_later hb2 k2, cell_later hb2 c1, cell_later hb2 c2⟩)
            | (exact ⟨cell_set2 (cell_later hb2 k1) n2, cell_set2 (cell_later hb2 k2) n3, cell_set2 (cell_later hb2 c1) n1, cell_set2 (cell_later hb2 c2) n1⟩))
          ((go_at_call 20; refine Calls.mono HCALL.out ?_; rintro e w2 ⟨o, cp, rfl, hown2, hb2⟩; have hrow2 := row_below (World.ownsRow.drew HOW.out) hb2; obtain ⟨y1, y2, d1, d2⟩ := row_two hrow2 HXL.out; have g1 := hrow2.frozenAt (k * 2); have g2 := hrow2.frozenAt (k * 2 + 1)))
        refine ⟨rfl, HKK.out _ _ ?_⟩
        clear HKK KK
        have S1 := (hrow2.stored (k * 2) (.int .i32 gd.key)).1
        have S2 := (S1.stored (k * 2 + 1) (.slice o gd.zs.length cp)).1
        obtain ⟨cur, hcur⟩ := row_tag hrow2 w.heap.size rfl
        have hcur2 := blk_set (i := k * 2) (.int .i32 gd.key) hcur
        have hO23 : OnlyT (fun e => e = 58) w2 ((w2.setCell ⟨w.heap.size, k * 2, none⟩ (.int .i32 gd.key)).setCell ⟨w.heap.size, k * 2 + 1, none⟩ (.slice o gd.zs.length cp)) := ((OnlyT.refl (fun e => e = 58) w2).setCell (j := k * 2) hcur rfl (.int .i32 gd.key)).setCell (j := k * 2 + 1) hcur2 rfl (.slice o gd.zs.length cp)
        have hP := CopyOf.push HCO.out (by rw [HDL.out]; exact hlt) (Below.mono (Below.trans (below_drewN (Below.refl _ _) 1) hb2) (Nat.le_refl _)) (by rw [HDL.out, hg]; exact hown2) hO23 (by omega)
        rw [HDL.out, hg] at hP
        have hO3 := (HOr.out.drew.trans (OnlyT.of_below hb2)).trans hO23
        have hb3 : Below B w0 ((w2.setCell ⟨w.heap.size, k * 2, none⟩ (.int .i32 gd.key)).setCell ⟨w.heap.size, k * 2 + 1, none⟩ (.slice o gd.zs.length cp)) := ((HBR.out.drew.trans (hb2.mono (by show B ≤ wr.heap.size; omega))).setCell (by show B ≤ w.heap.size; omega) _).setCell (by show B ≤ w.heap.size; omega) _
        have hX2 : ∀ j, j < (k + 1) * 2 → ((xs.set (k * 2) (.int .i32 gd.key)).set (k * 2 + 1) (.slice o gd.zs.length cp))[j]? = (flatD (des' ++ [⟨gd.key, o, cp, gd.zs⟩]))[j]? := by
          intro j hj
          rw [flatD_push, List.getElem?_set]
          have hfl : (flatD des').length = k * 2 := by rw [flatD_len, HDL.out]
          by_cases e : k * 2 + 1 = j
          · subst e; rw [if_pos rfl, if_pos (by simp; omega), List.getElem?_append_right (by omega), hfl, Nat.add_sub_cancel_left]; rfl
          · rw [if_neg e, List.getElem?_set]
            by_cases e' : k * 2 = j
            · subst e'; rw [if_pos rfl, if_pos (by omega), List.getElem?_append_right (by omega), hfl, Nat.sub_self]; rfl
            · rw [if_neg e', List.getElem?_append_left (by omega)]; exact HX.out j (by omega)
        have H1 : Hid _ := S2
        have H2 : Hid _ := hX2
        have H3 : Hid _ := hP
        have H4 : Hid _ := hO3
        have H5 : Hid _ := hb3
        clear S1 S2 hcur hcur2 hO23 hP hO3 hb3 hX2 hrow2 d1 d2 g1 g2 hown2 hb2 k1 k2 c1 c2 HCALL HCO HOr HBR HOW HX
        go_wp2_with fail
        go_roundw
        case rel => exact ⟨k + 1, _, _, by omega, by simp; exact HDL.out, by go_num, H1.out, H2.out, H3.out, H4.out, H5.out⟩
        case measure => simp [intOf]; omega
      · obtain rfl : k = des.length := by omega
        have hfin : xs = flatD des' := fill_eq (by rw [flatD_len]; omega) (fun j hj => hxs j (by rw [flatD_len] at hj; omega))
        rw [hfin] at hown
        have hO2 := HO.out.trans (OnlyT.mono hOr (fun e he => Or.inl he))
        have hDD := HDD.out
        go_wp2_with fail
        exact cl7 _ _ _ _ _ _ _ _ _ _ _ _ _ _ _ _ _ _ _ _ _ _ _ _ _ _ _ _ _ _ _ _ _ _ _ _ _ _ _ _ _ _ _ _ _ _ _ _ _ _ _ _ _ _ _ _ _ _ _ _ _ _ _ _ _ _ _ _ _ _ _ _ _ _ _ _ _ _ _ _ _ _ _ _ _ _ _ _ _ _ _ _ _ _ _ _ _ _ _ _ _ _ _ _ _ _ _ _ _ _ _ _ _ _ _ _ _ _ _ _ _ _ _ _ _ _ _ _ _ _ _ _ _ _ _ _ _ _ _ _  hst3 hbo3 hrs3 o1 o2 o3 hB hZ l1 l2 l3 l4 l5 hbr hown hCO hdl (hO2.row hDD.1 (by decide)) (hO2.row hDD.2.1 (by decide)) (hO2.row hDD.2.2 (by decide)) HRR.out

set_option maxRecDepth 100000 in
set_option maxHeartbeats 2000000 in
theorem cl5 {w w0 : World} (B bst bres bout : Nat) (ae : Option Addr) (ce : Nat) (ai : Option Addr) (ci : Nat) (ar : Option Addr) (cr : Nat) (c0 c1 c2 c3 : Bool) (ad : Option Addr) (cd : Nat) (ends : List Int) (items reads : List (Int × Int)) (des : List DEnt) (x0 x1 x2 : Value) (u0 u4 u5 u6 u7 u8 u9 u10 u11 u12 u13 u14 u15 u16 u17 u18 u19 u20 u21 u22 u23 u24 u25 u26 u27 u28 u29 u30 u31 u32 u33 u34 u35 u36 u37 u38 u39 u40 u41 u42 u43 u44 u45 u46 u47 u48 u49 u50 u51 u52 u53 u54 u55 u56 u57 u58 u59 u60 u61 u62 u63 u64 u65 u66 u67 u68 u69 u70 u71 u72 u73 u74 u75 u76 u77 u78 u79 u80 u81 u82 u83 u84 u85 u86 u87 u88 u89 u90 u91 u92 u93 u94 u95 u96 u97 u98 u99 u100 u101 u102 u103 u104 u105 u106 u107 u108 u109 u110 u111 u112 u113 u114 u115 u116 : Value) (R : Value → World → Prop)
    (hst : w.heap[bst]? = some (.cells (zcells ae ends.length ce ai items.length ci ar reads.length cr c0 c1 c2 c3 ad des.length cd) 28 (0, 0))) (hbo : w.heap[bout]? = some (.cells #[x0, x1, x2, .bool false, .bool false, .bool false, .bool false, .slice none 0 0] 28 (0, 0))) (hrs : w.heap[bres]? = some (.cells #[.slice none 0 0, .slice none 0 0, .slice none 0 0, .bool false, .bool false, .bool false, .bool false, .slice none 0 0] 28 (0, 0))) (o1 : bst < bres) (o2 : bres < bout) (o3 : B ≤ bst) (hB : B = w0.heap.size) (hZ : ZV w0 ae ai ar ad ends items reads des) (l1 : ends.length ≤ 1048576) (l2 : items.length ≤ 1048576) (l3 : reads.length ≤ 1048576) (l4 : des.length ≤ 1048576) (l5 : ∀ x ∈ des, x.zs.length ≤ 1048576) (hb : Below B w0 w) (hD0 : w.ownsRow B 5 1 x0 ends.length (bytes ends)) (hD1 : w.ownsRow B 49 2 x1 items.length (flat items)) (hD2 : w.ownsRow B 53 2 x2 reads.length (flat reads)) (hR : ∀ w' x4 des', des'.length = des.length → w'.ownsRow B 58 2 x4 des.length (flatD des') → CopyOf w' B des des' → w'.ownsRow B 5 1 x0 ends.length (bytes ends) → w'.ownsRow B 49 2 x1 items.length (flat items) → w'.ownsRow B 53 2 x2 reads.length (flat reads) → Below B w0 w' → R (.agg #[x0, x1, x2, .bool c0, .bool c1, .bool c2, .bool c3, x4]) w') :
    Code.wp Try.prog (tl Try.f7 5) (QC R) ⟨#[u0, .pointer (some ⟨bst, 0, none⟩), .pointer (some ⟨bres, 0, none⟩), .pointer (some ⟨bout, 0, none⟩), u4, u5, u6, u7, u8, u9, u10, u11, u12, u13, u14, u15, u16, u17, u18, u19, u20, u21, u22, u23, u24, u25, u26, u27, u28, u29, u30, u31, u32, u33, u34, u35, u36, u37, u38, u39, u40, u41, u42, u43, u44, u45, u46, u47, u48, u49, u50, u51, u52, u53, u54, u55, u56, u57, u58, u59, u60, u61, u62, u63, u64, u65, u66, u67, u68, u69, u70, u71, u72, u73, u74, u75, u76, u77, u78, u79, u80, u81, u82, u83, u84, u85, u86, u87, u88, u89, u90, u91, u92, u93, u94, u95, u96, u97, u98, u99, u100, u101, u102, u103, u104, u105, u106, u107, u108, u109, u110, u111, u112, u113, u114, u115, u116], []⟩ w := by
  have k3 : w.cell? ⟨bst, 3, none⟩ = some (.bool c0) := cell_blk hst rfl
  have k4 : w.cell? ⟨bst, 4, none⟩ = some (.bool c1) := cell_blk hst rfl
  have k5 : w.cell? ⟨bst, 5, none⟩ = some (.bool c2) := cell_blk hst rfl
  have k6 : w.cell? ⟨bst, 6, none⟩ = some (.bool c3) := cell_blk hst rfl
  have r3 : w.cell? ⟨bout, 3, none⟩ = some (.bool false) := cell_blk hbo rfl
  have r4 : w.cell? ⟨bout, 4, none⟩ = some (.bool false) := cell_blk hbo rfl
  have r5 : w.cell? ⟨bout, 5, none⟩ = some (.bool false) := cell_blk hbo rfl
  have r6 : w.cell? ⟨bout, 6, none⟩ = some (.bool false) := cell_blk hbo rfl
  have g : ∀ j, w.frozen? ⟨bout, j, none⟩ = false := fun j => frozen_of_row w bout j _ _ hbo
  have g3 := g 3
  have g4 := g 4
  have g5 := g 5
  have g6 := g 6
  have s4 := (OnlyT.refl (fun e => e = 28) w).setCell (j := 3) hbo rfl (.bool c0)
  have q4 := blk_set (i := 3) (.bool c0) hbo
  have s5 := s4.setCell (j := 4) q4 rfl (.bool c1)
  have q5 := blk_set (i := 4) (.bool c1) q4
  have s6 := s5.setCell (j := 5) q5 rfl (.bool c2)
  have q6 := blk_set (i := 5) (.bool c2) q5
  have s7 := s6.setCell (j := 6) q6 rfl (.bool c3)
  have q7 := blk_set (i := 6) (.bool c3) q6
  have hst4 : ((((w.setCell ⟨bout, 3, none⟩ (.bool c0)).setCell ⟨bout, 4, none⟩ (.bool c1)).setCell ⟨bout, 5, none⟩ (.bool c2)).setCell ⟨bout, 6, none⟩ (.bool c3)).heap[bst]? = some (.cells (zcells ae ends.length ce ai items.length ci ar reads.length cr c0 c1 c2 c3 ad des.length cd) 28 (0, 0)) := by
    have h1 := blk_kept (grown_setCell' (w := w) bout 3 (.bool c0)) hst (by simp; omega)
    have h2 := blk_kept (grown_setCell' bout 4 (.bool c1)) h1 (by simp; omega)
    have h3 := blk_kept (grown_setCell' bout 5 (.bool c2)) h2 (by simp; omega)
    exact blk_kept (grown_setCell' bout 6 (.bool c3)) h3 (by simp; omega)
  have hrs4 : ((((w.setCell ⟨bout, 3, none⟩ (.bool c0)).setCell ⟨bout, 4, none⟩ (.bool c1)).setCell ⟨bout, 5, none⟩ (.bool c2)).setCell ⟨bout, 6, none⟩ (.bool c3)).heap[bres]? = some (.cells #[.slice none 0 0, .slice none 0 0, .slice none 0 0, .bool false, .bool false, .bool false, .bool false, .slice none 0 0] 28 (0, 0)) := by
    have h1 := blk_kept (grown_setCell' (w := w) bout 3 (.bool c0)) hrs (by simp; omega)
    have h2 := blk_kept (grown_setCell' bout 4 (.bool c1)) h1 (by simp; omega)
    have h3 := blk_kept (grown_setCell' bout 5 (.bool c2)) h2 (by simp; omega)
    exact blk_kept (grown_setCell' bout 6 (.bool c3)) h3 (by simp; omega)
  have hbf : Below B w0 ((((w.setCell ⟨bout, 3, none⟩ (.bool c0)).setCell ⟨bout, 4, none⟩ (.bool c1)).setCell ⟨bout, 5, none⟩ (.bool c2)).setCell ⟨bout, 6, none⟩ (.bool c3)) := (((hb.setCell (by show B ≤ bout; omega) _).setCell (by show B ≤ bout; omega) _).setCell (by show B ≤ bout; omega) _).setCell (by show B ≤ bout; omega) _
  have H1 : Hid _ := s7.row hD0 (by decide)
  have H2 : Hid _ := s7.row hD1 (by decide)
  have H3 : Hid _ := s7.row hD2 (by decide)
  have H4 : Hid _ := hst4
  have H5 : Hid _ := q7
  have H6 : Hid _ := hrs4
  have H7 : Hid _ := hbf
  have H8 : Hid _ := hR
  have H9 : Hid _ := hZ
  have n1 : bst ≠ bout := by omega
  clear s4 s5 s6 s7 q4 q5 q6 q7 hst4 hrs4 hbf hR hD0 hD1 hD2 hst hbo hrs g hb hZ
  rw [tl7_5]
  refine wp_seq_k (fun K hK => ?_)
  conv => arg 2; whnf
  go_wp2_with fail
  exact cl6 _ _ _ _ _ _ _ _ _ _ _ _ _ _ _ _ _ _ _ _ _ _ _ _ _ _ _ _ _ _ _ _ _ _ _ _ _ _ _ _ _ _ _ _ _ _ _ _ _ _ _ _ _ _ _ _ _ _ _ _ _ _ _ _ _ _ _ _ _ _ _ _ _ _ _ _ _ _ _ _ _ _ _ _ _ _ _ _ _ _ _ _ _ _ _ _ _ _ _ _ _ _ _ _ _ _ _ _ _ _ _ _ _ _ _ _ _ _ _ _ _ _ _ _ _ _ _ _ _ _ _ _ _ _ _ _ _ _  H4.out H5.out H6.out o1 o2 o3 hB H9.out l1 l2 l3 l4 l5 H7.out H1.out H2.out H3.out H8.out

set_option maxRecDepth 100000 in
set_option maxHeartbeats 2000000 in
theorem cl4 {w w0 : World} (B bst bres bout : Nat) (ae : Option Addr) (ce : Nat) (ai : Option Addr) (ci : Nat) (ar : Option Addr) (cr : Nat) (c0 c1 c2 c3 : Bool) (ad : Option Addr) (cd : Nat) (ends : List Int) (items reads : List (Int × Int)) (des : List DEnt) (x0 x1 : Value) (u0 u4 u5 u6 u7 u8 u9 u10 u11 u12 u13 u14 u15 u16 u17 u18 u19 u20 u21 u22 u23 u24 u25 u26 u27 u28 u29 u30 u31 u32 u33 u34 u35 u36 u37 u38 u39 u40 u41 u42 u43 u44 u45 u46 u47 u48 u49 u50 u51 u52 u53 u54 u55 u56 u57 u58 u59 u60 u61 u62 u63 u64 u65 u66 u67 u68 u69 u70 u71 u72 u73 u74 u75 u76 u77 u78 u79 u80 u81 u82 u83 u84 u85 u86 u87 u88 u89 u90 u91 u92 u93 u94 u95 u96 u97 u98 u99 u100 u101 u102 u103 u104 u105 u106 u107 u108 u109 u110 u111 u112 u113 u114 u115 u116 : Value) (R : Value → World → Prop)
    (hst : w.heap[bst]? = some (.cells (zcells ae ends.length ce ai items.length ci ar reads.length cr c0 c1 c2 c3 ad des.length cd) 28 (0, 0))) (hbo : w.heap[bout]? = some (.cells #[x0, x1, .slice none 0 0, .bool false, .bool false, .bool false, .bool false, .slice none 0 0] 28 (0, 0))) (hrs : w.heap[bres]? = some (.cells #[.slice none 0 0, .slice none 0 0, .slice none 0 0, .bool false, .bool false, .bool false, .bool false, .slice none 0 0] 28 (0, 0))) (o1 : bst < bres) (o2 : bres < bout) (o3 : B ≤ bst) (hB : B = w0.heap.size) (hZ : ZV w0 ae ai ar ad ends items reads des) (l1 : ends.length ≤ 1048576) (l2 : items.length ≤ 1048576) (l3 : reads.length ≤ 1048576) (l4 : des.length ≤ 1048576) (l5 : ∀ x ∈ des, x.zs.length ≤ 1048576) (hb : Below B w0 w) (hD0 : w.ownsRow B 5 1 x0 ends.length (bytes ends)) (hD1 : w.ownsRow B 49 2 x1 items.length (flat items)) (hR : ∀ x2 w' x4 des', des'.length = des.length → w'.ownsRow B 58 2 x4 des.length (flatD des') → CopyOf w' B des des' → w'.ownsRow B 5 1 x0 ends.length (bytes ends) → w'.ownsRow B 49 2 x1 items.length (flat items) → w'.ownsRow B 53 2 x2 reads.length (flat reads) → Below B w0 w' → R (.agg #[x0, x1, x2, .bool c0, .bool c1, .bool c2, .bool c3, x4]) w') :
    Code.wp Try.prog (tl Try.f7 4) (QC R) ⟨#[u0, .pointer (some ⟨bst, 0, none⟩), .pointer (some ⟨bres, 0, none⟩), .pointer (some ⟨bout, 0, none⟩), u4, u5, u6, u7, u8, u9, u10, u11, u12, u13, u14, u15, u16, u17, u18, u19, u20, u21, u22, u23, u24, u25, u26, u27, u28, u29, u30, u31, u32, u33, u34, u35, u36, u37, u38, u39, u40, u41, u42, u43, u44, u45, u46, u47, u48, u49, u50, u51, u52, u53, u54, u55, u56, u57, u58, u59, u60, u61, u62, u63, u64, u65, u66, u67, u68, u69, u70, u71, u72, u73, u74, u75, u76, u77, u78, u79, u80, u81, u82, u83, u84, u85, u86, u87, u88, u89, u90, u91, u92, u93, u94, u95, u96, u97, u98, u99, u100, u101, u102, u103, u104, u105, u106, u107, u108, u109, u110, u111, u112, u113, u114, u115, u116], []⟩ w := by
  obtain ⟨i0, hi, hz0, hz1, hz2⟩ := info_parts Try.info53
  have k1 : w.cell? ⟨bst, 2, none⟩ = some (.slice ar reads.length cr) := cell_blk hst rfl
  have k2 : w.cell? ⟨bout, 2, none⟩ = some (.slice none 0 0) := cell_blk hbo rfl
  have f2 := frozen_of_row w bout 2 _ _ hbo
  have hcl : (flat reads).length = reads.length * 2 := by rw [flat_length]
  have hbS := hb.size
  rw [tl7_4]
  refine wp_seq_k (fun K hK => ?_)
  conv => arg 2; whnf
  cases ar with
  | none =>
    have hnil : reads = [] := by
      by_cases h : reads = []
      · exact h
      · obtain ⟨b, off, e, _⟩ := hZ.r (by intro e; rw [e] at hcl; simp only [List.length_nil] at hcl; exact h (List.eq_nil_of_length_eq_zero (by omega)))
        cases e
    have hD : w.ownsRow B 53 2 (.slice none 0 0) reads.length (flat reads) := by rw [hnil]; exact World.ownsRow_nil _ _ _ _
    go_wp2_with fail
    exact cl5 _ _ _ _ _ _ _ _ _ _ _ _ _ _ _ _ _ _ _ _ _ _ _ _ _ _ _ _ _ _ _ _ _ _ _ _ _ _ _ _ _ _ _ _ _ _ _ _ _ _ _ _ _ _ _ _ _ _ _ _ _ _ _ _ _ _ _ _ _ _ _ _ _ _ _ _ _ _ _ _ _ _ _ _ _ _ _ _ _ _ _ _ _ _ _ _ _ _ _ _ _ _ _ _ _ _ _ _ _ _ _ _ _ _ _ _ _ _ _ _ _ _ _ _ _ _ _ _ _ _ _ _ _ _ _ _ _ _ hst hbo hrs o1 o2 o3 hB hZ l1 l2 l3 l4 l5 hb hD0 hD1 hD (hR _)
  | some ad0 =>
    go_wp2_with (at_make; go_must (refine wpList_make_full _ rfl _ _ 24 rfl B 53 i0 (.agg #[.int .i32 0, .int .i32 0]) 2 Try.underlying24 hi hz0 hz1 .i64 .i64 _ _ reads.length rfl rfl rfl rfl (by rw [hz2]; omega) (by unfold maxLen; omega) (Nat.le_trans (by omega) hb.size) ?_; intro w1 hown1 hgrow1; have hb1 := below_of_grown hgrow1; have k1' := cell_later hb1 k1; have k2' := cell_later hb1 k2; have hbo1 := blk_kept hgrow1 hbo (by simp); have f2' := frozen_of_row w1 bout 2 _ _ hbo1))
    have hst1 := blk_kept hgrow1 hst (by simp)
    have hrs1 := blk_kept hgrow1 hrs (by simp)
    have hgw : bout < w.heap.size := (Array.getElem?_eq_some_iff.1 hbo).1
    have hs1 := grown_setCell' (w := w1) bout 2 (.slice (some ⟨w.heap.size, 0, none⟩) reads.length reads.length)
    have hbo2 := blk_set (i := 2) (.slice (some ⟨w.heap.size, 0, none⟩) reads.length reads.length) hbo1
    have hst2 := blk_kept hs1 hst1 (by simp; omega)
    have hrs2 := blk_kept hs1 hrs1 (by simp; omega)
    have hown2 : (w1.setCell ⟨bout, 2, none⟩ (.slice (some ⟨w.heap.size, 0, none⟩) reads.length reads.length)).ownsRow B 53 2 (.slice (some ⟨w.heap.size, 0, none⟩) reads.length reads.length) reads.length _ := row_kept hown1 hs1 (fun g hv => by simp [Value.ownBlock] at hv; simp; omega)
    have hO : OnlyT (fun e => e = 53 ∨ e = 28) w (w1.setCell ⟨bout, 2, none⟩ (.slice (some ⟨w.heap.size, 0, none⟩) reads.length reads.length)) := (OnlyT.of_below hb1).setCell hbo1 (Or.inr rfl) _
    have hbB : Below B w0 (w1.setCell ⟨bout, 2, none⟩ (.slice (some ⟨w.heap.size, 0, none⟩) reads.length reads.length)) := (hb.trans (hb1.mono (by omega))).setCell (by show B ≤ bout; omega) _
    have HK1 : Hid _ := hst2
    have HK2 : Hid _ := hbo2
    have HK3 : Hid _ := hrs2
    have HO : Hid _ := hO
    have HOWN : Hid _ := hown2
    have HBB : Hid _ := hbB
    clear hown1 hgrow1 hb1 k1' k2' hbo1 f2' hst1 hrs1 hs1 hbo2 hst2 hrs2 hown2 hO hbB k1 k2 f2 hst hbo hrs hi hz0 hz1 hz2
    obtain ⟨wB, hwB⟩ : ∃ wB, wB = w1.setCell ⟨bout, 2, none⟩ (.slice (some ⟨w.heap.size, 0, none⟩) reads.length reads.length) := ⟨_, rfl⟩
    rw [← hwB] at HK1 HK2 HK3 HO HOWN HBB ⊢
    clear hwB
    go_loopw [6] (fun i wr => ∃ (k : Nat) (xs : List Value), k ≤ reads.length ∧ i = .int .i64 k ∧ wr.ownsRow B 53 2 (.slice (some ⟨w.heap.size, 0, none⟩) reads.length reads.length) reads.length xs ∧ (∀ j, j < k * 2 → xs[j]? = (flat reads)[j]?) ∧ OnlyT (fun e => e = 53) wB wr ∧ Below B w0 wr) (fun i _ => reads.length - (intOf i).toNat)
    case atStart => exact ⟨0, _, Nat.zero_le _, rfl, HOWN.out, fun j hj => by omega, OnlyT.refl _ _, HBB.out⟩
    case round =>
      obtain ⟨k, xs, hk, rfl, hown, hxs, hOr, hbr⟩ := hrel
      have hxl : xs.length = reads.length * 2 := hown.1
      have hst3 := hOr.cells _ _ _ _ HK1.out (by decide)
      have hbo3 := hOr.cells _ _ _ _ HK2.out (by decide)
      have hrs3 := hOr.cells _ _ _ _ HK3.out (by decide)
      have k1 : wr.cell? ⟨bst, 2, none⟩ = some (.slice (some ad0) reads.length cr) := cell_blk hst3 rfl
      by_cases hlt : k < reads.length
      · have k2 : wr.cell? ⟨bout, 2, none⟩ = some (.slice (some ⟨w.heap.size, 0, none⟩) reads.length reads.length) := cell_blk hbo3 rfl
        obtain ⟨b, off, e0, hc⟩ := (hZ.r.below (hB ▸ hbr)).at (show k * 2 < (flat reads).length by omega)
        cases e0
        obtain ⟨cur, hcur⟩ := row_tag hown w.heap.size rfl
        have hlt' : (k : Int) < (reads.length : Int) := by omega
        have hlt0 : (0 : Int) ≤ (k : Int) := by omega
        have c1 : wr.cell? ⟨b, off + k * 2, none⟩ = some (.int .i32 (reads.getD k (0, 0)).1) := by rw [hc (k * 2) (by omega)]; exact flat_fst reads k hlt
        have c2 : wr.cell? ⟨b, off + k * 2 + 1, none⟩ = some (.int .i32 (reads.getD k (0, 0)).2) := by rw [Nat.add_assoc, hc (k * 2 + 1) (by omega)]; exact flat_snd reads k hlt
        have d1 : ∃ x, wr.cell? ⟨w.heap.size, k * 2, none⟩ = some x := ⟨xs[k * 2]'(by omega), by rw [hown.cellAt (k * 2) (by omega), List.getElem?_eq_getElem]⟩
        obtain ⟨x0, d1⟩ := d1
        have d2 : ∃ x, wr.cell? ⟨w.heap.size, k * 2 + 1, none⟩ = some x := ⟨xs[k * 2 + 1]'(by omega), by rw [hown.cellAt (k * 2 + 1) (by omega), List.getElem?_eq_getElem]⟩
        obtain ⟨x1, d2⟩ := d2
        have g1 := hown.frozenAt (k * 2)
        have g2 := hown.frozenAt (k * 2 + 1)
        have S1 := (hown.stored (k * 2) (.int .i32 (reads.getD k (0, 0)).1)).1
        have H1 : Hid _ := (S1.stored (k * 2 + 1) (.int .i32 (reads.getD k (0, 0)).2)).1
        have H2 : Hid (∀ j, j < (k + 1) * 2 → ((xs.set (k * 2) (.int .i32 (reads.getD k (0, 0)).1)).set (k * 2 + 1) (.int .i32 (reads.getD k (0, 0)).2))[j]? = (flat reads)[j]?) := by
          intro j hj
          rw [List.getElem?_set]
          by_cases e : k * 2 + 1 = j
          · subst e; rw [if_pos rfl, if_pos (by simp; omega)]; exact (flat_snd reads k hlt).symm
          · rw [if_neg e, List.getElem?_set]
            by_cases e' : k * 2 = j
            · subst e'; rw [if_pos rfl, if_pos (by omega)]; exact (flat_fst reads k hlt).symm
            · rw [if_neg e']; exact hxs j (by omega)
        have hcur2 := blk_set (i := k * 2) (.int .i32 (reads.getD k (0, 0)).1) hcur
        have H3 : Hid (OnlyT (fun e => e = 53) wB ((wr.setCell ⟨w.heap.size, k * 2, none⟩ (.int .i32 (reads.getD k (0, 0)).1)).setCell ⟨w.heap.size, k * 2 + 1, none⟩ (.int .i32 (reads.getD k (0, 0)).2))) := (hOr.setCell hcur rfl _).setCell hcur2 rfl _
        have H4 : Hid (Below B w0 ((wr.setCell ⟨w.heap.size, k * 2, none⟩ (.int .i32 (reads.getD k (0, 0)).1)).setCell ⟨w.heap.size, k * 2 + 1, none⟩ (.int .i32 (reads.getD k (0, 0)).2))) := (hbr.setCell (by show B ≤ w.heap.size; omega) _).setCell (by show B ≤ w.heap.size; omega) _
        generalize (reads.getD k (0, 0)).1 = q at c1 H1 H2 H3 H4
        generalize (reads.getD k (0, 0)).2 = q2 at c2 H1 H2 H3 H4
        clear S1 hcur2
        have HOr : Hid _ := hOr
        have HX : Hid _ := hxs
        clear hown hxs hOr hbr hc HK1 HK2 HK3 HO HOWN HBB hst3 hbo3 hrs3 hcur hZ
        go_wp2_with fail
        go_region
        go_wp2_with fail
        go_roundw
        case rel => exact ⟨k + 1, _, by omega, by go_num, H1.out, H2.out, OnlyT.drew H3.out, Below.drew H4.out⟩
        case measure => simp [intOf]; omega
      · obtain rfl : k = reads.length := by omega
        have hfin : xs = flat reads := fill_eq (by omega) (fun j hj => hxs j (by omega))
        rw [hfin] at hown
        have hO2 := HO.out.trans (OnlyT.mono hOr (fun e he => Or.inl he))
        go_wp2_with fail
        exact cl5 _ _ _ _ _ _ _ _ _ _ _ _ _ _ _ _ _ _ _ _ _ _ _ _ _ _ _ _ _ _ _ _ _ _ _ _ _ _ _ _ _ _ _ _ _ _ _ _ _ _ _ _ _ _ _ _ _ _ _ _ _ _ _ _ _ _ _ _ _ _ _ _ _ _ _ _ _ _ _ _ _ _ _ _ _ _ _ _ _ _ _ _ _ _ _ _ _ _ _ _ _ _ _ _ _ _ _ _ _ _ _ _ _ _ _ _ _ _ _ _ _ _ _ _ _ _ _ _ _ _ _ _ _ _ _ _ _ _ hst3 hbo3 hrs3 o1 o2 o3 hB hZ l1 l2 l3 l4 l5 hbr (hO2.row hD0 (by decide)) (hO2.row hD1 (by decide)) hown (hR _)

set_option maxRecDepth 100000 in
set_option maxHeartbeats 2000000 in
theorem cl3 {w w0 : World} (B bst bres bout : Nat) (ae : Option Addr) (ce : Nat) (ai : Option Addr) (ci : Nat) (ar : Option Addr) (cr : Nat) (c0 c1 c2 c3 : Bool) (ad : Option Addr) (cd : Nat) (ends : List Int) (items reads : List (Int × Int)) (des : List DEnt) (x0 : Value) (u0 u4 u5 u6 u7 u8 u9 u10 u11 u12 u13 u14 u15 u16 u17 u18 u19 u20 u21 u22 u23 u24 u25 u26 u27 u28 u29 u30 u31 u32 u33 u34 u35 u36 u37 u38 u39 u40 u41 u42 u43 u44 u45 u46 u47 u48 u49 u50 u51 u52 u53 u54 u55 u56 u57 u58 u59 u60 u61 u62 u63 u64 u65 u66 u67 u68 u69 u70 u71 u72 u73 u74 u75 u76 u77 u78 u79 u80 u81 u82 u83 u84 u85 u86 u87 u88 u89 u90 u91 u92 u93 u94 u95 u96 u97 u98 u99 u100 u101 u102 u103 u104 u105 u106 u107 u108 u109 u110 u111 u112 u113 u114 u115 u116 : Value) (R : Value → World → Prop)
    (hst : w.heap[bst]? = some (.cells (zcells ae ends.length ce ai items.length ci ar reads.length cr c0 c1 c2 c3 ad des.length cd) 28 (0, 0))) (hbo : w.heap[bout]? = some (.cells #[x0, .slice none 0 0, .slice none 0 0, .bool false, .bool false, .bool false, .bool false, .slice none 0 0] 28 (0, 0))) (hrs : w.heap[bres]? = some (.cells #[.slice none 0 0, .slice none 0 0, .slice none 0 0, .bool false, .bool false, .bool false, .bool false, .slice none 0 0] 28 (0, 0))) (o1 : bst < bres) (o2 : bres < bout) (o3 : B ≤ bst) (hB : B = w0.heap.size) (hZ : ZV w0 ae ai ar ad ends items reads des) (l1 : ends.length ≤ 1048576) (l2 : items.length ≤ 1048576) (l3 : reads.length ≤ 1048576) (l4 : des.length ≤ 1048576) (l5 : ∀ x ∈ des, x.zs.length ≤ 1048576) (hb : Below B w0 w) (hD0 : w.ownsRow B 5 1 x0 ends.length (bytes ends)) (hR : ∀ x1 x2 w' x4 des', des'.length = des.length → w'.ownsRow B 58 2 x4 des.length (flatD des') → CopyOf w' B des des' → w'.ownsRow B 5 1 x0 ends.length (bytes ends) → w'.ownsRow B 49 2 x1 items.length (flat items) → w'.ownsRow B 53 2 x2 reads.length (flat reads) → Below B w0 w' → R (.agg #[x0, x1, x2, .bool c0, .bool c1, .bool c2, .bool c3, x4]) w') :
    Code.wp Try.prog (tl Try.f7 3) (QC R) ⟨#[u0, .pointer (some ⟨bst, 0, none⟩), .pointer (some ⟨bres, 0, none⟩), .pointer (some ⟨bout, 0, none⟩), u4, u5, u6, u7, u8, u9, u10, u11, u12, u13, u14, u15, u16, u17, u18, u19, u20, u21, u22, u23, u24, u25, u26, u27, u28, u29, u30, u31, u32, u33, u34, u35, u36, u37, u38, u39, u40, u41, u42, u43, u44, u45, u46, u47, u48, u49, u50, u51, u52, u53, u54, u55, u56, u57, u58, u59, u60, u61, u62, u63, u64, u65, u66, u67, u68, u69, u70, u71, u72, u73, u74, u75, u76, u77, u78, u79, u80, u81, u82, u83, u84, u85, u86, u87, u88, u89, u90, u91, u92, u93, u94, u95, u96, u97, u98, u99, u100, u101, u102, u103, u104, u105, u106, u107, u108, u109, u110, u111, u112, u113, u114, u115, u116], []⟩ w := by
  obtain ⟨i0, hi, hz0, hz1, hz2⟩ := info_parts Try.info49
  have k1 : w.cell? ⟨bst, 1, none⟩ = some (.slice ai items.length ci) := cell_blk hst rfl
  have k2 : w.cell? ⟨bout, 1, none⟩ = some (.slice none 0 0) := cell_blk hbo rfl
  have f2 := frozen_of_row w bout 1 _ _ hbo
  have hcl : (flat items).length = items.length * 2 := by rw [flat_length]
  have hbS := hb.size
  rw [tl7_3]
  refine wp_seq_k (fun K hK => ?_)
  conv => arg 2; whnf
  cases ai with
  | none =>
    have hnil : items = [] := by
      by_cases h : items = []
      · exact h
      · obtain ⟨b, off, e, _⟩ := hZ.i (by intro e; rw [e] at hcl; simp only [List.length_nil] at hcl; exact h (List.eq_nil_of_length_eq_zero (by omega)))
        cases e
    have hD : w.ownsRow B 49 2 (.slice none 0 0) items.length (flat items) := by rw [hnil]; exact World.ownsRow_nil _ _ _ _
    go_wp2_with fail
    exact cl4 _ _ _ _ _ _ _ _ _ _ _ _ _ _ _ _ _ _ _ _ _ _ _ _ _ _ _ _ _ _ _ _ _ _ _ _ _ _ _ _ _ _ _ _ _ _ _ _ _ _ _ _ _ _ _ _ _ _ _ _ _ _ _ _ _ _ _ _ _ _ _ _ _ _ _ _ _ _ _ _ _ _ _ _ _ _ _ _ _ _ _ _ _ _ _ _ _ _ _ _ _ _ _ _ _ _ _ _ _ _ _ _ _ _ _ _ _ _ _ _ _ _ _ _ _ _ _ _ _ _ _ _ _ _ _ _ _ hst hbo hrs o1 o2 o3 hB hZ l1 l2 l3 l4 l5 hb hD0 hD (hR _)
  | some ad0 =>
    go_wp2_with (at_make; go_must (refine wpList_make_full _ rfl _ _ 23 rfl B 49 i0 (.agg #[.int .i32 0, .int .i32 0]) 2 Try.underlying23 hi hz0 hz1 .i64 .i64 _ _ items.length rfl rfl rfl rfl (by rw [hz2]; omega) (by unfold maxLen; omega) (Nat.le_trans (by omega) hb.size) ?_; intro w1 hown1 hgrow1; have hb1 := below_of_grown hgrow1; have k1' := cell_later hb1 k1; have k2' := cell_later hb1 k2; have hbo1 := blk_kept hgrow1 hbo (by simp); have f2' := frozen_of_row w1 bout 1 _ _ hbo1))
    have hst1 := blk_kept hgrow1 hst (by simp)
    have hrs1 := blk_kept hgrow1 hrs (by simp)
    have hgw : bout < w.heap.size := (Array.getElem?_eq_some_iff.1 hbo).1
    have hs1 := grown_setCell' (w := w1) bout 1 (.slice (some ⟨w.heap.size, 0, none⟩) items.length items.length)
    have hbo2 := blk_set (i := 1) (.slice (some ⟨w.heap.size, 0, none⟩) items.length items.length) hbo1
    have hst2 := blk_kept hs1 hst1 (by simp; omega)
    have hrs2 := blk_kept hs1 hrs1 (by simp; omega)
    have hown2 : (w1.setCell ⟨bout, 1, none⟩ (.slice (some ⟨w.heap.size, 0, none⟩) items.length items.length)).ownsRow B 49 2 (.slice (some ⟨w.heap.size, 0, none⟩) items.length items.length) items.length _ := row_kept hown1 hs1 (fun g hv => by simp [Value.ownBlock] at hv; simp; omega)
    have hO : OnlyT (fun e => e = 49 ∨ e = 28) w (w1.setCell ⟨bout, 1, none⟩ (.slice (some ⟨w.heap.size, 0, none⟩) items.length items.length)) := (OnlyT.of_below hb1).setCell hbo1 (Or.inr rfl) _
    have hbB : Below B w0 (w1.setCell ⟨bout, 1, none⟩ (.slice (some ⟨w.heap.size, 0, none⟩) items.length items.length)) := (hb.trans (hb1.mono (by omega))).setCell (by show B ≤ bout; omega) _
    have HK1 : Hid _ := hst2
    have HK2 : Hid _ := hbo2
    have HK3 : Hid _ := hrs2
    have HO : Hid _ := hO
    have HOWN : Hid _ := hown2
    have HBB : Hid _ := hbB
    clear hown1 hgrow1 hb1 k1' k2' hbo1 f2' hst1 hrs1 hs1 hbo2 hst2 hrs2 hown2 hO hbB k1 k2 f2 hst hbo hrs hi hz0 hz1 hz2
    obtain ⟨wB, hwB⟩ : ∃ wB, wB = w1.setCell ⟨bout, 1, none⟩ (.slice (some ⟨w.heap.size, 0, none⟩) items.length items.length) := ⟨_, rfl⟩
    rw [← hwB] at HK1 HK2 HK3 HO HOWN HBB ⊢
    clear hwB
    go_loopw [5] (fun i wr => ∃ (k : Nat) (xs : List Value), k ≤ items.length ∧ i = .int .i64 k ∧ wr.ownsRow B 49 2 (.slice (some ⟨w.heap.size, 0, none⟩) items.length items.length) items.length xs ∧ (∀ j, j < k * 2 → xs[j]? = (flat items)[j]?) ∧ OnlyT (fun e => e = 49) wB wr ∧ Below B w0 wr) (fun i _ => items.length - (intOf i).toNat)
    case atStart => exact ⟨0, _, Nat.zero_le _, rfl, HOWN.out, fun j hj => by omega, OnlyT.refl _ _, HBB.out⟩
    case round =>
      obtain ⟨k, xs, hk, rfl, hown, hxs, hOr, hbr⟩ := hrel
      have hxl : xs.length = items.length * 2 := hown.1
      have hst3 := hOr.cells _ _ _ _ HK1.out (by decide)
      have hbo3 := hOr.cells _ _ _ _ HK2.out (by decide)
      have hrs3 := hOr.cells _ _ _ _ HK3.out (by decide)
      have k1 : wr.cell? ⟨bst, 1, none⟩ = some (.slice (some ad0) items.length ci) := cell_blk hst3 rfl
      by_cases hlt : k < items.length
      · have k2 : wr.cell? ⟨bout, 1, none⟩ = some (.slice (some ⟨w.heap.size, 0, none⟩) items.length items.length) := cell_blk hbo3 rfl
        obtain ⟨b, off, e0, hc⟩ := (hZ.i.below (hB ▸ hbr)).at (show k * 2 < (flat items).length by omega)
        cases e0
        obtain ⟨cur, hcur⟩ := row_tag hown w.heap.size rfl
        have hlt' : (k : Int) < (items.length : Int) := by omega
        have hlt0 : (0 : Int) ≤ (k : Int) := by omega
        have c1 : wr.cell? ⟨b, off + k * 2, none⟩ = some (.int .i32 (items.getD k (0, 0)).1) := by rw [hc (k * 2) (by omega)]; exact flat_fst items k hlt
        have c2 : wr.cell? ⟨b, off + k * 2 + 1, none⟩ = some (.int .i32 (items.getD k (0, 0)).2) := by rw [Nat.add_assoc, hc (k * 2 + 1) (by omega)]; exact flat_snd items k hlt
        have d1 : ∃ x, wr.cell? ⟨w.heap.size, k * 2, none⟩ = some x := ⟨xs[k * 2]'(by omega), by rw [hown.cellAt (k * 2) (by omega), List.getElem?_eq_getElem]⟩
        obtain ⟨x0, d1⟩ := d1
        have d2 : ∃ x, wr.cell? ⟨w.heap.size, k * 2 + 1, none⟩ = some x := ⟨xs[k * 2 + 1]'(by omega), by rw [hown.cellAt (k * 2 + 1) (by omega), List.getElem?_eq_getElem]⟩
        obtain ⟨x1, d2⟩ := d2
        have g1 := hown.frozenAt (k * 2)
        have g2 := hown.frozenAt (k * 2 + 1)
        have S1 := (hown.stored (k * 2) (.int .i32 (items.getD k (0, 0)).1)).1
        have H1 : Hid _ := (S1.stored (k * 2 + 1) (.int .i32 (items.getD k (0, 0)).2)).1
        have H2 : Hid (∀ j, j < (k + 1) * 2 → ((xs.set (k * 2) (.int .i32 (items.getD k (0, 0)).1)).set (k * 2 + 1) (.int .i32 (items.getD k (0, 0)).2))[j]? = (flat items)[j]?) := by
          intro j hj
          rw [List.getElem?_set]
          by_cases e : k * 2 + 1 = j
          · subst e; rw [if_pos rfl, if_pos (by simp; omega)]; exact (flat_snd items k hlt).symm
          · rw [if_neg e, List.getElem?_set]
            by_cases e' : k * 2 = j
            · subst e'; rw [if_pos rfl, if_pos (by omega)]; exact (flat_fst items k hlt).symm
            · rw [if_neg e']; exact hxs j (by omega)
        have hcur2 := blk_set (i := k * 2) (.int .i32 (items.getD k (0, 0)).1) hcur
        have H3 : Hid (OnlyT (fun e => e = 49) wB ((wr.setCell ⟨w.heap.size, k * 2, none⟩ (.int .i32 (items.getD k (0, 0)).1)).setCell ⟨w.heap.size, k * 2 + 1, none⟩ (.int .i32 (items.getD k (0, 0)).2))) := (hOr.setCell hcur rfl _).setCell hcur2 rfl _
        have H4 : Hid (Below B w0 ((wr.setCell ⟨w.heap.size, k * 2, none⟩ (.int .i32 (items.getD k (0, 0)).1)).setCell ⟨w.heap.size, k * 2 + 1, none⟩ (.int .i32 (items.getD k (0, 0)).2))) := (hbr.setCell (by show B ≤ w.heap.size; omega) _).setCell (by show B ≤ w.heap.size; omega) _
        generalize (items.getD k (0, 0)).1 = q at c1 H1 H2 H3 H4
        generalize (items.getD k (0, 0)).2 = q2 at c2 H1 H2 H3 H4
        clear S1 hcur2
        have HOr : Hid _ := hOr
        have HX : Hid _ := hxs
        clear hown hxs hOr hbr hc HK1 HK2 HK3 HO HOWN HBB hst3 hbo3 hrs3 hcur hZ
        go_wp2_with fail
        go_region
        go_wp2_with fail
        go_roundw
        case rel => exact ⟨k + 1, _, by omega, by go_num, H1.out, H2.out, OnlyT.drew H3.out, Below.drew H4.out⟩
        case measure => simp [intOf]; omega
      · obtain rfl : k = items.length := by omega
        have hfin : xs = flat items := fill_eq (by omega) (fun j hj => hxs j (by omega))
        rw [hfin] at hown
        have hO2 := HO.out.trans (OnlyT.mono hOr (fun e he => Or.inl he))
        go_wp2_with fail
        exact cl4 _ _ _ _ _ _ _ _ _ _ _ _ _ _ _ _ _ _ _ _ _ _ _ _ _ _ _ _ _ _ _ _ _ _ _ _ _ _ _ _ _ _ _ _ _ _ _ _ _ _ _ _ _ _ _ _ _ _ _ _ _ _ _ _ _ _ _ _ _ _ _ _ _ _ _ _ _ _ _ _ _ _ _ _ _ _ _ _ _ _ _ _ _ _ _ _ _ _ _ _ _ _ _ _ _ _ _ _ _ _ _ _ _ _ _ _ _ _ _ _ _ _ _ _ _ _ _ _ _ _ _ _ _ _ _ _ _ hst3 hbo3 hrs3 o1 o2 o3 hB hZ l1 l2 l3 l4 l5 hbr (hO2.row hD0 (by decide)) hown (hR _)

set_option maxRecDepth 100000 in
set_option maxHeartbeats 2000000 in
theorem cl2 {w w0 : World} (B bst bres bout : Nat) (ae : Option Addr) (ce : Nat) (ai : Option Addr) (ci : Nat) (ar : Option Addr) (cr : Nat) (c0 c1 c2 c3 : Bool) (ad : Option Addr) (cd : Nat) (ends : List Int) (items reads : List (Int × Int)) (des : List DEnt)  (u0 u4 u5 u6 u7 u8 u9 u10 u11 u12 u13 u14 u15 u16 u17 u18 u19 u20 u21 u22 u23 u24 u25 u26 u27 u28 u29 u30 u31 u32 u33 u34 u35 u36 u37 u38 u39 u40 u41 u42 u43 u44 u45 u46 u47 u48 u49 u50 u51 u52 u53 u54 u55 u56 u57 u58 u59 u60 u61 u62 u63 u64 u65 u66 u67 u68 u69 u70 u71 u72 u73 u74 u75 u76 u77 u78 u79 u80 u81 u82 u83 u84 u85 u86 u87 u88 u89 u90 u91 u92 u93 u94 u95 u96 u97 u98 u99 u100 u101 u102 u103 u104 u105 u106 u107 u108 u109 u110 u111 u112 u113 u114 u115 u116 : Value) (R : Value → World → Prop)
    (hst : w.heap[bst]? = some (.cells (zcells ae ends.length ce ai items.length ci ar reads.length cr c0 c1 c2 c3 ad des.length cd) 28 (0, 0))) (hbo : w.heap[bout]? = some (.cells #[.slice none 0 0, .slice none 0 0, .slice none 0 0, .bool false, .bool false, .bool false, .bool false, .slice none 0 0] 28 (0, 0))) (hrs : w.heap[bres]? = some (.cells #[.slice none 0 0, .slice none 0 0, .slice none 0 0, .bool false, .bool false, .bool false, .bool false, .slice none 0 0] 28 (0, 0))) (o1 : bst < bres) (o2 : bres < bout) (o3 : B ≤ bst) (hB : B = w0.heap.size) (hZ : ZV w0 ae ai ar ad ends items reads des) (l1 : ends.length ≤ 1048576) (l2 : items.length ≤ 1048576) (l3 : reads.length ≤ 1048576) (l4 : des.length ≤ 1048576) (l5 : ∀ x ∈ des, x.zs.length ≤ 1048576) (hb : Below B w0 w) (hR : ∀ x0 x1 x2 w' x4 des', des'.length = des.length → w'.ownsRow B 58 2 x4 des.length (flatD des') → CopyOf w' B des des' → w'.ownsRow B 5 1 x0 ends.length (bytes ends) → w'.ownsRow B 49 2 x1 items.length (flat items) → w'.ownsRow B 53 2 x2 reads.length (flat reads) → Below B w0 w' → R (.agg #[x0, x1, x2, .bool c0, .bool c1, .bool c2, .bool c3, x4]) w') :
    Code.wp Try.prog (tl Try.f7 2) (QC R) ⟨#[u0, .pointer (some ⟨bst, 0, none⟩), .pointer (some ⟨bres, 0, none⟩), .pointer (some ⟨bout, 0, none⟩), u4, u5, u6, u7, u8, u9, u10, u11, u12, u13, u14, u15, u16, u17, u18, u19, u20, u21, u22, u23, u24, u25, u26, u27, u28, u29, u30, u31, u32, u33, u34, u35, u36, u37, u38, u39, u40, u41, u42, u43, u44, u45, u46, u47, u48, u49, u50, u51, u52, u53, u54, u55, u56, u57, u58, u59, u60, u61, u62, u63, u64, u65, u66, u67, u68, u69, u70, u71, u72, u73, u74, u75, u76, u77, u78, u79, u80, u81, u82, u83, u84, u85, u86, u87, u88, u89, u90, u91, u92, u93, u94, u95, u96, u97, u98, u99, u100, u101, u102, u103, u104, u105, u106, u107, u108, u109, u110, u111, u112, u113, u114, u115, u116], []⟩ w := by
  obtain ⟨i0, hi, hz0, hz1, hz2⟩ := info_parts Try.info5
  have k1 : w.cell? ⟨bst, 0, none⟩ = some (.slice ae ends.length ce) := cell_blk hst rfl
  have k2 : w.cell? ⟨bout, 0, none⟩ = some (.slice none 0 0) := cell_blk hbo rfl
  have f2 := frozen_of_row w bout 0 _ _ hbo
  have hcl : (bytes ends).length = ends.length * 1 := by simp [bytes]
  have hbS := hb.size
  rw [tl7_2]
  refine wp_seq_k (fun K hK => ?_)
  conv => arg 2; whnf
  cases ae with
  | none =>
    have hnil : ends = [] := by
      by_cases h : ends = []
      · exact h
      · obtain ⟨b, off, e, _⟩ := hZ.e (by intro e; rw [e] at hcl; simp only [List.length_nil] at hcl; exact h (List.eq_nil_of_length_eq_zero (by omega)))
        cases e
    have hD : w.ownsRow B 5 1 (.slice none 0 0) ends.length (bytes ends) := by rw [hnil]; exact World.ownsRow_nil _ _ _ _
    go_wp2_with fail
    exact cl3 _ _ _ _ _ _ _ _ _ _ _ _ _ _ _ _ _ _ _ _ _ _ _ _ _ _ _ _ _ _ _ _ _ _ _ _ _ _ _ _ _ _ _ _ _ _ _ _ _ _ _ _ _ _ _ _ _ _ _ _ _ _ _ _ _ _ _ _ _ _ _ _ _ _ _ _ _ _ _ _ _ _ _ _ _ _ _ _ _ _ _ _ _ _ _ _ _ _ _ _ _ _ _ _ _ _ _ _ _ _ _ _ _ _ _ _ _ _ _ _ _ _ _ _ _ _ _ _ _ _ _ _ _ _ _ _ hst hbo hrs o1 o2 o3 hB hZ l1 l2 l3 l4 l5 hb hD (hR _)
  | some ad0 =>
    go_wp2_with (at_make; go_must (refine wpList_make_full _ rfl _ _ 22 rfl B 5 i0 (.int .u8 0) 1 Try.underlying22 hi hz0 hz1 .i64 .i64 _ _ ends.length rfl rfl rfl rfl (by rw [hz2]; omega) (by unfold maxLen; omega) (Nat.le_trans (by omega) hb.size) ?_; intro w1 hown1 hgrow1; have hb1 := below_of_grown hgrow1; have k1' := cell_later hb1 k1; have k2' := cell_later hb1 k2; have hbo1 := blk_kept hgrow1 hbo (by simp); have f2' := frozen_of_row w1 bout 0 _ _ hbo1))
    have hst1 := blk_kept hgrow1 hst (by simp)
    have hrs1 := blk_kept hgrow1 hrs (by simp)
    have hgw : bout < w.heap.size := (Array.getElem?_eq_some_iff.1 hbo).1
    have hs1 := grown_setCell' (w := w1) bout 0 (.slice (some ⟨w.heap.size, 0, none⟩) ends.length ends.length)
    have hbo2 := blk_set (i := 0) (.slice (some ⟨w.heap.size, 0, none⟩) ends.length ends.length) hbo1
    have hst2 := blk_kept hs1 hst1 (by simp; omega)
    have hrs2 := blk_kept hs1 hrs1 (by simp; omega)
    have hown2 : (w1.setCell ⟨bout, 0, none⟩ (.slice (some ⟨w.heap.size, 0, none⟩) ends.length ends.length)).ownsRow B 5 1 (.slice (some ⟨w.heap.size, 0, none⟩) ends.length ends.length) ends.length _ := row_kept hown1 hs1 (fun g hv => by simp [Value.ownBlock] at hv; simp; omega)
    have hO : OnlyT (fun e => e = 5 ∨ e = 28) w (w1.setCell ⟨bout, 0, none⟩ (.slice (some ⟨w.heap.size, 0, none⟩) ends.length ends.length)) := (OnlyT.of_below hb1).setCell hbo1 (Or.inr rfl) _
    have hbB : Below B w0 (w1.setCell ⟨bout, 0, none⟩ (.slice (some ⟨w.heap.size, 0, none⟩) ends.length ends.length)) := (hb.trans (hb1.mono (by omega))).setCell (by show B ≤ bout; omega) _
    have HK1 : Hid _ := hst2
    have HK2 : Hid _ := hbo2
    have HK3 : Hid _ := hrs2
    have HO : Hid _ := hO
    have HOWN : Hid _ := hown2
    have HBB : Hid _ := hbB
    clear hown1 hgrow1 hb1 k1' k2' hbo1 f2' hst1 hrs1 hs1 hbo2 hst2 hrs2 hown2 hO hbB k1 k2 f2 hst hbo hrs hi hz0 hz1 hz2
    obtain ⟨wB, hwB⟩ : ∃ wB, wB = w1.setCell ⟨bout, 0, none⟩ (.slice (some ⟨w.heap.size, 0, none⟩) ends.length ends.length) := ⟨_, rfl⟩
    rw [← hwB] at HK1 HK2 HK3 HO HOWN HBB ⊢
    clear hwB
    go_loopw [4] (fun i wr => ∃ (k : Nat) (xs : List Value), k ≤ ends.length ∧ i = .int .i64 k ∧ wr.ownsRow B 5 1 (.slice (some ⟨w.heap.size, 0, none⟩) ends.length ends.length) ends.length xs ∧ (∀ j, j < k * 1 → xs[j]? = (bytes ends)[j]?) ∧ OnlyT (fun e => e = 5) wB wr ∧ Below B w0 wr) (fun i _ => ends.length - (intOf i).toNat)
    case atStart => exact ⟨0, _, Nat.zero_le _, rfl, HOWN.out, fun j hj => by omega, OnlyT.refl _ _, HBB.out⟩
    case round =>
      obtain ⟨k, xs, hk, rfl, hown, hxs, hOr, hbr⟩ := hrel
      have hxl : xs.length = ends.length * 1 := hown.1
      have hst3 := hOr.cells _ _ _ _ HK1.out (by decide)
      have hbo3 := hOr.cells _ _ _ _ HK2.out (by decide)
      have hrs3 := hOr.cells _ _ _ _ HK3.out (by decide)
      have k1 : wr.cell? ⟨bst, 0, none⟩ = some (.slice (some ad0) ends.length ce) := cell_blk hst3 rfl
      by_cases hlt : k < ends.length
      · have k2 : wr.cell? ⟨bout, 0, none⟩ = some (.slice (some ⟨w.heap.size, 0, none⟩) ends.length ends.length) := cell_blk hbo3 rfl
        obtain ⟨b, off, e0, hc⟩ := (hZ.e.below (hB ▸ hbr)).at (show k * 1 < (bytes ends).length by omega)
        cases e0
        obtain ⟨cur, hcur⟩ := row_tag hown w.heap.size rfl
        have hlt' : (k : Int) < (ends.length : Int) := by omega
        have hlt0 : (0 : Int) ≤ (k : Int) := by omega
        have c1 : wr.cell? ⟨b, off + k, none⟩ = some (.int .u8 (ends.getD k 0)) := by rw [hc k (by omega)]; simp [bytes, hlt]
        have e1 : (bytes ends)[k]? = some (.int .u8 (ends.getD k 0)) := by simp [bytes, hlt]
        have d1 : ∃ x, wr.cell? ⟨w.heap.size, k, none⟩ = some x := ⟨xs[k]'(by omega), by rw [hown.cellAt k (by omega), List.getElem?_eq_getElem]⟩
        obtain ⟨x0, d1⟩ := d1
        have g1 := hown.frozenAt k
        have H1 : Hid _ := (hown.stored k (.int .u8 (ends.getD k 0))).1
        have H2 : Hid (∀ j, j < (k + 1) * 1 → (xs.set k (.int .u8 (ends.getD k 0)))[j]? = (bytes ends)[j]?) := by
          intro j hj
          rw [List.getElem?_set]
          by_cases e : k = j
          · subst e; rw [if_pos rfl, if_pos (by omega), e1]
          · rw [if_neg e]; exact hxs j (by omega)
        have H3 : Hid (OnlyT (fun e => e = 5) wB (wr.setCell ⟨w.heap.size, k, none⟩ (.int .u8 (ends.getD k 0)))) := hOr.setCell hcur rfl _
        have H4 : Hid (Below B w0 (wr.setCell ⟨w.heap.size, k, none⟩ (.int .u8 (ends.getD k 0)))) := hbr.setCell (by show B ≤ w.heap.size; omega) _
        generalize ends.getD k 0 = q at c1 H1 H2 H3 H4
        have HOr : Hid _ := hOr
        have HX : Hid _ := hxs
        clear hown hxs hOr hbr hc HK1 HK2 HK3 HO HOWN HBB hst3 hbo3 hrs3 hcur hZ
        go_wp2_with fail
        go_region
        go_wp2_with fail
        go_roundw
        case rel => exact ⟨k + 1, _, by omega, by go_num, H1.out, H2.out, OnlyT.drew H3.out, Below.drew H4.out⟩
        case measure => simp [intOf]; omega
      · obtain rfl : k = ends.length := by omega
        have hfin : xs = bytes ends := fill_eq (by omega) (fun j hj => hxs j (by omega))
        rw [hfin] at hown
        have hO2 := HO.out.trans (OnlyT.mono hOr (fun e he => Or.inl he))
        go_wp2_with fail
        exact cl3 _ _ _ _ _ _ _ _ _ _ _ _ _ _ _ _ _ _ _ _ _ _ _ _ _ _ _ _ _ _ _ _ _ _ _ _ _ _ _ _ _ _ _ _ _ _ _ _ _ _ _ _ _ _ _ _ _ _ _ _ _ _ _ _ _ _ _ _ _ _ _ _ _ _ _ _ _ _ _ _ _ _ _ _ _ _ _ _ _ _ _ _ _ _ _ _ _ _ _ _ _ _ _ _ _ _ _ _ _ _ _ _ _ _ _ _ _ _ _ _ _ _ _ _ _ _ _ _ _ _ _ _ _ _ _ _ hst3 hbo3 hrs3 o1 o2 o3 hB hZ l1 l2 l3 l4 l5 hbr hown (hR _)

end Go.Proofs.Qxb6625890a
