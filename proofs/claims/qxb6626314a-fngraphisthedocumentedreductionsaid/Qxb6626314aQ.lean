/-
  Seat b6626314a: the reduction, plain; the graph's end: sort and compact.
-/
import Derived.Test.Qxb6626314aP
namespace Go.Proofs.Qxb6626314a
open Go.RowKit Go.Maps Go.Sort
set_option linter.unusedVariables false
set_option linter.unusedSimpArgs false

/-! ### The reduction, plain -/
def rcell (p : Int × Bool) : List Value := [.int .i32 p.1, .bool p.2]
def flatR (l : List (Int × Bool)) : List Value := l.flatMap rcell
def itemL (G : List Int) (L : List Ac) (j : Nat) : List (Int × Bool) := (L.filter fun a => decide (a.item = (j : Int)) && decide (a.tx ∈ G)).map fun a => ((G.idxOf a.tx : Int), a.wr)
def addE (S : Nat → List Int) (f t : Int) : Nat → List Int := if f = t then S else updV S f.toNat (S f.toNat ++ [t])
def stepA (s : (Nat → List Int) × Int × List Int) (p : Int × Bool) : (Nat → List Int) × Int × List Int :=
  if p.2 then (s.2.2.foldl (fun S r => addE S r p.1) (if 0 ≤ s.2.1 then addE s.1 s.2.1 p.1 else s.1), p.1, [])
  else (if 0 ≤ s.2.1 then addE s.1 s.2.1 p.1 else s.1, s.2.1, s.2.2 ++ [p.1])
def redI (S : Nat → List Int) (l : List (Int × Bool)) : Nat → List Int := (l.foldl stepA (S, -1, [])).1
def redS (acc : Nat → List (Int × Bool)) (m : Nat) : Nat → List Int := (List.range m).foldl (fun S j => redI S (acc j)) (fun _ => [])
/-- The counted transactions. -/
def GPr (A : List Ac) (T X G : List Int) : Prop := G.Pairwise (· < ·) ∧ ∀ k, k ∈ G ↔ (k ∈ T ∨ k ∈ A.map Ac.tx) ∧ k ∉ X
/-- A graph that can be read. -/
structure GraphV (w : World) (gg : Nat) (ot : Option Addr) (ct ga gs : Nat) (G : List Int) (m : Nat) (acc : Nat → List (Int × Bool)) (succ : Nat → List Int) : Prop where
  blk : w.heap[gg]? = some (.cells #[.slice ot G.length ct, .slice (some ⟨ga, 0, none⟩) m m, .slice (some ⟨gs, 0, none⟩) G.length G.length] 57 (0, 0))
  tx : Sl w ot (int64s G)
  ac : ∀ j, j < m → ∃ o c, w.cell? ⟨ga, j, none⟩ = some (.slice o (acc j).length c) ∧ Sl w o (flatR (acc j))
  su : ∀ u, u < G.length → ∃ o c, w.cell? ⟨gs, u, none⟩ = some (.slice o (succ u).length c) ∧ Sl w o (ints (succ u))
/-- What Graph answers. -/
def GraphP (A : List Ac) (T X : List Int) (m : Nat) (w0 : World) (e : Ending) (w : World) : Prop :=
  ∃ gg ot ct ga gs G succ, e = .returned (.pointer (some ⟨gg, 0, none⟩)) ∧ GraphV w gg ot ct ga gs G m (itemL G A) succ ∧ Below w0.heap.size w0 w ∧ GPr A T X G ∧ G.length ≤ 12288 ∧
    ∀ u, u < G.length → (succ u).Pairwise (· < ·) ∧ SameM (succ u) (redS (itemL G A) m u) ∧ (succ u).length ≤ 100000000
structure GA (B gp gg ga m : Nat) (G : List Int) (acc : Nat → List (Int × Bool)) (VA : Nat → Value) (v1 v3 : Value) (w : World) : Prop where
  gb : GB B gp gg v1 (.slice (some ⟨ga, 0, none⟩) m m) v3 w
  tx : w.ownsRow B 2 1 v1 G.length (int64s G)
  ac : RT B 70 2 ga 68 m (fun j => (acc j).length) (fun j => flatR (acc j)) VA w
theorem GA.keptT {B gp gg ga m : Nat} {G : List Int} {acc : Nat → List (Int × Bool)} {VA : Nat → Value} {v1 v3 : Value} {w w' : World} {row : Option Nat} (h : GA B gp gg ga m G acc VA v1 v3 w) (hg : w.grownBy w' row) (ht : ∀ g, row = some g → ∃ c e fr, w.heap[g]? = some (.cells c e fr) ∧ (e = 21 ∨ e = 44)) : GA B gp gg ga m G acc VA v1 v3 w' := by
  refine ⟨h.gb.keptT hg (fun g hr => ?_), row_kept h.tx hg (fun g hv hr => ?_), ?_⟩
  · obtain ⟨c, e, fr, hc, hh⟩ := ht g hr
    exact ⟨c, e, fr, hc, by rcases hh with rfl | rfl <;> decide, by rcases hh with rfl | rfl <;> decide⟩
  · obtain ⟨c, e, fr, hc, hh⟩ := ht g hr.symm
    obtain ⟨_, cur, hcur⟩ := row_tag h.tx g hv
    exact ne_of_tag hcur hc (by rcases hh with rfl | rfl <;> decide) rfl
  · exact h.ac.keptT hg (fun g hr => by
      obtain ⟨c, e, fr, hc, hh⟩ := ht g hr
      exact ⟨c, e, fr, hc, by rcases hh with rfl | rfl <;> decide, by rcases hh with rfl | rfl <;> decide⟩)
theorem GA.below {B gp gg ga m : Nat} {G : List Int} {acc : Nat → List (Int × Bool)} {VA : Nat → Value} {v1 v3 : Value} {w w' : World} (h : GA B gp gg ga m G acc VA v1 v3 w) (hb : Below w.heap.size w w') : GA B gp gg ga m G acc VA v1 v3 w' :=
  h.keptT (grown_of_below hb) (fun g hr => by cases hr)

set_option maxRecDepth 100000 in
set_option maxHeartbeats 2000000 in
theorem g13 {R : Ending → World → Prop} {B gp gg : Nat} {v1 v2 v3 : Value} {w : World} (u0 u1 u2 u4 u5 u6 u7 u8 u9 u10 u11 u12 u13 u14 u15 u16 u17 u18 u19 u20 u21 u22 u23 u24 u25 u26 u27 u28 u29 u30 u31 u32 u33 u34 u35 u36 u37 u38 u39 u40 u41 u42 u43 u44 u45 u46 u47 u48 u49 u50 u51 u52 u53 u54 u55 u56 u57 u58 u59 u60 u61 u62 u63 u64 u65 u66 u67 u68 u69 u70 u71 u72 u73 u74 u75 u76 u77 u78 u79 u80 u81 u82 u83 u84 u85 u86 u87 u88 u89 u90 u91 u92 u93 u94 u95 u96 u97 u98 u99 u100 u101 u102 u103 u104 u105 u106 u107 u108 u109 u110 u111 u112 u113 u114 u115 u116 u117 u118 u119 u120 u121 u122 u123 u124 u125 u126 u127 u128 u129 u130 u131 u132 u133 u134 u135 u136 u137 u138 u139 u140 u141 u142 u143 u144 u145 u146 u147 u148 u149 u150 u151 u152 u153 u154 u155 u156 u157 u158 u159 u160 u161 u162 u163 u164 u165 u166 u167 u168 u169 u170 u171 u172 u173 u174 u175 u176 u177 u178 u179 u180 u181 u182 u183 u184 u185 u186 u187 u188 u189 u190 u191 u192 u193 u194 u195 u196 u197 u198 u199 u200 u201 u202 u203 u204 u205 u206 : Value)
    (HG : Hid (GB B gp gg v1 v2 v3 w)) (HR : Hid (R (.returned (.pointer (some ⟨gg, 0, none⟩))) w)) :
    Code.wp Try.prog (tl Try.f8 13) (bodyPost Try.prog Try.f8 R) ⟨#[u0, u1, u2, .pointer (some ⟨gp, 0, none⟩), u4, u5, u6, u7, u8, u9, u10, u11, u12, u13, u14, u15, u16, u17, u18, u19, u20, u21, u22, u23, u24, u25, u26, u27, u28, u29, u30, u31, u32, u33, u34, u35, u36, u37, u38, u39, u40, u41, u42, u43, u44, u45, u46, u47, u48, u49, u50, u51, u52, u53, u54, u55, u56, u57, u58, u59, u60, u61, u62, u63, u64, u65, u66, u67, u68, u69, u70, u71, u72, u73, u74, u75, u76, u77, u78, u79, u80, u81, u82, u83, u84, u85, u86, u87, u88, u89, u90, u91, u92, u93, u94, u95, u96, u97, u98, u99, u100, u101, u102, u103, u104, u105, u106, u107, u108, u109, u110, u111, u112, u113, u114, u115, u116, u117, u118, u119, u120, u121, u122, u123, u124, u125, u126, u127, u128, u129, u130, u131, u132, u133, u134, u135, u136, u137, u138, u139, u140, u141, u142, u143, u144, u145, u146, u147, u148, u149, u150, u151, u152, u153, u154, u155, u156, u157, u158, u159, u160, u161, u162, u163, u164, u165, u166, u167, u168, u169, u170, u171, u172, u173, u174, u175, u176, u177, u178, u179, u180, u181, u182, u183, u184, u185, u186, u187, u188, u189, u190, u191, u192, u193, u194, u195, u196, u197, u198, u199, u200, u201, u202, u203, u204, u205, u206], []⟩ w := by
  have c0 : w.cell? ⟨gp, 0, none⟩ = some (.pointer (some ⟨gg, 0, none⟩)) := cell_blk HG.out.p rfl
  conv => arg 2; whnf
  go_wp2_with fail
  exact HR.out

/-- Sorting: the rows below q are done. -/
structure SR (B gp gg ga gs m n : Nat) (G : List Int) (acc : Nat → List (Int × Bool)) (VA : Nat → Value) (v1 : Value) (S : Nat → List Int) (w0 : World) (q : Nat) (S' : Nat → List Int) (V : Nat → Value) (w : World) : Prop where
  a : GA B gp gg ga m G acc VA v1 (.slice (some ⟨gs, 0, none⟩) n n) w
  t : RT B 21 1 gs 44 n (fun u => (S' u).length) (fun u => ints (S' u)) V w
  b : Below B w0 w
  d : ∀ u, u < q → (S' u).Pairwise (· < ·) ∧ SameM (S' u) (S u) ∧ (S' u).length ≤ 100000000
  k : ∀ u, q ≤ u → S' u = S u
theorem len_ints (l : List Int) : (ints l).length = l.length := by simp [ints]
theorem SR.same {B gp gg ga gs m n : Nat} {G : List Int} {acc : Nat → List (Int × Bool)} {VA : Nat → Value} {v1 : Value} {S : Nat → List Int} {w0 w w1 : World} {q : Nat} {S' : Nat → List Int} {V : Nat → Value} (h : SR B gp gg ga gs m n G acc VA v1 S w0 q S' V w) (hq : q < n)
    (k1 : KeepF (fun k => (V q).ownBlock = some k) w w1) : GA B gp gg ga m G acc VA v1 (.slice (some ⟨gs, 0, none⟩) n n) w1 ∧ w1.heap[gs]? = some (.cells ((List.range n).map V).toArray 44 (0, 0)) := by
  have tagq : ∀ g, (V q).ownBlock = some g → ∃ c, w.heap[g]? = some (.cells c 21 (0, 0)) := fun g hg => (row_tag (h.t.row q hq) g hg).2
  have hg12 : w.grownBy w1 (V q).ownBlock := ⟨k1.os, k1.tape, k1.output, k1.size, fun k hk hne => k1.block k hk (fun e => hne e.symm)⟩
  exact ⟨h.a.keptT hg12 (fun g hg => by obtain ⟨c, hc⟩ := tagq g hg; exact ⟨c, 21, _, hc, Or.inl rfl⟩), blk_kept hg12 h.t.blk (fun e => by
    obtain ⟨c, hc⟩ := tagq gs e.symm
    exact ne_of_tag hc h.t.blk (by decide) rfl)⟩
theorem SR.step {B gp gg ga gs m n : Nat} {G : List Int} {acc : Nat → List (Int × Bool)} {VA : Nat → Value} {v1 : Value} {S : Nat → List Int} {w0 w w1 w2 : World} {q : Nat} {S' : Nat → List Int} {V : Nat → Value} (h : SR B gp gg ga gs m n G acc VA v1 S w0 q S' V w) (hq : q < n)
    (k1 : KeepF (fun k => (V q).ownBlock = some k) w w1) (k2 : KeepF (fun k => (V q).ownBlock = some k) w1 w2) {ys : List Int} {v' : Value} {n' : Nat} (hs : SameM ys (S' q)) (hp : ys.Pairwise (· < ·)) (hl : ys.length ≤ 100000000)
    (ho : w2.ownsRow B 21 1 v' n' (ints ys)) (hv : v'.ownBlock = (V q).ownBlock) : SR B gp gg ga gs m n G acc VA v1 S w0 (q + 1) (updV S' q ys) (updV V q v') (w2.setCell ⟨gs, q, none⟩ v') ∧ GA B gp gg ga m G acc VA v1 (.slice (some ⟨gs, 0, none⟩) n n) w2 ∧ w2.heap[gs]? = some (.cells ((List.range n).map V).toArray 44 (0, 0)) := by
  have k12 := k1.trans k2
  have hn' : n' = ys.length := by have := ho.1; rw [len_ints] at this; omega
  have hput := h.t.put hq k12 ho (fun g hg => Or.inl (by rw [← hv]; exact hg))
  have tagq : ∀ g, (V q).ownBlock = some g → ∃ c, w.heap[g]? = some (.cells c 21 (0, 0)) := fun g hg => (row_tag (h.t.row q hq) g hg).2
  have hg12 : w.grownBy w2 (V q).ownBlock := ⟨k12.os, k12.tape, k12.output, k12.size, fun k hk hne => k12.block k hk (fun e => hne e.symm)⟩
  have hA2 := h.a.keptT hg12 (fun g hg => by obtain ⟨c, hc⟩ := tagq g hg; exact ⟨c, 21, _, hc, Or.inl rfl⟩)
  have hgs2 : w2.heap[gs]? = some (.cells ((List.range n).map V).toArray 44 (0, 0)) := blk_kept hg12 h.t.blk (fun e => by
    obtain ⟨c, hc⟩ := tagq gs e.symm
    exact ne_of_tag hc h.t.blk (by decide) rfl)
  have hset := grown_setCell (w := w2) gs q v'
  refine ⟨⟨hA2.keptT hset (fun g hg => by cases hg; exact ⟨_, 44, _, hgs2, Or.inr rfl⟩), ?_, ?_, fun u hu => ?_, fun u hu => ?_⟩, hA2, hgs2⟩
  · have e1 : (fun u => ((updV S' q ys) u).length) = updV (fun u => (S' u).length) q n' := by
      funext u; unfold updV; by_cases e : u = q <;> simp [e, hn']
    have e2 : (fun u => ints ((updV S' q ys) u)) = updV (fun u => ints (S' u)) q (ints ys) := by
      funext u; unfold updV; by_cases e : u = q <;> simp [e]
    rw [e1, e2]; exact hput
  · have hb2 : Below B w w2 := ⟨k12.os, k12.tape, k12.output, k12.size, fun k hk => k12.block k (by have := (Array.getElem?_eq_some_iff.1 h.t.blk).1; have := h.t.lt; omega) (fun e => by
      have := (row_tag (h.t.row q hq) k e).1; omega)⟩
    exact (h.b.trans hb2).setCell h.t.lt _
  · by_cases e : u = q
    · subst e; rw [updV_same, ← h.k u (Nat.le_refl _)]; exact ⟨hp, hs, hl⟩
    · rw [updV_ne _ _ e]; exact h.d u (by omega)
  · rw [updV_ne _ _ (by omega)]; exact h.k u (by omega)

set_option maxRecDepth 100000 in
set_option maxHeartbeats 2000000 in
theorem g12 {R : Ending → World → Prop} {B gp gg ga gs m n : Nat} {G : List Int} {acc : Nat → List (Int × Bool)} {VA : Nat → Value} {v1 : Value} {S : Nat → List Int} {w0 w : World} (u0 u1 u2 u4 u5 u6 u7 u8 u9 u10 u11 u12 u13 u14 u15 u16 u17 u18 u19 u20 u21 u22 u23 u24 u25 u26 u27 u28 u29 u30 u31 u32 u33 u34 u35 u36 u37 u38 u39 u40 u41 u42 u43 u44 u45 u46 u47 u48 u49 u50 u51 u52 u53 u54 u55 u56 u57 u58 u59 u60 u61 u62 u63 u64 u65 u66 u67 u68 u69 u70 u71 u72 u73 u74 u75 u76 u77 u78 u79 u80 u81 u82 u83 u84 u85 u86 u87 u88 u89 u90 u91 u92 u93 u94 u95 u96 u97 u98 u99 u100 u101 u102 u103 u104 u105 u106 u107 u108 u109 u110 u111 u112 u113 u114 u115 u116 u117 u118 u119 u120 u121 u122 u123 u124 u125 u126 u127 u128 u129 u130 u131 u132 u133 u134 u135 u136 u137 u138 u139 u140 u141 u142 u143 u144 u145 u146 u147 u148 u149 u150 u151 u152 u153 u154 u155 u156 u157 u158 u159 u160 u161 u162 u163 u164 u165 u166 u167 u168 u169 u170 u171 u172 u173 u174 u175 u176 u177 u178 u179 u180 u181 u182 u183 u184 u185 u186 u187 u188 u189 u190 u191 u192 u193 u194 u195 u196 u197 u198 u199 u200 u201 u202 u203 u204 u205 u206 : Value)
    (HGA : Hid (GA B gp gg ga m G acc VA v1 (.slice (some ⟨gs, 0, none⟩) n n) w)) (HRT : Hid (∃ V, RT B 21 1 gs 44 n (fun u => (S u).length) (fun u => ints (S u)) V w)) (HB : Hid (Below B w0 w)) (hn : n ≤ 12288) (HS : Hid (∀ u, u < n → (S u).length ≤ 100000000))
    (HR : Hid (∀ (S' : Nat → List Int) (w' : World), GA B gp gg ga m G acc VA v1 (.slice (some ⟨gs, 0, none⟩) n n) w' → (∃ V, RT B 21 1 gs 44 n (fun u => (S' u).length) (fun u => ints (S' u)) V w') → Below B w0 w' → (∀ u, u < n → (S' u).Pairwise (· < ·) ∧ SameM (S' u) (S u) ∧ (S' u).length ≤ 100000000) → R (.returned (.pointer (some ⟨gg, 0, none⟩))) w')) :
    Code.wp Try.prog (tl Try.f8 12) (bodyPost Try.prog Try.f8 R) ⟨#[u0, u1, u2, .pointer (some ⟨gp, 0, none⟩), u4, u5, u6, u7, u8, u9, u10, u11, u12, u13, u14, u15, u16, u17, u18, u19, u20, u21, u22, u23, u24, u25, u26, u27, u28, u29, u30, u31, u32, u33, u34, u35, u36, u37, u38, u39, u40, u41, u42, u43, u44, u45, u46, u47, u48, u49, u50, u51, u52, u53, u54, u55, u56, u57, u58, u59, u60, u61, u62, u63, u64, u65, u66, u67, u68, u69, u70, u71, u72, u73, u74, u75, u76, u77, u78, u79, u80, u81, u82, u83, u84, u85, u86, u87, u88, u89, u90, u91, u92, u93, u94, u95, u96, u97, u98, u99, u100, u101, u102, u103, u104, u105, u106, u107, u108, u109, u110, u111, u112, u113, u114, u115, u116, u117, u118, u119, u120, u121, u122, u123, u124, u125, u126, u127, u128, u129, u130, u131, u132, u133, u134, u135, u136, u137, u138, u139, u140, u141, u142, u143, u144, u145, u146, u147, u148, u149, u150, u151, u152, u153, u154, u155, u156, u157, u158, u159, u160, u161, u162, u163, u164, u165, u166, u167, u168, u169, u170, u171, u172, u173, u174, u175, u176, u177, u178, u179, u180, u181, u182, u183, u184, u185, u186, u187, u188, u189, u190, u191, u192, u193, u194, u195, u196, u197, u198, u199, u200, u201, u202, u203, u204, u205, u206], []⟩ w := by
  have c0 : w.cell? ⟨gp, 0, none⟩ = some (.pointer (some ⟨gg, 0, none⟩)) := cell_blk HGA.out.gb.p rfl
  have c2 : w.cell? ⟨gg, 2, none⟩ = some (.slice (some ⟨gs, 0, none⟩) n n) := cell_blk HGA.out.gb.g rfl
  rw [tl8_12]
  refine wp_seq_k (fun K hK => ?_)
  conv => arg 2; whnf
  go_wp2_with fail
  go_loopw [190] (fun vq wr => ∃ q : Nat, vq = .int .i64 q ∧ q ≤ n ∧ Hid (∃ S' V, SR B gp gg ga gs m n G acc VA v1 S w0 q S' V wr)) (fun vq _ => n - (intOf vq).toNat)
  case atStart =>
    obtain ⟨V, hV⟩ := HRT.out
    exact ⟨0, rfl, by omega, ⟨S, V, HGA.out, hV, HB.out, fun u hu => absurd hu (by omega), fun _ _ => rfl⟩⟩
  case round =>
    clear c0 c2 HGA HRT HB
    obtain ⟨q, rfl, hq, HO⟩ := hrel
    by_cases hlt : q < n
    · have hlt' : (q : Int) < (n : Int) := by omega
      obtain ⟨S', V, hSR⟩ := HO.out
      have cq := hSR.t.cell hlt
      have HSR : Hid _ := hSR
      have HC : Hid _ := sort32 B (V q) _ (S' q) wr (hSR.t.row q hlt) (by rw [hSR.k q (Nat.le_refl _)]; exact HS.out q hlt)
      clear HO hSR
      generalize hVq : V q = vq at cq HC
      have HVQ : Hid (V q = vq) := hVq
      clear hVq
      go_wp2_with fail
      refine Calls.mono HC.out ?_
      rintro e w1 ⟨rfl, ys, h1, h2, h3, h4⟩
      have hl1 : (S' q).length ≤ 100000000 := by rw [HSR.out.k q (Nat.le_refl _)]; exact HS.out q hlt
      have k1 : KeepF (fun k => (V q).ownBlock = some k) wr w1 := by rw [HVQ.out]; exact h4
      have hst := HSR.out.same hlt k1
      have p0 : w1.cell? ⟨gp, 0, none⟩ = some (.pointer (some ⟨gg, 0, none⟩)) := cell_blk hst.1.gb.p rfl
      have p2 : w1.cell? ⟨gg, 2, none⟩ = some (.slice (some ⟨gs, 0, none⟩) n n) := cell_blk hst.1.gb.g rfl
      have p3 : w1.cell? ⟨gs, q, none⟩ = some vq := by rw [← HVQ.out]; exact cell_blk hst.2 (by simp [hlt])
      have p4 := frz_blk hst.2 q
      have HNE : Hid (gp ≠ gs ∧ gg ≠ gs) := ⟨ne_of_tag hst.1.gb.p hst.2 (by decide), ne_of_tag hst.1.gb.g hst.2 (by decide)⟩
      have HST : Hid _ := hst
      have HY : Hid (w1.ownsRow B 21 1 vq (S' q).length (ints ys) ∧ ys.Perm (S' q) ∧ ys.Pairwise (· ≤ ·) ∧ KeepF (fun k => (V q).ownBlock = some k) wr w1) := ⟨h1, h2, h3, k1⟩
      clear HC h1 h2 h3 h4 k1 hst cq
      go_wp2_with fail
      refine wp_shade2 (fun KK hKK => ?_)
      have HKK : Hid _ := hKK
      clear hKK
      go_region_held3 (fun w' => w'.cell? ⟨gp, 0, none⟩ = some (.pointer (some ⟨gg, 0, none⟩)) ∧ w'.cell? ⟨gg, 2, none⟩ = some (.slice (some ⟨gs, 0, none⟩) n n))
        (first | go_keep | (exact ⟨hx1, hx2⟩) | (exact ⟨cell_setCell_other hx1 HNE.out.1, cell_setCell_other hx2 HNE.out.2⟩))
        ((go_at_call 31; refine Calls.mono (compact32 B vq _ ys _ (by first | exact HY.out.1 | exact World.ownsRow.drew HY.out.1) hl1) ?_; rintro e w3 ⟨v', n', rfl, ho3, hv3, hk3⟩; have hk4 : KeepF (fun k => (V q).ownBlock = some k) w1 w3 := (by rw [HVQ.out]; first | exact hk3 | exact (KeepF.of_below (Below.drew (Below.refl _ _))).trans hk3); have hs3 := HSR.out.same hlt (HY.out.2.2.2.trans hk4); have hx1 : w3.cell? ⟨gp, 0, none⟩ = some (.pointer (some ⟨gg, 0, none⟩)) := cell_blk hs3.1.gb.p rfl; have hx2 : w3.cell? ⟨gg, 2, none⟩ = some (.slice (some ⟨gs, 0, none⟩) n n) := cell_blk hs3.1.gb.g rfl; have hx3 : w3.cell? ⟨gs, q, none⟩ = some vq := (by rw [← HVQ.out]; exact cell_blk hs3.2 (by simp [hlt])); have hx4 := frz_blk hs3.2 q; obtain ⟨o3, cp3, hv3'⟩ := row_shape ho3; subst hv3'))
      refine HKK.out _ _ ?_
      clear HKK KK
      obtain ⟨cs1, cs2⟩ := compact_sorted ys HY.out.2.2.1
      have hstep := (HSR.out.step hlt HY.out.2.2.2 hk4 (ys := Lib.compact ys) (fun x => (cs1 x).trans HY.out.2.1.mem_iff) cs2 (by
        have h1 := compact_len ys.toArray ys.length
        have h2 := HY.out.2.1.length_eq
        unfold Lib.compact
        omega) ho3 (by rw [HVQ.out]; exact hv3)).1
      have HZ : Hid (∃ S' V, SR B gp gg ga gs m n G acc VA v1 S w0 (q + 1) S' V (w3.setCell ⟨gs, q, none⟩ (.slice o3 n' cp3))) := ⟨_, _, hstep⟩
      clear hstep cs1 cs2 hx1 hx2 hx3 hx4 hs3 hk4 hk3 hv3 ho3 p0 p2 p3 p4 HNE HST HY HSR HVQ
      go_wp2_with fail
      go_roundw
      case rel => exact ⟨q + 1, by go_num, by omega, HZ⟩
      case measure => simp [intOf]; omega
    · have hq' : q = n := by omega
      obtain ⟨S', V, hSR⟩ := HO.out
      have HZ : Hid (R (.returned (.pointer (some ⟨gg, 0, none⟩))) wr) := HR.out S' wr hSR.a ⟨V, hSR.t⟩ hSR.b (fun u hu => hSR.d u (by omega))
      have HG : Hid _ := hSR.a.gb
      clear HO hSR
      subst hq'
      go_wp2_with fail
      exact g13 _ _ _ _ _ _ _ _ _ _ _ _ _ _ _ _ _ _ _ _ _ _ _ _ _ _ _ _ _ _ _ _ _ _ _ _ _ _ _ _ _ _ _ _ _ _ _ _ _ _ _ _ _ _ _ _ _ _ _ _ _ _ _ _ _ _ _ _ _ _ _ _ _ _ _ _ _ _ _ _ _ _ _ _ _ _ _ _ _ _ _ _ _ _ _ _ _ _ _ _ _ _ _ _ _ _ _ _ _ _ _ _ _ _ _ _ _ _ _ _ _ _ _ _ _ _ _ _ _ _ _ _ _ _ _ _ _ _ _ _ _ _ _ _ _ _ _ _ _ _ _ _ _ _ _ _ _ _ _ _ _ _ _ _ _ _ _ _ _ _ _ _ _ _ _ _ _ _ _ _ _ _ _ _ _ _ _ _ _ _ _ _ _ _ _ _ _ _ _ _ _ _ _ _ _ _ HG HZ
end Go.Proofs.Qxb6626314a
