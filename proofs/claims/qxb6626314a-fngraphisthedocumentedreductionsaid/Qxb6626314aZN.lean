/-
  Seat b6626314a: the law of the reduction: the walk.
-/
import Derived.Test.Qxb6626314aZM
namespace Go.Proofs.Qxb6626314a
open Go.RowKit Go.Maps Go.Sort
set_option linter.unusedVariables false
set_option linter.unusedSimpArgs false

/-! ### The law FnGraphIsTheDocumentedReduction -/
set_option maxRecDepth 100000 in
theorem gitems_any {w : World} {gg ga m : Nat} {v1 v3 : Value} (h : w.heap[gg]? = some (.cells #[v1, .slice (some ⟨ga, 0, none⟩) m m, v3] 57 (0, 0))) : Calls Try.prog 12 #[.pointer (some ⟨gg, 0, none⟩)] w fun e w' => e = .returned (.int .i64 m) ∧ w' = w := by
  have c0 : w.cell? ⟨gg, 1, none⟩ = some (.slice (some ⟨ga, 0, none⟩) m m) := cell_blk h rfl
  clear h
  go_enter Try.func12, Try.ntmps12
  go_wp2_with fail
  go_ret
  exact ⟨rfl, rfl⟩
set_option maxRecDepth 100000 in
theorem gilen_any {w : World} {gg ga m j l c : Nat} {o : Option Addr} {v1 v3 : Value} (h : w.heap[gg]? = some (.cells #[v1, .slice (some ⟨ga, 0, none⟩) m m, v3] 57 (0, 0))) (hj : j < m) (hc : w.cell? ⟨ga, j, none⟩ = some (.slice o l c)) : Calls Try.prog 14 #[.pointer (some ⟨gg, 0, none⟩), .int .i64 j] w fun e w' => e = .returned (.int .i64 l) ∧ w' = w := by
  have c0 : w.cell? ⟨gg, 1, none⟩ = some (.slice (some ⟨ga, 0, none⟩) m m) := cell_blk h rfl
  have hj' : (j : Int) < (m : Int) := by omega
  clear h
  go_enter Try.func14, Try.ntmps14
  go_wp2_with fail
  go_ret
  exact ⟨rfl, rfl⟩
set_option maxRecDepth 100000 in
set_option maxHeartbeats 1000000 in
theorem gacc_any {w : World} {gg ga m j l c k : Nat} {o : Option Addr} {v1 v3 : Value} {L : List (Int × Bool)} (h : w.heap[gg]? = some (.cells #[v1, .slice (some ⟨ga, 0, none⟩) m m, v3] 57 (0, 0))) (hj : j < m) (hc : w.cell? ⟨ga, j, none⟩ = some (.slice o L.length c)) (hs : Sl w o (flatR L)) (hk : k < L.length) :
    Calls Try.prog 15 #[.pointer (some ⟨gg, 0, none⟩), .int .i64 j, .int .i64 k] w fun e w' => e = .returned (.tuple #[.int .i32 (gp2 L k).1, .bool (gp2 L k).2]) ∧ Below w.heap.size w w' := by
  have c0 : w.cell? ⟨gg, 1, none⟩ = some (.slice (some ⟨ga, 0, none⟩) m m) := cell_blk h rfl
  have hj' : (j : Int) < (m : Int) := by omega
  have hk' : (k : Int) < (L.length : Int) := by omega
  obtain ⟨b, off, ho, d0, d1⟩ := rac_cell hs hk
  obtain ⟨w2, hw2⟩ : ∃ w2, w2 = w.alloc (.cells #[.int .i32 (gp2 L k).1, .bool (gp2 L k).2] 70) := ⟨_, rfl⟩
  have hb2 : Below w.heap.size w w2 := by rw [hw2]; exact (Below.refl _ _).alloc (Nat.le_refl _) _
  have hblk : w2.heap[w.heap.size]? = some (.cells #[.int .i32 (gp2 L k).1, .bool (gp2 L k).2] 70 (0, 0)) := by rw [hw2]; exact heap_alloc_new w _
  have k0 : w2.cell? ⟨w.heap.size, 0, none⟩ = some (.int .i32 (gp2 L k).1) := cell_blk hblk rfl
  have k1 : w2.cell? ⟨w.heap.size, 1, none⟩ = some (.bool (gp2 L k).2) := cell_blk hblk rfl
  have HW2 : Hid (w2 = w.alloc (.cells #[.int .i32 (gp2 L k).1, .bool (gp2 L k).2] 70)) := hw2
  have HB2 : Hid _ := hb2
  change w.cell? _ = some (.int .i32 (gp2 L k).1) at d0
  change w.cell? _ = some (.bool (gp2 L k).2) at d1
  generalize (gp2 L k).1 = x at *
  generalize (gp2 L k).2 = y at *
  subst ho
  clear h hs hw2 hb2 hblk
  go_enter Try.func15, Try.ntmps15
  go_upto_region 2 with fail
  rw [← HW2.out]
  clear HW2 d0 d1 c0
  go_quiet (fail)
  have HB3 : Hid (Below w.heap.size w (w2.drewN nq)) := below_drewN HB2.out nq
  go_wp2_with fail
  go_ret2
  exact ⟨rfl, HB3.out⟩
/-- The item's place of access q. -/
theorem item_place (G : List Int) (A : List Ac) (q f : Nat) (hq : q < A.length) (hG : (A.getD q a0).tx ∈ G) (hf : (A.getD q a0).item = f) : (itemL G (A.take q) f).length < (itemL G A f).length ∧ gp2 (itemL G A f) (itemL G (A.take q) f).length = ((G.idxOf (A.getD q a0).tx : Int), (A.getD q a0).wr) := by
  have h1 : itemL G (A.take (q + 1)) f = itemL G (A.take q) f ++ [((G.idxOf (A.getD q a0).tx : Int), (A.getD q a0).wr)] := by rw [itemL_take G A q f hq hG hf, updV_same]
  have h2 : itemL G A f = itemL G (A.take (q + 1)) f ++ itemL G (A.drop (q + 1)) f := by
    conv => lhs; rw [← List.take_append_drop (q + 1) A]
    unfold itemL
    rw [List.filter_append, List.map_append]
  rw [h2, h1]
  refine ⟨by simp, ?_⟩
  unfold gp2
  rw [List.append_assoc]
  simp [List.getD_eq_getElem?_getD]
/-- The places, as counted so far. -/
structure PS (w1 : World) (gpo m : Nat) (G : List Int) (A : List Ac) (q : Nat) (w : World) : Prop where
  p : ∃ P : List Int, BI w gpo P ∧ P.length = m ∧ ∀ j, j < m → P.getD j 0 = ((itemL G (A.take q) j).length : Int)
  l : w1.heap.size ≤ gpo
  b : Below w1.heap.size w1 w
theorem PS.below {w1 : World} {gpo m : Nat} {G : List Int} {A : List Ac} {q : Nat} {w w' : World} (h : PS w1 gpo m G A q w) (hb : Below w.heap.size w w') : PS w1 gpo m G A q w' := by
  obtain ⟨P, a, b⟩ := h.p
  exact ⟨⟨P, a.below hb, b⟩, h.l, h.b.trans (hb.mono h.b.size)⟩
theorem PS.cell {w1 : World} {gpo m : Nat} {G : List Int} {A : List Ac} {q : Nat} {w : World} (h : PS w1 gpo m G A q w) {j : Nat} (hj : j < m) : w.cell? ⟨gpo, j, none⟩ = some (.int .i64 ((itemL G (A.take q) j).length : Int)) ∧ w.frozen? ⟨gpo, j, none⟩ = false := by
  obtain ⟨P, a, b, c⟩ := h.p
  have := a.cell (show j < P.length by omega)
  rw [c j hj] at this
  exact ⟨this, frz_blk a j⟩
theorem PS.skip {w1 : World} {gpo m : Nat} {G : List Int} {A : List Ac} {q : Nat} {w : World} (h : PS w1 gpo m G A q w) (hq : q < A.length) (hG : (A.getD q a0).tx ∉ G) : PS w1 gpo m G A (q + 1) w := ⟨by rw [itemL_skip G A q hq hG]; exact h.p, h.l, h.b⟩
theorem PS.put {w1 : World} {gpo m : Nat} {G : List Int} {A : List Ac} {q f : Nat} {w : World} (h : PS w1 gpo m G A q w) (hq : q < A.length) (hG : (A.getD q a0).tx ∈ G) (hf : (A.getD q a0).item = f) (hfm : f < m) : PS w1 gpo m G A (q + 1) (w.setCell ⟨gpo, f, none⟩ (.int .i64 (((itemL G (A.take q) f).length : Int) + 1))) := by
  obtain ⟨P, a, b, c⟩ := h.p
  refine ⟨⟨P.set f (((itemL G (A.take q) f).length : Int) + 1), a.put f _, by simp [b], fun j hj => ?_⟩, h.l, h.b.setCell h.l _⟩
  rw [itemL_take G A q f hq hG hf]
  by_cases e : j = f
  · subst e; rw [updV_same, List.length_append]; simp [b, hj]
  · rw [updV_ne _ _ e, ← c j hj]; simp [Ne.symm e]
/-- The wanted edges are the packed successors. -/
theorem want_eq {G : List Int} {A : List Ac} {m : Nat} {succ : Nat → List Int} {ys : List Int} (hG : G.length ≤ 12288) (hrel : ∀ u, u < G.length → SameM (succ u) (redJ (itemL G A) m u)) (hs : ∀ u, u < G.length → (succ u).Pairwise (· < ·)) (ha : ys.Pairwise (· < ·)) (hm : ∀ x, x ∈ ys ↔ M0 G A m x) : ys = flatP succ G.length := by
  have hix : ∀ i, ∀ p, p < (itemL G A i).length → ∃ t : Nat, (gp2 (itemL G A i) p).1 = t := fun i p hp => ix_of_item G A i p hp
  refine asc_ext _ _ ha (flatP_asc succ G.length (fun u hu => ⟨hs u hu, fun v hv => ?_⟩)) (fun x => ?_)
  · obtain ⟨v', e, h2, _⟩ := edge_sound ((hrel u hu v).1 hv)
    omega
  · rw [hm x, flatP_mem]
    constructor
    · rintro ⟨i, hi, p, q, h⟩
      obtain ⟨u, v, he, rfl⟩ := (EPx_edge (hix i) x).1 ⟨p, q, h⟩
      have hr : v ∈ redJ (itemL G A) m u := (redJ_mem _ _ _ _ (fun j _ p hp => hix j p hp)).2 ⟨i, hi, he⟩
      obtain ⟨v', e, h2, h3, _⟩ := edge_sound hr
      exact ⟨u, v, h3, (hrel u h3 v).2 hr, rfl⟩
    · rintro ⟨u, v, hu, hv, rfl⟩
      obtain ⟨i, hi, he⟩ := (redJ_mem _ _ _ _ (fun j _ p hp => hix j p hp)).1 ((hrel u hu v).1 hv)
      obtain ⟨p, q, h⟩ := (EPx_edge (hix i) _).2 ⟨u, v, he, rfl⟩
      exact ⟨i, hi, p, q, h⟩
theorem tl3_0 : tl Try.f3 0 = Code.seq (st Try.f3 0) (tl Try.f3 1) := by kernel_rfl
theorem tl3_1 : tl Try.f3 1 = Code.seq (st Try.f3 1) (tl Try.f3 2) := by kernel_rfl
theorem tl3_2 : tl Try.f3 2 = Code.seq (st Try.f3 2) (tl Try.f3 3) := by kernel_rfl
theorem tl3_3 : tl Try.f3 3 = Code.seq (st Try.f3 3) (tl Try.f3 4) := by kernel_rfl
theorem tl3_4 : tl Try.f3 4 = Code.seq (st Try.f3 4) (tl Try.f3 5) := by kernel_rfl
theorem tl3_5 : tl Try.f3 5 = Code.seq (st Try.f3 5) (tl Try.f3 6) := by kernel_rfl
theorem tl3_6 : tl Try.f3 6 = Code.seq (st Try.f3 6) (tl Try.f3 7) := by kernel_rfl
theorem tl3_7 : tl Try.f3 7 = Code.seq (st Try.f3 7) (tl Try.f3 8) := by kernel_rfl
theorem tl3_8 : tl Try.f3 8 = Code.seq (st Try.f3 8) (tl Try.f3 9) := by kernel_rfl
theorem tl3_9 : tl Try.f3 9 = Code.seq (st Try.f3 9) (tl Try.f3 10) := by kernel_rfl
theorem tl3_10 : tl Try.f3 10 = Code.seq (st Try.f3 10) (tl Try.f3 11) := by kernel_rfl
theorem tl3_11 : tl Try.f3 11 = Code.seq (st Try.f3 11) (tl Try.f3 12) := by kernel_rfl
theorem tl3_12 : tl Try.f3 12 = Code.seq (st Try.f3 12) (tl Try.f3 13) := by kernel_rfl
theorem tl3_13 : tl Try.f3 13 = Code.seq (st Try.f3 13) (tl Try.f3 14) := by kernel_rfl
theorem tl3_14 : tl Try.f3 14 = Code.seq (st Try.f3 14) (tl Try.f3 15) := by kernel_rfl
theorem tl3_15 : tl Try.f3 15 = Code.seq (st Try.f3 15) (tl Try.f3 16) := by kernel_rfl
theorem tl3_16 : tl Try.f3 16 = Code.seq (st Try.f3 16) (tl Try.f3 17) := by kernel_rfl
theorem tl3_17 : tl Try.f3 17 = Code.seq (st Try.f3 17) (tl Try.f3 18) := by kernel_rfl
theorem tl3_18 : tl Try.f3 18 = Code.seq (st Try.f3 18) (tl Try.f3 19) := by kernel_rfl
theorem tl3_19 : tl Try.f3 19 = Code.seq (st Try.f3 19) (tl Try.f3 20) := by kernel_rfl
theorem tl3_20 : tl Try.f3 20 = Code.seq (st Try.f3 20) (tl Try.f3 21) := by kernel_rfl
theorem tl3_21 : tl Try.f3 21 = Code.seq (st Try.f3 21) (tl Try.f3 22) := by kernel_rfl

set_option maxRecDepth 100000 in
set_option maxHeartbeats 4000000 in
theorem b21 {w0 w1 w : World} {oa og ob : Option Addr} {cg gs ga gg m : Nat} {A : List Ac} {T X G ab : List Int} {succ : Nat → List Int} {oy : Option Addr} {ny cy : Nat} {ys : List Int} (u0 u1 u2 u3 u4 u5 u6 u7 u8 u9 u10 u12 u13 u14 u15 u16 u17 u18 u19 u20 u24 u25 u26 u27 u28 u29 u30 u31 u32 u33 u34 u35 u36 u37 u38 u39 u40 u41 u42 u43 u44 u45 u46 u47 u48 u49 u50 u51 u52 u53 u54 u55 u56 u57 u58 u59 u60 u61 u62 u63 u64 u65 u66 u67 u68 u69 u70 u71 u72 u73 u74 u75 u76 u77 u78 u79 u80 u81 u82 u83 u84 u85 u86 u87 u88 u89 u90 u91 u92 u93 u94 u95 u96 u97 u98 u99 u100 u101 u102 u103 u104 u105 u106 u107 u108 u109 u110 u111 u112 u113 u114 u115 u116 u117 u118 u119 u120 u121 u122 u123 u124 u125 u126 u127 u128 u129 u130 u131 u132 u133 u134 u135 u136 u137 u138 u139 u140 u141 u142 u143 u144 u145 u146 u147 u148 u149 u150 u151 u152 u153 u154 u155 u156 u157 u158 u159 u160 u161 u162 u163 u164 u165 u166 u167 u168 u169 u170 u171 u172 u173 u174 u175 u176 u177 u178 u179 u180 u181 u182 u183 u184 u185 u186 u187 u188 u189 u190 u191 u192 u193 u194 u195 u196 : Value)
    (HL : Hid (L4 w0 w1 oa og ob gs m A T X G ab succ)) (HGV : Hid (GraphV w1 gg og cg ga gs G m (itemL G A) succ)) (HSU : Hid (∀ u, u < G.length → (succ u).Pairwise (· < ·))) (HY : Hid (ny = ys.length ∧ Sl w oy (int64s ys) ∧ ys = flatP succ G.length ∧ ys.length ≤ 8192)) (HB : Hid (Below w1.heap.size w1 w)) :
    Code.wp Try.prog (tl Try.f3 21) (bodyPost Try.prog Try.f3 (fun e w' => e = .returned (.bool true) ∧ Below w0.heap.size w0 w')) ⟨#[u0, u1, u2, u3, u4, u5, u6, u7, u8, u9, u10, .slice og G.length cg, u12, u13, u14, u15, u16, u17, u18, u19, u20, .slice oy ny cy, .slice (some ⟨gs, 0, none⟩) G.length G.length, .int .i64 0, u24, u25, u26, u27, u28, u29, u30, u31, u32, u33, u34, u35, u36, u37, u38, u39, u40, u41, u42, u43, u44, u45, u46, u47, u48, u49, u50, u51, u52, u53, u54, u55, u56, u57, u58, u59, u60, u61, u62, u63, u64, u65, u66, u67, u68, u69, u70, u71, u72, u73, u74, u75, u76, u77, u78, u79, u80, u81, u82, u83, u84, u85, u86, u87, u88, u89, u90, u91, u92, u93, u94, u95, u96, u97, u98, u99, u100, u101, u102, u103, u104, u105, u106, u107, u108, u109, u110, u111, u112, u113, u114, u115, u116, u117, u118, u119, u120, u121, u122, u123, u124, u125, u126, u127, u128, u129, u130, u131, u132, u133, u134, u135, u136, u137, u138, u139, u140, u141, u142, u143, u144, u145, u146, u147, u148, u149, u150, u151, u152, u153, u154, u155, u156, u157, u158, u159, u160, u161, u162, u163, u164, u165, u166, u167, u168, u169, u170, u171, u172, u173, u174, u175, u176, u177, u178, u179, u180, u181, u182, u183, u184, u185, u186, u187, u188, u189, u190, u191, u192, u193, u194, u195, u196], []⟩ w := by
  have hG : G.length ≤ 12288 := HL.out.lG
  have hny : ny ≤ 8192 := by have h1 := HY.out.1; have h2 := HY.out.2.2.2; omega
  rw [tl3_21]
  refine wp_seq_k (fun K hK => ?_)
  conv => arg 2; whnf
  go_wp2_with fail
  go_loopw [23, 24] (fun vk vu wr => ∃ (k u : Nat), vk = .int .i64 k ∧ vu = .int .i64 u ∧ u ≤ G.length ∧ k ≤ 8192 ∧ Hid (k = (flatP succ u).length) ∧ Hid (Below w.heap.size w wr)) (fun _ vu _ => G.length - (intOf vu).toNat)
  case atStart => exact ⟨0, 0, rfl, rfl, Nat.zero_le _, Nat.zero_le _, rfl, Below.refl _ _⟩
  case round =>
    obtain ⟨k, u, rfl, rfl, hu, hk8, HK, HO⟩ := hrel
    by_cases hul : u < G.length
    · have hul' : (u : Int) < (G.length : Int) := by omega
      have hbw : Below w1.heap.size w1 wr := HB.out.trans (HO.out.mono HB.out.size)
      obtain ⟨o, c, cu, hsl⟩ := HL.out.row hbw hul
      have HSl : Hid (Sl w1 o (ints (succ u))) := hsl
      have hsl2 : (succ u).length ≤ 100000000 := (HL.out.su u hul).2.1
      clear hsl hbw
      go_wp2_with fail
      go_loopw [23, 171] (fun vk vi wr => ∃ (k i : Nat), vk = .int .i64 k ∧ vi = .int .i64 i ∧ i ≤ (succ u).length ∧ k ≤ 8192 ∧ Hid (k = (flatP succ u).length + i) ∧ Hid (Below w.heap.size w wr)) (fun _ vi _ => (succ u).length - (intOf vi).toNat)
      case atStart => exact ⟨k, 0, rfl, rfl, Nat.zero_le _, hk8, HK, HO⟩
      case round =>
        clear HO cu HK hk8
        obtain ⟨k2, i, rfl, rfl, hi, hk8, HK, HI⟩ := hrel
        by_cases hil : i < (succ u).length
        · have hil' : (i : Int) < ((succ u).length : Int) := by omega
          have hbw : Below w1.heap.size w1 wr := HB.out.trans (HI.out.mono HB.out.size)
          obtain ⟨b, off, ho, cv⟩ := i32_cell (HSl.out.below hbw) hil
          obtain ⟨v, hv, hvn, _, _⟩ := HL.out.edge hul hil
          obtain ⟨e1, e2⟩ := flatP_at succ u i hil G.length hul
          rw [← HK.out] at e1 e2
          have hkn : k2 < ys.length := by rw [HY.out.2.2.1]; exact e1
          obtain ⟨b', off', hoy, cy'⟩ := i64_cell (HY.out.2.1.below HI.out) hkn
          rw [HY.out.2.2.1, e2, hv] at cy'
          rw [hv] at cv
          have hkn1 : k2 < ny := by rw [HY.out.1]; exact hkn
          have hkn' : (k2 : Int) < (ny : Int) := by omega
          have d1 : decide ((ny : Int) ≤ (k2 : Int)) = false := decide_eq_false (by omega)
          have d2 : decide (ny ≤ k2) = false := decide_eq_false (by omega)
          have hpu : u ≤ 100000 := by omega
          have hpv : v ≤ 100000 := by omega
          have hw32 : IntKind.i32.wrap (u : Int) = (u : Int) := by
            unfold IntKind.wrap
            simp [IntKind.bits, IntKind.signed]
            omega
          have d3 : (pk u v != pk u v) = false := by simp
          clear hv e1 e2 hbw
          subst ho
          subst hoy
          go_upto_region 52 with fail
          go_quiet (first | (go_at_call 18; refine Calls.quiet_of_same (pack_any u v _ hpu hpv)))
          have HZ : Hid (Below w.heap.size w (wr.drewN nq)) := below_drewN HI.out nq
          have HK2 : Hid (k2 + 1 = (flatP succ u).length + (i + 1)) := by have := HK.out; show k2 + 1 = _; omega
          clear HI cv cy' d1 d2 d3
          go_wp2_with fail
          go_roundw
          case rel => exact ⟨k2 + 1, i + 1, by go_num, by go_num, by omega, by omega, HK2, HZ⟩
          case measure => simp [intOf]; omega
        · have hie : i = (succ u).length := by omega
          have HK2 : Hid (k2 = (flatP succ (u + 1)).length) := by have := HK.out; show k2 = _; rw [flatP_len]; omega
          clear HK
          subst hie
          go_wp2_with fail
          go_roundw
          case rel => exact ⟨k2, u + 1, rfl, by go_num, by omega, hk8, HK2, HI⟩
          case measure => simp [intOf]; omega
    · have hue : u = G.length := by omega
      have hke : k = ny := by rw [HK.out, HY.out.1, HY.out.2.2.1, hue]
      have HZ : Hid (Below w0.heap.size w0 wr) := HL.out.b01.trans ((HB.out.trans (HO.out.mono HB.out.size)).mono HL.out.b01.size)
      clear HO HK
      subst hke
      go_wp2_with fail
      conv => arg 2; whnf
      go_wp2_with fail
      go_ret
      exact ⟨by simp, HZ.out⟩

set_option maxRecDepth 100000 in
set_option maxHeartbeats 4000000 in
theorem b16 {w0 w1 w : World} {oa og ob : Option Addr} {ca cg cb gs ga gg m : Nat} {A : List Ac} {T X G ab : List Int} {succ : Nat → List Int} {gpo : Nat} (u1 u2 u3 u4 u5 u6 u8 u9 u14 u15 u16 u17 u18 u19 u20 u21 u22 u23 u24 u25 u26 u27 u28 u29 u30 u31 u32 u33 u34 u35 u36 u37 u38 u39 u40 u41 u42 u43 u44 u45 u46 u47 u48 u49 u50 u51 u52 u53 u54 u55 u56 u57 u58 u59 u60 u61 u62 u63 u64 u65 u66 u67 u68 u69 u70 u71 u72 u73 u74 u75 u76 u77 u78 u79 u80 u81 u82 u83 u84 u85 u86 u87 u88 u89 u90 u91 u92 u93 u94 u95 u96 u97 u98 u99 u100 u101 u102 u103 u104 u105 u106 u107 u108 u109 u110 u111 u112 u113 u114 u115 u116 u117 u118 u119 u120 u121 u122 u123 u124 u125 u126 u127 u128 u129 u130 u131 u132 u133 u134 u135 u136 u137 u138 u139 u140 u141 u142 u143 u144 u145 u146 u147 u148 u149 u150 u151 u152 u153 u154 u155 u156 u157 u158 u159 u160 u161 u162 u163 u164 u165 u166 u167 u168 u169 u170 u171 u172 u173 u174 u175 u176 u177 u178 u179 u180 u181 u182 u183 u184 u185 u186 u187 u188 u189 u190 u191 u192 u193 u194 u195 u196 : Value)
    (HL : Hid (L4 w0 w1 oa og ob gs m A T X G ab succ)) (HGV : Hid (GraphV w1 gg og cg ga gs G m (itemL G A) succ)) (HSU : Hid (∀ u, u < G.length → (succ u).Pairwise (· < ·))) (HP : Hid (PS w1 gpo m G A A.length w)) :
    Code.wp Try.prog (tl Try.f3 16) (bodyPost Try.prog Try.f3 (fun e w' => e = .returned (.bool true) ∧ Below w0.heap.size w0 w')) ⟨#[.slice oa A.length ca, u1, u2, u3, u4, u5, u6, .int .i32 m, u8, u9, .pointer (some ⟨gg, 0, none⟩), .slice og G.length cg, .slice ob ab.length cb, .slice (some ⟨gpo, 0, none⟩) m m, u14, u15, u16, u17, u18, u19, u20, u21, u22, u23, u24, u25, u26, u27, u28, u29, u30, u31, u32, u33, u34, u35, u36, u37, u38, u39, u40, u41, u42, u43, u44, u45, u46, u47, u48, u49, u50, u51, u52, u53, u54, u55, u56, u57, u58, u59, u60, u61, u62, u63, u64, u65, u66, u67, u68, u69, u70, u71, u72, u73, u74, u75, u76, u77, u78, u79, u80, u81, u82, u83, u84, u85, u86, u87, u88, u89, u90, u91, u92, u93, u94, u95, u96, u97, u98, u99, u100, u101, u102, u103, u104, u105, u106, u107, u108, u109, u110, u111, u112, u113, u114, u115, u116, u117, u118, u119, u120, u121, u122, u123, u124, u125, u126, u127, u128, u129, u130, u131, u132, u133, u134, u135, u136, u137, u138, u139, u140, u141, u142, u143, u144, u145, u146, u147, u148, u149, u150, u151, u152, u153, u154, u155, u156, u157, u158, u159, u160, u161, u162, u163, u164, u165, u166, u167, u168, u169, u170, u171, u172, u173, u174, u175, u176, u177, u178, u179, u180, u181, u182, u183, u184, u185, u186, u187, u188, u189, u190, u191, u192, u193, u194, u195, u196], []⟩ w := by
  have hG : G.length ≤ 12288 := HL.out.lG
  have hm : m ≤ 4096 := HL.out.hm
  rw [tl3_16]
  refine wp_seq_k (fun K hK => ?_)
  conv => arg 2; whnf
  go_wp2_with fail
  go_loopw [20] (fun vj wr => ∃ j : Nat, vj = .int .i64 j ∧ j ≤ m ∧ Hid (PS w1 gpo m G A A.length wr)) (fun vj _ => m - (intOf vj).toNat)
  case atStart => exact ⟨0, rfl, Nat.zero_le _, HP⟩
  case round =>
    clear HP
    obtain ⟨j, rfl, hj, HO⟩ := hrel
    by_cases hjm : j < m
    · have hjm' : (j : Int) < (m : Int) := by omega
      obtain ⟨cp, fp⟩ := HO.out.cell hjm
      rw [List.take_length] at cp
      obtain ⟨o, c, ca', _⟩ := HGV.out.ac j hjm
      have hbd : Below w1.heap.size w1 wr.drew := HO.out.b.drew
      have HC : Hid _ := gilen_any (w := wr.drew) (blk_below hbd HGV.out.blk) hjm (cell_later hbd ca')
      have HZ : Hid (PS w1 gpo m G A A.length wr.drew) := HO.out.below ((Below.refl _ _).drew)
      generalize (itemL G A j).length = l at cp HC
      clear HO ca' hbd fp
      go_wp2_with fail
      refine wp_shade2 (fun KK hKK => ?_)
      have HKK : Hid _ := hKK
      clear hKK
      go_region_held3 (fun w' => w'.cell? ⟨gpo, j, none⟩ = some (.int .i64 l))
        (first | go_keep | assumption)
        ((go_at_call 14; refine Calls.mono HC.out ?_; rintro e w3 ⟨rfl, hw3⟩; subst hw3))
      refine HKK.out _ _ ?_
      clear HKK KK
      go_wp2_with fail
      go_roundw
      case rel => exact ⟨j + 1, by go_num, by omega, HZ⟩
      case measure => simp [intOf]; omega
    · have hje : j = m := by omega
      have HC : Hid _ := red_any (ca := ca) (cg := cg) (cb := cb) HL.out HO.out.b
      have HBr : Hid (Below w1.heap.size w1 wr) := HO.out.b
      clear HO
      subst hje
      go_wp2_with fail
      rw [tl3_17]
      refine wp_seq_k (fun K hK => ?_)
      conv => arg 2; whnf
      go_wp2_with fail
      refine Calls.mono HC.out ?_
      rintro e w3 ⟨oy, ny, cy, ys, rfl, y1, y2, y3, y4, y5, y6⟩
      have HY : Hid (ny = ys.length ∧ Sl w3 oy (int64s ys) ∧ ys = flatP succ G.length ∧ ys.length ≤ 8192) := ⟨y1, y2, want_eq hG HL.out.rel HSU.out y3 y4, y5⟩
      have HB3 : Hid (Below w1.heap.size w1 w3) := HBr.out.trans (y6.mono HBr.out.size)
      clear y1 y2 y3 y4 y5 y6 HC HBr
      go_wp2_with fail
      rw [tl3_18]
      refine wp_seq_k (fun K hK => ?_)
      conv => arg 2; whnf
      have HC : Hid _ := gsucc_any (blk_below HB3.out HGV.out.blk)
      go_wp2_with fail
      refine Calls.mono HC.out ?_
      rintro e w4 ⟨rfl, hw4⟩
      subst hw4
      clear HC
      go_wp2_with fail
      rw [tl3_19]
      refine wp_seq_k (fun K hK => ?_)
      conv => arg 2; whnf
      go_wp2_with fail
      rw [tl3_20]
      refine wp_seq_k (fun K hK => ?_)
      conv => arg 2; whnf
      go_wp2_with fail
      exact b21 _ _ _ _ _ _ _ _ _ _ _ _ _ _ _ _ _ _ _ _ _ _ _ _ _ _ _ _ _ _ _ _ _ _ _ _ _ _ _ _ _ _ _ _ _ _ _ _ _ _ _ _ _ _ _ _ _ _ _ _ _ _ _ _ _ _ _ _ _ _ _ _ _ _ _ _ _ _ _ _ _ _ _ _ _ _ _ _ _ _ _ _ _ _ _ _ _ _ _ _ _ _ _ _ _ _ _ _ _ _ _ _ _ _ _ _ _ _ _ _ _ _ _ _ _ _ _ _ _ _ _ _ _ _ _ _ _ _ _ _ _ _ _ _ _ _ _ _ _ _ _ _ _ _ _ _ _ _ _ _ _ _ _ _ _ _ _ _ _ _ _ _ _ _ _ _ _ _ _ _ _ _ _ _ _ _ _ _ _ _ _ _ _ HL HGV HSU HY HB3

set_option maxRecDepth 100000 in
set_option maxHeartbeats 4000000 in
theorem b14 {w0 w1 w : World} {oa og ob : Option Addr} {ca cg cb gs ga gg m : Nat} {A : List Ac} {T X G ab : List Int} {succ : Nat → List Int} (u1 u2 u3 u4 u5 u6 u8 u9 u13 u14 u15 u16 u17 u18 u19 u20 u21 u22 u23 u24 u25 u26 u27 u28 u29 u30 u31 u32 u33 u34 u35 u36 u37 u38 u39 u40 u41 u42 u43 u44 u45 u46 u47 u48 u49 u50 u51 u52 u53 u54 u55 u56 u57 u58 u59 u60 u61 u62 u63 u64 u65 u66 u67 u68 u69 u70 u71 u72 u73 u74 u75 u76 u77 u78 u79 u80 u81 u82 u83 u84 u85 u86 u87 u88 u89 u90 u91 u92 u93 u94 u95 u96 u97 u98 u99 u100 u101 u102 u103 u104 u105 u106 u107 u108 u109 u110 u111 u112 u113 u114 u115 u116 u117 u118 u119 u120 u121 u122 u123 u124 u125 u126 u127 u128 u129 u130 u131 u132 u133 u134 u135 u136 u137 u138 u139 u140 u141 u142 u143 u144 u145 u146 u147 u148 u149 u150 u151 u152 u153 u154 u155 u156 u157 u158 u159 u160 u161 u162 u163 u164 u165 u166 u167 u168 u169 u170 u171 u172 u173 u174 u175 u176 u177 u178 u179 u180 u181 u182 u183 u184 u185 u186 u187 u188 u189 u190 u191 u192 u193 u194 u195 u196 : Value)
    (HL : Hid (L4 w0 w1 oa og ob gs m A T X G ab succ)) (HGV : Hid (GraphV w1 gg og cg ga gs G m (itemL G A) succ)) (HSU : Hid (∀ u, u < G.length → (succ u).Pairwise (· < ·))) (HB : Hid (Below w1.heap.size w1 w)) :
    Code.wp Try.prog (tl Try.f3 14) (bodyPost Try.prog Try.f3 (fun e w' => e = .returned (.bool true) ∧ Below w0.heap.size w0 w')) ⟨#[.slice oa A.length ca, u1, u2, u3, u4, u5, u6, .int .i32 m, u8, u9, .pointer (some ⟨gg, 0, none⟩), .slice og G.length cg, .slice ob ab.length cb, u13, u14, u15, u16, u17, u18, u19, u20, u21, u22, u23, u24, u25, u26, u27, u28, u29, u30, u31, u32, u33, u34, u35, u36, u37, u38, u39, u40, u41, u42, u43, u44, u45, u46, u47, u48, u49, u50, u51, u52, u53, u54, u55, u56, u57, u58, u59, u60, u61, u62, u63, u64, u65, u66, u67, u68, u69, u70, u71, u72, u73, u74, u75, u76, u77, u78, u79, u80, u81, u82, u83, u84, u85, u86, u87, u88, u89, u90, u91, u92, u93, u94, u95, u96, u97, u98, u99, u100, u101, u102, u103, u104, u105, u106, u107, u108, u109, u110, u111, u112, u113, u114, u115, u116, u117, u118, u119, u120, u121, u122, u123, u124, u125, u126, u127, u128, u129, u130, u131, u132, u133, u134, u135, u136, u137, u138, u139, u140, u141, u142, u143, u144, u145, u146, u147, u148, u149, u150, u151, u152, u153, u154, u155, u156, u157, u158, u159, u160, u161, u162, u163, u164, u165, u166, u167, u168, u169, u170, u171, u172, u173, u174, u175, u176, u177, u178, u179, u180, u181, u182, u183, u184, u185, u186, u187, u188, u189, u190, u191, u192, u193, u194, u195, u196], []⟩ w := by
  have hA : A.length ≤ 4096 := HL.out.lA
  have hG : G.length ≤ 12288 := HL.out.lG
  have hm : m ≤ 4096 := HL.out.hm
  have hab : ab.length ≤ 4096 := HL.out.lb
  obtain ⟨i3, hi3, hz3, hy3, hx3⟩ := info_parts Try.info3
  have hsz : w1.heap.size ≤ w.heap.size := HB.out.size
  rw [tl3_14]
  refine wp_seq_k (fun K hK => ?_)
  conv => arg 2; whnf
  go_wp2_with (at_make; go_must (refine wpList_make_full _ rfl _ _ 35 rfl w1.heap.size 3 i3 (.int .i64 0) 1 Try.underlying35 hi3 hz3 hy3 .i32 .i32 _ _ m rfl rfl rfl rfl (by rw [hx3]; omega) (by unfold maxLen; omega) hsz ?_; intro wa howna hgrowa))
  have hba := below_of_grown hgrowa
  have HP0 : Hid (PS w1 w.heap.size m G A 0 wa) := ⟨⟨_, made_ints howna, by simp, fun j hj => by simp [hj, itemL]⟩, hsz, HB.out.trans (hba.mono hsz)⟩
  generalize w.heap.size = gpo at HP0 ⊢
  clear howna hgrowa hba HB hsz
  rw [tl3_15]
  refine wp_seq_k (fun K hK => ?_)
  conv => arg 2; whnf
  go_wp2_with fail
  go_loopw [76] (fun vq wr => ∃ q : Nat, vq = .int .i64 q ∧ q ≤ A.length ∧ Hid (PS w1 gpo m G A q wr)) (fun vq _ => A.length - (intOf vq).toNat)
  case atStart => exact ⟨0, rfl, Nat.zero_le _, HP0⟩
  case round =>
    clear HP0
    obtain ⟨q, rfl, hq, HO⟩ := hrel
    by_cases hql : q < A.length
    · have hql' : (q : Int) < (A.length : Int) := by omega
      obtain ⟨b, off, hoa, c0, c1, c2⟩ := acc_cell (HL.out.sa.below HO.out.b) hql
      have hix := HL.out.ix hql
      have hit := HL.out.hI q hql
      obtain ⟨gd, hgd⟩ : ∃ gd, A.getD q a0 = gd := ⟨_, rfl⟩
      have HGD : Hid (A.getD q a0 = gd) := hgd
      rw [hgd] at c0 c1 c2 hix hit
      obtain ⟨f, hf⟩ : ∃ f : Nat, gd.item = f := ⟨gd.item.toNat, by omega⟩
      rw [hf] at c1 hit
      have hfm : f < m := by omega
      have hfm' : (f : Int) < (m : Int) := by omega
      have HFI : Hid (gd.item = f) := hf
      obtain ⟨w2, hw2⟩ : ∃ w2, w2 = wr.alloc (.cells #[.int .i64 gd.tx, .int .i32 f, .bool gd.wr] 37) := ⟨_, rfl⟩
      have hb2 : Below wr.heap.size wr w2 := by rw [hw2]; exact (Below.refl _ _).alloc (Nat.le_refl _) _
      have hblk2 : w2.heap[wr.heap.size]? = some (.cells #[.int .i64 gd.tx, .int .i32 f, .bool gd.wr] 37 (0, 0)) := by rw [hw2]; exact heap_alloc_new wr _
      have k0 : w2.cell? ⟨wr.heap.size, 0, none⟩ = some (.int .i64 gd.tx) := cell_blk hblk2 rfl
      have k1 : w2.cell? ⟨wr.heap.size, 1, none⟩ = some (.int .i32 f) := cell_blk hblk2 rfl
      have HO2 : Hid _ := HO.out.below hb2
      have HK2 : Hid _ := hblk2
      have HW2 : Hid (w2 = wr.alloc (.cells #[.int .i64 gd.tx, .int .i32 f, .bool gd.wr] 37)) := hw2
      have HF1 : Hid _ := find_any ob cb ab gd.tx w2 (HL.out.sb.below HO2.out.b) HL.out.abs (by omega)
      subst hoa
      clear hw2 hb2 hblk2 HO hgd hf
      go_upto_region 26 with fail
      rw [← HW2.out]
      clear HW2 c0 c1 c2
      generalize wr.heap.size = b9 at k0 k1 HK2 ⊢
      rcases hix with ⟨hx1, _⟩ | ⟨hx1, hGi, si, hsi, hsi2, _⟩
      · obtain ⟨kk, hkk, _⟩ := fnd_in hx1
        rw [hkk] at HF1
        have HZ : Hid (PS w1 gpo m G A (q + 1) w2) := HO2.out.skip hql (by
          rw [HGD.out]
          intro hg
          exact ((HL.out.gp.2 _).1 hg).2 ((HL.out.abm _).1 hx1))
        clear hx1 hkk HO2 HK2
        go_wp2_with fail
        refine Calls.mono HF1.out ?_
        rintro e w4 ⟨rfl, hw4⟩
        subst hw4
        go_wp2_with fail
        go_roundw
        case rel => exact ⟨q + 1, by go_num, by omega, HZ⟩
        case measure => simp [intOf]; omega
      · have hab1 : fnd ab gd.tx = -1 := fnd_out hx1
        rw [hab1] at HF1
        have hpl := item_place G A q f hql (by rw [HGD.out]; exact hGi) (by rw [HGD.out]; exact HFI.out)
        rw [HGD.out, ← hsi2] at hpl
        obtain ⟨cp, fp⟩ := HO2.out.cell hfm
        obtain ⟨o, c, ca', hsl⟩ := HGV.out.ac f hfm
        have HC14 : Hid _ := gilen_any (w := w2) (blk_below HO2.out.b HGV.out.blk) hfm (cell_later HO2.out.b ca')
        have HC15 : Hid _ := gacc_any (l := 0) (w := w2) (blk_below HO2.out.b HGV.out.blk) hfm (cell_later HO2.out.b ca') (hsl.below HO2.out.b) hpl.1
        rw [hpl.2] at HC15
        obtain ⟨lq, hlq⟩ : ∃ lq, lq = (itemL G (A.take q) f).length := ⟨_, rfl⟩
        obtain ⟨ll, hll⟩ : ∃ ll, ll = (itemL G A f).length := ⟨_, rfl⟩
        have hll2 : lq < ll := by rw [hlq, hll]; exact hpl.1
        rw [← hlq] at cp HC15
        rw [← hll] at HC14
        have hge : ¬ ((ll : Int) ≤ (lq : Int)) := by omega
        have hgi : G.getD si 0 = gd.tx := by rw [hsi2]; exact getD_idxOf hGi
        have HSv : Hid (lq = (itemL G (A.take q) f).length ∧ gd.tx ∈ G ∧ si = G.idxOf gd.tx ∧ G.getD si 0 = gd.tx) := ⟨hlq, hGi, hsi2, hgi⟩
        have hlq4 : lq ≤ 4096 := by
          have h2 := itemL_len G (A.take q) f
          rw [List.length_take] at h2
          omega
        clear hab1 hpl hlq hll hsi2 hgi hGi ca' hsl hx1
        go_wp2_with fail
        refine Calls.mono HF1.out ?_
        rintro e w4 ⟨rfl, hw4⟩
        subst hw4
        clear HF1
        go_wp2_with fail
        refine Calls.mono HC14.out ?_
        rintro e w5 ⟨rfl, hw5⟩
        subst hw5
        clear HC14
        go_wp2_with fail
        refine Calls.mono HC15.out ?_
        rintro e w6 ⟨rfl, hb6⟩
        have HO6 : Hid _ := HO2.out.below hb6
        have HK6 : Hid _ := blk_below hb6 HK2.out
        have j0 : w6.cell? ⟨b9, 0, none⟩ = some (.int .i64 gd.tx) := cell_blk HK6.out rfl
        have j2 : w6.cell? ⟨b9, 2, none⟩ = some (.bool gd.wr) := cell_blk HK6.out rfl
        obtain ⟨bg, og', hog, cg'⟩ := i64_cell (HL.out.sg.below HO6.out.b) hsi
        rw [HSv.out.2.2.2] at cg'
        have hsi' : (si : Int) < (G.length : Int) := by omega
        have e1 : decide ((si : Int) < 0) = false := decide_eq_false (by omega)
        have e2 : decide ((G.length : Int) ≤ (si : Int)) = false := decide_eq_false (by omega)
        have e3 : decide (G.length ≤ si) = false := decide_eq_false (by omega)
        have e4 : (gd.tx != gd.tx) = false := by simp
        have e5 : (gd.wr != gd.wr) = false := by simp
        clear HC15 hb6 k0 k1 cp fp
        subst hog
        go_upto_region 32 with fail
        go_quiet (fail)
        obtain ⟨wq, hwq⟩ : ∃ wq, wq = w6.drewN nq := ⟨_, rfl⟩
        have hbq : Below w6.heap.size w6 wq := by rw [hwq]; exact below_drewN (Below.refl _ _) nq
        rw [← hwq]
        have HOq : Hid _ := HO6.out.below hbq
        obtain ⟨cq, fq⟩ := HOq.out.cell hfm
        have hput := HOq.out.put hql (by rw [HGD.out]; exact HSv.out.2.1) (by rw [HGD.out]; exact HFI.out) hfm
        rw [← HSv.out.1] at hput cq
        have HZ : Hid (PS w1 gpo m G A (q + 1) (wq.setCell ⟨gpo, f, none⟩ (.int .i64 ((lq : Int) + 1)))) := hput
        clear hput hwq hbq e1 e2 e3 e4 e5 j0 j2 cg' HO6 HK6 HOq HO2 HK2
        go_wp2_with fail
        go_roundw
        case rel => exact ⟨q + 1, by go_num, by omega, HZ⟩
        case measure => simp [intOf]; omega
    · have hqe : q = A.length := by omega
      subst hqe
      go_wp2_with fail
      exact b16 _ _ _ _ _ _ _ _ _ _ _ _ _ _ _ _ _ _ _ _ _ _ _ _ _ _ _ _ _ _ _ _ _ _ _ _ _ _ _ _ _ _ _ _ _ _ _ _ _ _ _ _ _ _ _ _ _ _ _ _ _ _ _ _ _ _ _ _ _ _ _ _ _ _ _ _ _ _ _ _ _ _ _ _ _ _ _ _ _ _ _ _ _ _ _ _ _ _ _ _ _ _ _ _ _ _ _ _ _ _ _ _ _ _ _ _ _ _ _ _ _ _ _ _ _ _ _ _ _ _ _ _ _ _ _ _ _ _ _ _ _ _ _ _ _ _ _ _ _ _ _ _ _ _ _ _ _ _ _ _ _ _ _ _ _ _ _ _ _ _ _ _ _ _ _ _ _ _ _ _ _ _ _ _ _ _ _ _ _ _ _ HL HGV HSU HO

set_option maxRecDepth 100000 in
set_option maxHeartbeats 4000000 in
theorem law3 (oa ot ox : Option Addr) (ca ct cx : Nat) (A : List Ac) (T X : List Int) (w : World) (hA : Sl w oa (flatA A)) (hT : Sl w ot (int64s T)) (hX : Sl w ox (int64s X)) (rA : ∀ k, k < A.length → R64 (A.getD k a0).tx) (rT : ∀ k, k < T.length → R64 (T.getD k 0)) (rX : ∀ k, k < X.length → R64 (X.getD k 0)) :
    Calls Try.prog 3 #[.slice oa A.length ca, .slice ot T.length ct, .slice ox X.length cx] w fun e w' => e = .returned (.bool true) ∧ Below w.heap.size w w' := by
  have HA : Hid (Sl w oa (flatA A)) := hA
  have HT : Hid (Sl w ot (int64s T)) := hT
  have HX : Hid (Sl w ox (int64s X)) := hX
  have HRA : Hid (∀ k, k < A.length → R64 (A.getD k a0).tx) := rA
  have HRT : Hid (∀ k, k < T.length → R64 (T.getD k 0)) := rT
  have HRX : Hid (∀ k, k < X.length → R64 (X.getD k 0)) := rX
  clear hA hT hX rA rT rX
  have HC : Hid _ := bytes5 oa A.length ca ot T.length ct ox X.length cx w
  go_enter Try.func3, Try.ntmps3
  change Code.wp Try.prog (tl Try.f3 0) (bodyPost Try.prog Try.f3 (fun e w' => e = .returned (.bool true) ∧ Below w.heap.size w w')) _ _
  rw [tl3_0]
  refine wp_seq_k (fun K hK => ?_)
  conv => arg 2; whnf
  go_wp2_with fail
  rw [tl3_1]
  refine wp_seq_k (fun K hK => ?_)
  conv => arg 2; whnf
  go_wp2_with fail
  refine Calls.mono HC.out ?_
  rintro e w' ⟨r, rfl, hw'⟩
  subst hw'
  cases r with
  | false =>
    go_wp2_with fail
    go_ret
    exact ⟨rfl, Below.refl _ _⟩
  | true =>
  go_wp2_with fail
  rw [tl3_2]
  refine wp_seq_k (fun K hK => ?_)
  conv => arg 2; whnf
  by_cases h1 : (4096 : Int) < (A.length : Int)
  · go_wp2_with fail
    go_ret
    exact ⟨rfl, Below.refl _ _⟩
  go_wp2_with fail
  rw [tl3_3]
  refine wp_seq_k (fun K hK => ?_)
  conv => arg 2; whnf
  by_cases h2 : (4096 : Int) < (T.length : Int)
  · go_wp2_with fail
    go_ret
    exact ⟨rfl, Below.refl _ _⟩
  go_wp2_with fail
  rw [tl3_4]
  refine wp_seq_k (fun K hK => ?_)
  conv => arg 2; whnf
  by_cases h3 : (4096 : Int) < (X.length : Int)
  · go_wp2_with fail
    go_ret
    exact ⟨rfl, Below.refl _ _⟩
  have lA : A.length ≤ 4096 := by omega
  have lT : T.length ≤ 4096 := by omega
  have lX : X.length ≤ 4096 := by omega
  go_wp2_with fail
  clear h1 h2 h3 HC
  rw [tl3_5]
  refine wp_seq_k (fun K hK => ?_)
  conv => arg 2; whnf
  have HC : Hid _ := itemCount oa ca A w' HA.out lA
  go_wp2_with fail
  refine Calls.mono HC.out ?_
  rintro e wa ⟨hba, m, ok, rfl, hok⟩
  have HBa : Hid (Below w'.heap.size w' wa) := hba
  clear hba HC
  go_wp2_with fail
  rw [tl3_6]
  refine wp_seq_k (fun K hK => ?_)
  conv => arg 2; whnf
  cases ok with
  | false =>
    go_wp2_with fail
    go_ret
    exact ⟨rfl, HBa.out⟩
  | true =>
  have hm : m ≤ 4096 := by have := (hok rfl).1; omega
  have HI : Hid (∀ i, i < A.length → 0 ≤ (A.getD i a0).item ∧ (A.getD i a0).item < m) := (hok rfl).2
  clear hok
  go_wp2_with fail
  rw [tl3_7]
  refine wp_seq_k (fun K hK => ?_)
  conv => arg 2; whnf
  have HC : Hid _ := build_any oa ot ox ca ct cx A T X m wa (HA.out.below HBa.out) (HT.out.below HBa.out) (HX.out.below HBa.out) lA lT lX hm HRA.out HRT.out HRX.out
  go_wp2_with fail
  refine Calls.mono HC.out ?_
  rintro e wb ⟨gh, be, bt, bi, va, rfl, hhv, hbb⟩
  have HBb : Hid (Below w'.heap.size w' wb) := HBa.out.trans (hbb.mono HBa.out.size)
  have HHV : Hid _ := hhv
  clear hhv hbb HC HBa
  go_wp2_with fail
  rw [tl3_8]
  refine wp_seq_k (fun K hK => ?_)
  conv => arg 2; whnf
  have HC : Hid _ := graph_any HHV.out (by omega) hm lA HI.out HRA.out HRT.out
  go_wp2_with fail
  refine Calls.mono HC.out ?_
  rintro e wc ⟨gg, og, cg, ga, gs, G, succ, rfl, hgv, hbc, hgp, hgl, hsucc⟩
  have HBc : Hid (Below w'.heap.size w' wc) := HBb.out.trans (hbc.mono HBb.out.size)
  have HGV : Hid _ := hgv
  have HGP : Hid (GPr A T X G ∧ ∀ u, u < G.length → (succ u).Pairwise (· < ·) ∧ SameM (succ u) (redS (itemL G A) m u) ∧ (succ u).length ≤ 100000000) := ⟨hgp, hsucc⟩
  clear hgv hbc hgp hsucc HC HBb HHV
  go_wp2_with fail
  rw [tl3_9]
  refine wp_seq_k (fun K hK => ?_)
  conv => arg 2; whnf
  go_wp2_with fail
  rw [tl3_10]
  refine wp_seq_k (fun K hK => ?_)
  conv => arg 2; whnf
  have HC : Hid _ := gtxs_any HGV.out.blk
  go_wp2_with fail
  refine Calls.mono HC.out ?_
  rintro e wd ⟨rfl, hwd⟩
  subst hwd
  clear HC
  go_wp2_with fail
  rw [tl3_11]
  refine wp_seq_k (fun K hK => ?_)
  conv => arg 2; whnf
  have HC : Hid _ := sorted_any ox cx X.length X wd (HX.out.below HBc.out) rfl (by omega)
  go_wp2_with fail
  refine Calls.mono HC.out ?_
  rintro e we ⟨g3, ab, rfl, s1, s2, s3, s4, s5, s6⟩
  have HBe : Hid (Below w'.heap.size w' we) := HBc.out.trans (s6.mono HBc.out.size)
  have HAB : Hid (B64 we g3 ab ∧ ab.Pairwise (· ≤ ·) ∧ SameM ab X) := ⟨s1, s4, s5⟩
  have lab : ab.length ≤ 4096 := by omega
  have HGe : Hid (Below wd.heap.size wd we) := s6
  clear s1 s2 s3 s4 s5 s6 HC
  go_wp2_with fail
  rw [tl3_12]
  refine wp_seq_k (fun K hK => ?_)
  conv => arg 2; whnf
  have HC : Hid _ := txs_any og oa ot (some ⟨g3, 0, none⟩) cg ca ct ab.length G A T X ab we (HGV.out.tx.below HGe.out) (HA.out.below HBe.out) (HT.out.below HBe.out) HAB.out.1.sl ⟨HGP.out.1, HAB.out.2.1, HAB.out.2.2⟩ hgl lA lT lab
  go_wp2_with fail
  refine Calls.mono HC.out ?_
  rintro e wf ⟨rfl, hbf⟩
  have HBf : Hid (Below w'.heap.size w' wf ∧ Below wd.heap.size wd wf ∧ Below we.heap.size we wf) := ⟨HBe.out.trans (hbf.mono HBe.out.size), HGe.out.trans (hbf.mono HGe.out.size), hbf⟩
  clear hbf HC
  go_wp2_with fail
  rw [tl3_13]
  refine wp_seq_k (fun K hK => ?_)
  conv => arg 2; whnf
  have HC : Hid _ := gitems_any (blk_below HBf.out.2.1 HGV.out.blk)
  go_wp2_with fail
  refine Calls.mono HC.out ?_
  rintro e wg ⟨rfl, hwg⟩
  subst hwg
  clear HC
  go_wp2_with fail
  have hrel : ∀ u, u < G.length → SameM (succ u) (redJ (itemL G A) m u) := fun u hu => (HGP.out.2 u hu).2.1
  have HL : Hid (L4 w' wg oa og (some ⟨g3, 0, none⟩) gs m A T X G ab succ) := ⟨HBf.out.1, HA.out.below HBf.out.1, HGV.out.tx.below HBf.out.2.1, HAB.out.1.sl.below HBf.out.2.2, HGP.out.1, HAB.out.2.1, HAB.out.2.2, fun u hu => by
    obtain ⟨o, c, h1, h2⟩ := HGV.out.su u hu
    refine ⟨⟨o, c, cell_later HBf.out.2.1 h1, h2.below HBf.out.2.1⟩, (HGP.out.2 u hu).2.2, fun v hv => ?_⟩
    obtain ⟨v', a, b, _⟩ := edge_sound ((hrel u hu v).1 hv)
    exact ⟨v', a, b⟩, hrel, HI.out, lA, hgl, lab, hm⟩
  have HGV2 : Hid (GraphV wg gg og cg ga gs G m (itemL G A) succ) := ⟨blk_below HBf.out.2.1 HGV.out.blk, HGV.out.tx.below HBf.out.2.1, fun j hj => by
    obtain ⟨o, c, h1, h2⟩ := HGV.out.ac j hj
    exact ⟨o, c, cell_later HBf.out.2.1 h1, h2.below HBf.out.2.1⟩, fun u hu => by
    obtain ⟨o, c, h1, h2⟩ := HGV.out.su u hu
    exact ⟨o, c, cell_later HBf.out.2.1 h1, h2.below HBf.out.2.1⟩⟩
  exact b14 _ _ _ _ _ _ _ _ _ _ _ _ _ _ _ _ _ _ _ _ _ _ _ _ _ _ _ _ _ _ _ _ _ _ _ _ _ _ _ _ _ _ _ _ _ _ _ _ _ _ _ _ _ _ _ _ _ _ _ _ _ _ _ _ _ _ _ _ _ _ _ _ _ _ _ _ _ _ _ _ _ _ _ _ _ _ _ _ _ _ _ _ _ _ _ _ _ _ _ _ _ _ _ _ _ _ _ _ _ _ _ _ _ _ _ _ _ _ _ _ _ _ _ _ _ _ _ _ _ _ _ _ _ _ _ _ _ _ _ _ _ _ _ _ _ _ _ _ _ _ _ _ _ _ _ _ _ _ _ _ _ _ _ _ _ _ _ _ _ _ _ _ _ _ _ _ _ _ _ _ _ _ _ _ _ _ _ _ _ _ _ _ HL HGV2 (fun u hu => (HGP.out.2 u hu).1) (Below.refl _ _)
end Go.Proofs.Qxb6626314a
