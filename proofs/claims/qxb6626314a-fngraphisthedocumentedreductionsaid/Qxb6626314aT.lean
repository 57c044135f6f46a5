/-
  Seat b6626314a: the edges, item by item: the walk.
-/
import Derived.Test.Qxb6626314aS
namespace Go.Proofs.Qxb6626314a
open Go.RowKit Go.Maps Go.Sort
set_option linter.unusedVariables false
set_option linter.unusedSimpArgs false

theorem rac_cell {w : World} {a : Option Addr} {l : List (Int × Bool)} (h : Sl w a (flatR l)) {k : Nat} (hk : k < l.length) : ∃ b off, a = some ⟨b, off, none⟩ ∧ w.cell? ⟨b, off + k * 2, none⟩ = some (.int .i32 (l.getD k (0, false)).1) ∧ w.cell? ⟨b, off + k * 2 + 1, none⟩ = some (.bool (l.getD k (0, false)).2) := by
  have hl := flatR_len l
  obtain ⟨b, off, rfl, hc⟩ := h.at (show k * 2 + 1 < (flatR l).length by omega)
  have key : ∀ j, j < 2 → w.cell? ⟨b, off + k * 2 + j, none⟩ = (rcell (l.getD k (0, false)))[j]? := fun j hj => by
    rw [Nat.add_assoc, hc (k * 2 + j) (by omega)]; exact flatMap_get rcell 2 (fun _ => rfl) (0, false) l k j hk hj
  exact ⟨b, off, rfl, key 0 (by omega), key 1 (by omega)⟩
/-- The plain state behind k accesses of an item. -/
def stK (S : Nat → List Int) (l : List (Int × Bool)) (k : Nat) : (Nat → List Int) × Int × List Int := (l.take k).foldl stepA (S, -1, [])
theorem stK_succ (S : Nat → List Int) (l : List (Int × Bool)) (k : Nat) (hk : k < l.length) : stK S l (k + 1) = stepA (stK S l k) (l.getD k (0, false)) := by
  unfold stK
  have : l.take (k + 1) = l.take k ++ [l.getD k (0, false)] := by rw [List.take_add_one]; simp [hk]
  rw [this, List.foldl_append]; rfl
def edgesTo (S : Nat → List Int) (rd : List Int) (t : Int) (q : Nat) : Nat → List Int := (rd.take q).foldl (fun S r => addE S r t) S
theorem edgesTo_succ (S : Nat → List Int) (rd : List Int) (t : Int) (q : Nat) (hq : q < rd.length) : edgesTo S rd t (q + 1) = addE (edgesTo S rd t q) (rd.getD q 0) t := by
  unfold edgesTo
  have : rd.take (q + 1) = rd.take q ++ [rd.getD q 0] := by rw [List.take_add_one]; simp [hq]
  rw [this, List.foldl_append]; rfl
theorem foldE_len (t : Int) (u : Nat) : ∀ (rd : List Int) (S : Nat → List Int), ((rd.foldl (fun S r => addE S r t) S) u).length ≤ (S u).length + rd.length
  | [], S => by simp
  | r :: rd, S => by
    have h1 := foldE_len t u rd (addE S r t)
    have h2 := addE_len S r t u
    simp only [List.foldl_cons, List.length_cons]
    omega
theorem edgesTo_len (S : Nat → List Int) (rd : List Int) (t : Int) (q u : Nat) : (edgesTo S rd t q u).length ≤ (S u).length + q := by
  have h1 := foldE_len t u (rd.take q) S
  have h2 : (rd.take q).length ≤ q := by rw [List.length_take]; omega
  unfold edgesTo
  omega
def redJ (acc : Nat → List (Int × Bool)) (j : Nat) : Nat → List Int := (List.range j).foldl (fun S j => redI S (acc j)) (fun _ => [])
theorem redJ_succ (acc : Nat → List (Int × Bool)) (j : Nat) : redJ acc (j + 1) = (stK (redJ acc j) (acc j) (acc j).length).1 := by
  unfold redJ
  rw [List.range_succ, List.foldl_append]
  simp [stK, redI]
/-- Indices of transactions. -/
def IsIx (n : Nat) (x : Int) : Prop := ∃ t : Nat, x = t ∧ t < n

/-- The outer loop's state: j items are done. -/
def OS (B gp gg ga gs m n : Nat) (G : List Int) (acc : Nat → List (Int × Bool)) (VA : Nat → Value) (v1 : Value) (w0 : World) (j : Nat) (vrd : Value) (w : World) : Prop :=
  ∃ V rd, LS B gp gg ga gs m n G acc VA v1 w0 (redJ acc j) V vrd rd w ∧ ∀ u, (redJ acc j u).length ≤ 8192 * j
/-- The inner loop's state: k accesses of item j are done. -/
def IS (B gp gg ga gs m n : Nat) (G : List Int) (acc : Nat → List (Int × Bool)) (VA : Nat → Value) (v1 : Value) (w0 : World) (j k : Nat) (lw : Int) (vrd : Value) (w : World) : Prop :=
  ∃ V, LS B gp gg ga gs m n G acc VA v1 w0 (stK (redJ acc j) (acc j) k).1 V vrd (stK (redJ acc j) (acc j) k).2.2 w ∧ lw = (stK (redJ acc j) (acc j) k).2.1 ∧ (lw = -1 ∨ IsIx n lw) ∧ (∀ x ∈ (stK (redJ acc j) (acc j) k).2.2, IsIx n x) ∧
    (∀ u, ((stK (redJ acc j) (acc j) k).1 u).length + (stK (redJ acc j) (acc j) k).2.2.length ≤ 8192 * j + 2 * k) ∧ (stK (redJ acc j) (acc j) k).2.2.length ≤ k

set_option maxRecDepth 100000 in
set_option maxHeartbeats 2000000 in
theorem g11 {R : Ending → World → Prop} {B gp gg ga gs m n : Nat} {G : List Int} {acc : Nat → List (Int × Bool)} {VA : Nat → Value} {v1 : Value} {w0 w : World} (u0 u1 u2 u4 u5 u6 u7 u8 u9 u10 u11 u14 u15 u16 u17 u18 u19 u20 u21 u22 u23 u24 u25 u26 u27 u28 u29 u30 u31 u32 u33 u34 u35 u36 u37 u38 u39 u40 u41 u42 u43 u44 u45 u46 u47 u48 u49 u50 u51 u52 u53 u54 u55 u56 u57 u58 u59 u60 u61 u62 u63 u64 u65 u66 u67 u68 u69 u70 u71 u72 u73 u74 u75 u76 u77 u78 u79 u80 u81 u82 u83 u84 u85 u86 u87 u88 u89 u90 u91 u92 u93 u94 u95 u96 u97 u98 u99 u100 u101 u102 u103 u104 u105 u106 u107 u108 u109 u110 u111 u112 u113 u114 u115 u116 u117 u118 u119 u120 u121 u122 u123 u124 u125 u126 u127 u128 u129 u130 u131 u132 u133 u134 u135 u136 u137 u138 u139 u140 u141 u142 u143 u144 u145 u146 u147 u148 u149 u150 u151 u152 u153 u154 u155 u156 u157 u158 u159 u160 u161 u162 u163 u164 u165 u166 u167 u168 u169 u170 u171 u172 u173 u174 u175 u176 u177 u178 u179 u180 u181 u182 u183 u184 u185 u186 u187 u188 u189 u190 u191 u192 u193 u194 u195 u196 u197 u198 u199 u200 u201 u202 u203 u204 u205 u206 : Value)
    (HL : Hid (∃ V, LS B gp gg ga gs m n G acc VA v1 w0 (fun _ => []) V (.slice none 0 0) [] w)) (hn : n ≤ 12288) (hm : m ≤ 4096) (HA : Hid (∀ j, j < m → (acc j).length ≤ 4096 ∧ ∀ k, k < (acc j).length → IsIx n ((acc j).getD k (0, false)).1))
    (HR : Hid (∀ (S' : Nat → List Int) (w' : World), GA B gp gg ga m G acc VA v1 (.slice (some ⟨gs, 0, none⟩) n n) w' → (∃ V, RT B 21 1 gs 44 n (fun u => (S' u).length) (fun u => ints (S' u)) V w') → Below B w0 w' → (∀ u, u < n → (S' u).Pairwise (· < ·) ∧ SameM (S' u) (redJ acc m u) ∧ (S' u).length ≤ 100000000) → R (.returned (.pointer (some ⟨gg, 0, none⟩))) w')) :
    Code.wp Try.prog (tl Try.f8 11) (bodyPost Try.prog Try.f8 R) ⟨#[u0, u1, u2, .pointer (some ⟨gp, 0, none⟩), u4, u5, u6, u7, u8, u9, u10, u11, .func (.func 29) #[] #[.pointer (some ⟨gp, 0, none⟩)], .slice none 0 0, u14, u15, u16, u17, u18, u19, u20, u21, u22, u23, u24, u25, u26, u27, u28, u29, u30, u31, u32, u33, u34, u35, u36, u37, u38, u39, u40, u41, u42, u43, u44, u45, u46, u47, u48, u49, u50, u51, u52, u53, u54, u55, u56, u57, u58, u59, u60, u61, u62, u63, u64, u65, u66, u67, u68, u69, u70, u71, u72, u73, u74, u75, u76, u77, u78, u79, u80, u81, u82, u83, u84, u85, u86, u87, u88, u89, u90, u91, u92, u93, u94, u95, u96, u97, u98, u99, u100, u101, u102, u103, u104, u105, u106, u107, u108, u109, u110, u111, u112, u113, u114, u115, u116, u117, u118, u119, u120, u121, u122, u123, u124, u125, u126, u127, u128, u129, u130, u131, u132, u133, u134, u135, u136, u137, u138, u139, u140, u141, u142, u143, u144, u145, u146, u147, u148, u149, u150, u151, u152, u153, u154, u155, u156, u157, u158, u159, u160, u161, u162, u163, u164, u165, u166, u167, u168, u169, u170, u171, u172, u173, u174, u175, u176, u177, u178, u179, u180, u181, u182, u183, u184, u185, u186, u187, u188, u189, u190, u191, u192, u193, u194, u195, u196, u197, u198, u199, u200, u201, u202, u203, u204, u205, u206], []⟩ w := by
  obtain ⟨V0, hL0⟩ := HL.out
  have c0 : w.cell? ⟨gp, 0, none⟩ = some (.pointer (some ⟨gg, 0, none⟩)) := cell_blk hL0.s.a.gb.p rfl
  have c1 : w.cell? ⟨gg, 1, none⟩ = some (.slice (some ⟨ga, 0, none⟩) m m) := cell_blk hL0.s.a.gb.g rfl
  have HO0 : Hid (OS B gp gg ga gs m n G acc VA v1 w0 0 (.slice none 0 0) w) := ⟨V0, [], hL0, fun u => by simp [redJ]⟩
  clear HL hL0 V0
  rw [tl8_11]
  refine wp_seq_k (fun K hK => ?_)
  conv => arg 2; whnf
  go_wp2_with fail
  go_loopw [13, 140] (fun vrd vj wr => ∃ (j : Nat) (o : Option Addr) (rn rc : Nat), vj = .int .i64 j ∧ vrd = .slice o rn rc ∧ j ≤ m ∧ Hid (OS B gp gg ga gs m n G acc VA v1 w0 j vrd wr)) (fun _ vj _ => m - (intOf vj).toNat)
  case atStart => exact ⟨0, none, 0, 0, rfl, rfl, by omega, HO0⟩
  case round =>
    clear c0 c1 HO0
    obtain ⟨j, o, rn, rc, rfl, rfl, hj, HO⟩ := hrel
    by_cases hlt : j < m
    · have hlt' : (j : Int) < (m : Int) := by omega
      obtain ⟨V, rd, hLS, hlen⟩ := HO.out
      have cj := hLS.s.a.ac.cell hlt
      obtain ⟨oa, ca, hva⟩ := row_shape (hLS.s.a.ac.row j hlt)
      rw [hva] at cj
      have HVA : Hid (VA j = .slice oa (acc j).length ca) := hva
      have HI0 : Hid (IS B gp gg ga gs m n G acc VA v1 w0 j 0 (-1) (.slice o 0 rc) wr) := ⟨V, hLS.cut, rfl, Or.inl rfl, fun x hx => by simp [stK] at hx, fun u => by simpa [stK] using hlen u, by simp [stK]⟩
      clear HO hLS hlen hva
      go_wp2_with fail
      go_loopw [13, 16, 148] (fun vrd vlw vk wr => ∃ (k : Nat) (lw : Int) (o : Option Addr) (rn rc : Nat), vk = .int .i64 k ∧ vlw = .int .i32 lw ∧ vrd = .slice o rn rc ∧ k ≤ (acc j).length ∧ (lw = -1 ∨ (0 ≤ lw ∧ lw < 20000)) ∧ Hid (IS B gp gg ga gs m n G acc VA v1 w0 j k lw vrd wr)) (fun _ _ vk _ => (acc j).length - (intOf vk).toNat)
      case atStart => exact ⟨0, -1, o, 0, rc, rfl, rfl, rfl, Nat.zero_le _, Or.inl rfl, HI0⟩
      case round =>
        clear HI0 cj
        obtain ⟨k, lw, o2, rn2, rc2, rfl, rfl, rfl, hk, hlw, HI⟩ := hrel
        have hla : (acc j).length ≤ 4096 := (HA.out j hlt).1
        by_cases hkl : k < (acc j).length
        · have hkl' : (k : Int) < ((acc j).length : Int) := by omega
          obtain ⟨V2, hL2, e1, e2, e3, e4, e5⟩ := HI.out
          have hsl : Sl wr oa (flatR (acc j)) := by
            have := hL2.s.a.ac.row j hlt
            rw [HVA.out] at this
            exact sl_of_row this
          obtain ⟨b, off, hoa, c0, c1⟩ := rac_cell hsl hkl
          obtain ⟨t, ht, htn⟩ := (HA.out j hlt).2 k hkl
          have hsucc := stK_succ (redJ acc j) (acc j) k hkl
          generalize hgd : (acc j).getD k (0, false) = gd at c0 c1 ht hsucc
          obtain ⟨gt, gb⟩ := gd
          simp only at ht
          subst ht
          generalize hst : stK (redJ acc j) (acc j) k = st at hL2 e1 e2 e3 e4 e5 hsucc
          obtain ⟨S, lwx, rd⟩ := st
          simp only at hL2 e1 e2 e3 e4 e5
          subst e1
          have hrn : rn2 = rd.length := by
            obtain ⟨ox, cx, hx⟩ := row_shape hL2.r
            simp at hx
            exact hx.2.1
          subst hrn
          obtain ⟨w2, hw2⟩ : ∃ w2, w2 = wr.alloc (.cells #[.int .i32 t, .bool gb] 70) := ⟨_, rfl⟩
          have hb2 : Below wr.heap.size wr w2 := by rw [hw2]; exact (Below.refl _ _).alloc (Nat.le_refl _) _
          have hblk2 : w2.heap[wr.heap.size]? = some (.cells #[.int .i32 t, .bool gb] 70 (0, 0)) := by rw [hw2]; exact heap_alloc_new wr _
          have k0 : w2.cell? ⟨wr.heap.size, 0, none⟩ = some (.int .i32 t) := cell_blk hblk2 rfl
          have k1 : w2.cell? ⟨wr.heap.size, 1, none⟩ = some (.bool gb) := cell_blk hblk2 rfl
          have HW2 : Hid (w2 = wr.alloc (.cells #[.int .i32 t, .bool gb] 70)) := hw2
          have HL2 : Hid (LS B gp gg ga gs m n G acc VA v1 w0 S V2 (.slice o2 rd.length rc2) rd w2) := hL2.below hb2
          have HK2 : Hid (w2.heap[wr.heap.size]? = some (.cells #[.int .i32 t, .bool gb] 70 (0, 0))) := hblk2
          have HE : Hid ((lw = -1 ∨ IsIx n lw) ∧ (∀ x ∈ rd, IsIx n x) ∧ (∀ u, (S u).length + rd.length ≤ 8192 * j + 2 * k) ∧ rd.length ≤ k) := ⟨e2, e3, e4, e5⟩
          have HSU : Hid (stK (redJ acc j) (acc j) (k + 1) = stepA (S, lw, rd) ((t : Int), gb)) := hsucc
          have ht20 : t ≤ 20000 := by omega
          clear hw2 hL2 hblk2 hb2 e2 e3 e4 e5 hsucc hst hgd hsl HI
          subst hoa
          have HLW : Hid (lw = -1 ∨ 0 ≤ lw ∧ lw < 20000) := hlw
          clear hlw
          go_upto_region 33 with fail
          rw [← HW2.out]
          clear HW2 c0 c1
          generalize wr.heap.size = b9 at HK2 k0 k1 ⊢
          go_upto_if 153 with fail
          go_cut [148, 158] from 148 to 183 (fun s148 s158 wc => s148 = .int .i64 k ∧ Hid (∃ V, LS B gp gg ga gs m n G acc VA v1 w0 (if 0 ≤ lw then addE S lw t else S) V (.slice o2 rd.length rc2) rd wc ∧ wc.heap[b9]? = some (.cells #[.int .i32 t, .bool gb] 70 (0, 0))))
          case first =>
            by_cases hl0 : 0 ≤ lw
            · obtain ⟨f, hf, hfn⟩ : IsIx n lw := by
                rcases HE.out.1 with e | e
                · omega
                · exact e
              subst hf
              have HC : Hid _ := addEdge_any HL2.out.s (f := f) (t := t) hfn (by omega) (by omega) (by have := HE.out.2.2.1 f; omega)
              go_wp2_with fail
              refine Calls.mono HC.out ?_
              rintro e w3 he
              have hE := HL2.out.edge he
              have hB := HL2.out.blk he HK2.out (by decide) (by decide)
              have HZ : Hid (∃ V, LS B gp gg ga gs m n G acc VA v1 w0 (addE S (f : Int) t) V (.slice o2 rd.length rc2) rd w3 ∧ w3.heap[b9]? = some (.cells #[.int .i32 t, .bool gb] 70 (0, 0))) := by
                obtain ⟨V3, h3⟩ := hE
                exact ⟨V3, h3, hB⟩
              obtain ⟨rfl, _⟩ := he
              clear hE hB HC
              go_wp2_with fail
              go_meet
              case rel => exact ⟨rfl, (by rw [if_pos hl0]; exact HZ.out)⟩
            · go_wp2_with fail
              go_meet
              case rel => exact ⟨rfl, V2, by rw [if_neg (by omega)]; exact HL2.out, HK2.out⟩
          case rest =>
            obtain ⟨rfl, hcut⟩ := hcut
            obtain ⟨V3, hL3, hB3⟩ := hcut.out
            have HL3 : Hid _ := hL3
            have HB3 : Hid _ := hB3
            have k0 : wc.cell? ⟨b9, 0, none⟩ = some (.int .i32 t) := cell_blk hB3 rfl
            have k1 : wc.cell? ⟨b9, 1, none⟩ = some (.bool gb) := cell_blk hB3 rfl
            clear hcut hL3 hB3
            cases gb with
            | false =>
              obtain ⟨i0, hi0, hz0, hz1, hz2⟩ := info_parts Try.info21
              have q1 : rd.length + 1 ≤ maxLen := by have := HE.out.2.2.2; unfold maxLen; omega
              have q2 : (rd.length + 1) * 4 ≤ 140737488355328 := by have := HE.out.2.2.2; omega
              have hb4 : Below wc.heap.size wc (wc.alloc (.cells #[.int .i32 t] 21)) := (Below.refl _ _).alloc (Nat.le_refl _) _
              have HL4 : Hid _ := HL3.out.below hb4
              have q3 : B ≤ (wc.alloc (.cells #[.int .i32 t] 21)).heap.size := HL4.out.s.size
              have HNW : Hid (∀ j u, [Value.int .i32 t][j]? = some u → (wc.alloc (.cells #[.int .i32 t] 21)).cell? ((⟨wc.heap.size, 0, none⟩ : Addr).add j) = some u) := World.news_of_block (w := wc.alloc (.cells #[.int .i32 t] 21)) (cs := #[.int .i32 t]) (t := 21) (fr := (0, 0)) (heap_alloc_new wc _)
              have HB4 : Hid _ := hb4
              clear hb4
              go_wp2_with (at_builtin; go_must (refine wpList_append_own_at _ rfl _ _ 44 rfl B 21 i0 (.int .i32 0) 1 4 Try.underlying44 hi0 hz0 hz1 hz2 rfl Nat.zero_lt_one (.slice o2 rd.length rc2) rd.length (ints rd) rfl HL4.out.r ⟨wc.heap.size, 0, none⟩ 1 1 [.int .i32 t] rfl rfl HNW.out (ints_one t) q1 q2 q3 ?_; intro v' w5 hown5 hgrow5 hnil5 hloc5; obtain ⟨o5, cp5, hv5⟩ := row_shape hown5; subst hv5))
              have hL5 := HL3.out.read HB4.out t hown5 hgrow5 (fun g hg => by
                rcases hloc5 with e | e
                · left; rw [← e]; exact hg
                · right
                  rw [e] at hg
                  have e2 : wc.heap.size + 1 = g := by simpa using hg
                  omega)
              have HZ : Hid (IS B gp gg ga gs m n G acc VA v1 w0 j (k + 1) lw (.slice o5 (rd.length + 1) cp5) w5) := by
                refine ⟨V3, ?_⟩
                rw [HSU.out]
                simp only [stepA, Bool.false_eq_true, if_false]
                refine ⟨hL5, by trivial, HE.out.1, ?_, ?_, ?_⟩
                · intro x hx
                  rcases List.mem_append.1 hx with hx | hx
                  · exact HE.out.2.1 x hx
                  · simp at hx; exact ⟨t, hx, htn⟩
                · intro u
                  have h1 := HE.out.2.2.1 u
                  have h2 := addE_len S lw t u
                  rw [List.length_append]
                  by_cases hl : 0 ≤ lw
                  · rw [if_pos hl]; simp; omega
                  · rw [if_neg hl]; simp; omega
                · have := HE.out.2.2.2; simp; omega
              clear hL5 hown5 hgrow5 hnil5 hloc5 HL4 HNW HB4
              go_wp2_with fail
              go_roundw
              case rel => exact ⟨k + 1, lw, o5, rd.length + 1, cp5, by go_num, rfl, rfl, by omega, HLW.out, HZ⟩
              case measure => simp [intOf]; omega
            | true =>
              obtain ⟨S1, hS1⟩ : ∃ S1, S1 = (if 0 ≤ lw then addE S lw t else S) := ⟨_, rfl⟩
              have HS1 : Hid (S1 = (if 0 ≤ lw then addE S lw t else S)) := hS1
              rw [← hS1] at HL3
              have HBd : Hid (∀ u, (S1 u).length + rd.length ≤ 8192 * j + 2 * k + 1) := fun u => by
                have h1 := HE.out.2.2.1 u
                have h2 := addE_len S lw t u
                rw [hS1]
                by_cases hl : 0 ≤ lw
                · rw [if_pos hl]; omega
                · rw [if_neg hl]; omega
              have HRd : Hid (∀ x ∈ rd, IsIx n x) := HE.out.2.1
              have hrd : rd.length ≤ 4096 := by have := HE.out.2.2.2; omega
              have HQ0 : Hid (∃ V, LS B gp gg ga gs m n G acc VA v1 w0 (edgesTo S1 rd t 0) V (.slice o2 rd.length rc2) rd wc ∧ wc.heap[b9]? = some (.cells #[.int .i32 t, .bool true] 70 (0, 0))) := ⟨V3, by simpa [edgesTo] using HL3.out, HB3.out⟩
              clear hS1 HL3 HB3 HL2 HK2
              go_wp2_with fail
              clear k0 k1
              go_loopw [169] (fun vq wr => ∃ q : Nat, vq = .int .i64 q ∧ q ≤ rd.length ∧ Hid (∃ V, LS B gp gg ga gs m n G acc VA v1 w0 (edgesTo S1 rd t q) V (.slice o2 rd.length rc2) rd wr ∧ wr.heap[b9]? = some (.cells #[.int .i32 t, .bool true] 70 (0, 0)))) (fun vq _ => rd.length - (intOf vq).toNat)
              case atStart => exact ⟨0, rfl, Nat.zero_le _, HQ0⟩
              case round =>
                clear HQ0
                obtain ⟨q, rfl, hq, HQ⟩ := hrel
                obtain ⟨V6, hL6, hB6⟩ := HQ.out
                have k0 : wr.cell? ⟨b9, 0, none⟩ = some (.int .i32 t) := cell_blk hB6 rfl
                have HL6 : Hid _ := hL6
                have HB6 : Hid _ := hB6
                by_cases hql : q < rd.length
                · have hql' : (q : Int) < (rd.length : Int) := by omega
                  obtain ⟨b6, off6, hb6, cq⟩ := i32_cell (sl_of_row hL6.r) hql
                  obtain ⟨r, hr, hrn⟩ : IsIx n (rd.getD q 0) := HRd.out _ (by rw [List.getD_eq_getElem?_getD, List.getElem?_eq_getElem hql]; exact List.getElem_mem hql)
                  rw [hr] at cq
                  have HSq : Hid (edgesTo S1 rd t (q + 1) = addE (edgesTo S1 rd t q) (r : Int) t) := by rw [← hr]; exact edgesTo_succ S1 rd t q hql
                  have HC : Hid _ := addEdge_any hL6.s (f := r) (t := t) hrn (by omega) (by omega) (by
                    have h1 := edgesTo_len S1 rd t q r
                    have h2 := HBd.out r
                    omega)
                  clear hL6 hB6 HQ hr
                  subst hb6
                  go_wp2_with fail
                  refine Calls.mono HC.out ?_
                  rintro e w7 he
                  have HZ : Hid (∃ V, LS B gp gg ga gs m n G acc VA v1 w0 (edgesTo S1 rd t (q + 1)) V (.slice (some ⟨b6, off6, none⟩) rd.length rc2) rd w7 ∧ w7.heap[b9]? = some (.cells #[.int .i32 t, .bool true] 70 (0, 0))) := by
                    rw [HSq.out]
                    obtain ⟨V7, h7⟩ := HL6.out.edge he
                    exact ⟨V7, h7, HL6.out.blk he HB6.out (by decide) (by decide)⟩
                  obtain ⟨rfl, _⟩ := he
                  clear HC HL6 HB6 cq k0
                  go_wp2_with fail
                  go_roundw
                  case rel => exact ⟨q + 1, by go_num, by omega, HZ⟩
                  case measure => simp [intOf]; omega
                · have hqe : q = rd.length := by omega
                  have HZ : Hid (IS B gp gg ga gs m n G acc VA v1 w0 j (k + 1) t (.slice o2 0 rc2) wr) := by
                    refine ⟨V6, ?_⟩
                    rw [HSU.out]
                    have e0 : edgesTo S1 rd t q = rd.foldl (fun S r => addE S r (t : Int)) (if 0 ≤ lw then addE S lw t else S) := by
                      rw [hqe, ← HS1.out]; unfold edgesTo; rw [List.take_length]
                    have hb := fun u => edgesTo_len S1 rd t q u
                    rw [e0] at hL6 hb
                    simp only [stepA, if_true]
                    refine ⟨hL6.cut, by trivial, Or.inr ⟨t, rfl, htn⟩, fun x hx => absurd hx (by simp), fun u => ?_, Nat.zero_le _⟩
                    have h1 := hb u
                    have h2 := HBd.out u
                    simp only [List.length_nil]
                    omega
                  clear hL6 hB6 HQ HL6 HB6
                  subst hqe
                  go_wp2_with fail
                  go_roundw
                  case rel => exact ⟨k + 1, t, o2, 0, rc2, by go_num, rfl, rfl, by omega, Or.inr (by omega), HZ⟩
                  case measure => simp [intOf]; omega
        · have hke : k = (acc j).length := by omega
          obtain ⟨V2, hL2, e1, e2, e3, e4, e5⟩ := HI.out
          have hrn : rn2 = (stK (redJ acc j) (acc j) k).2.2.length := by
            obtain ⟨ox, cx, hx⟩ := row_shape hL2.r
            simp at hx
            exact hx.2.1
          have HZ : Hid (OS B gp gg ga gs m n G acc VA v1 w0 (j + 1) (.slice o2 rn2 rc2) wr) := by
            refine ⟨V2, (stK (redJ acc j) (acc j) k).2.2, ?_, fun u => ?_⟩
            · rw [redJ_succ, ← hke]; exact hL2
            · rw [redJ_succ, ← hke]
              have := e4 u
              omega
          clear HI hL2 e1 e2 e3 e4 e5 hrn hlw
          subst hke
          go_wp2_with fail
          go_roundw
          case rel => exact ⟨j + 1, o2, rn2, rc2, by go_num, rfl, by omega, HZ⟩
          case measure => simp [intOf]; omega
    · have hje : j = m := by omega
      obtain ⟨V, rd, hLS, hlen⟩ := HO.out
      have HGA : Hid _ := hLS.s.a
      have HRT : Hid (∃ V, RT B 21 1 gs 44 n (fun u => (redJ acc m u).length) (fun u => ints (redJ acc m u)) V wr) := ⟨V, by rw [← hje]; exact hLS.s.t⟩
      have HBB : Hid _ := hLS.s.b
      have HSS : Hid (∀ u, u < n → (redJ acc m u).length ≤ 100000000) := fun u _ => by have := hlen u; rw [hje] at this; omega
      clear HO hLS hlen
      subst hje
      go_wp2_with fail
      exact g12 _ _ _ _ _ _ _ _ _ _ _ _ _ _ _ _ _ _ _ _ _ _ _ _ _ _ _ _ _ _ _ _ _ _ _ _ _ _ _ _ _ _ _ _ _ _ _ _ _ _ _ _ _ _ _ _ _ _ _ _ _ _ _ _ _ _ _ _ _ _ _ _ _ _ _ _ _ _ _ _ _ _ _ _ _ _ _ _ _ _ _ _ _ _ _ _ _ _ _ _ _ _ _ _ _ _ _ _ _ _ _ _ _ _ _ _ _ _ _ _ _ _ _ _ _ _ _ _ _ _ _ _ _ _ _ _ _ _ _ _ _ _ _ _ _ _ _ _ _ _ _ _ _ _ _ _ _ _ _ _ _ _ _ _ _ _ _ _ _ _ _ _ _ _ _ _ _ _ _ _ _ _ _ _ _ _ _ _ _ _ _ _ _ _ _ _ _ _ _ _ _ _ _ _ _ _ HGA HRT HBB hn HSS HR
end Go.Proofs.Qxb6626314a
