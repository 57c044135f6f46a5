/-
  Seat b6625890a: ZZnewClassifier. Frames written by program.
-/
import Derived.Test.Qxb6625890aN
import Derived.Test.Qxb6625890aK
import Derived.Deep.RegionHeld3
import Derived.Deep.RegionLaw
import Derived.Deep.AppendLies
namespace Go.Proofs.Qxb6625890a
open Go.RowKit Go.Maps
set_option linter.unusedVariables false

def QN (R : Value → World → Prop) : Exit → Act → World → Prop := bodyPost Try.prog Try.f24 (fun e w' => ∃ v, e = .returned v ∧ R v w')
def c4 (c0 c1 c2 c3 : Bool) (k : Nat) : Bool := match k with | 0 => c0 | 1 => c1 | 2 => c2 | 3 => c3 | _ => false
theorem c4_at (c0 c1 c2 c3 : Bool) (k : Nat) (h : k < 4) : (#[Value.bool c0, .bool c1, .bool c2, .bool c3])[k]? = some (.bool (c4 c0 c1 c2 c3 k)) := by
  match k, h with
  | 0, _ => rfl
  | 1, _ => rfl
  | 2, _ => rfl
  | 3, _ => rfl
abbrev NoD : Int → Option Value := fun _ => none
theorem ClsV.setOutAt {w : World} {F : Nat → Prop} {cb tb db mi N lim : Nat} {vi vr vt : Value} {f : Int → Option Value} {ends : List Int} {out : Nat → Option OpC} {items reads : List (Int × Int)} {dm : Int → Option (List Int)}
    (h : ClsV w F cb tb db mi N lim vi vr vt f ends out items reads dm) {k : Nat} (hk : k < 4) {x : OpC} (hx : w.heap[x.1]? = some (.cells x.2.toArray 45 (0, 0))) : ClsV (w.setCell ⟨cb, 1 + k, none⟩ (optr (some x))) F cb tb db mi N lim vi vr vt f ends (setOut out k (some x)) items reads dm := by
  refine h.setCb (grown_setCell' cb (1 + k) _) ?_ ?_
  · rw [blk_set (i := 1 + k) (optr (some x)) h.blk, cb_set tb out vi vr db k hk (some x)]
  · intro j b cs hj
    unfold setOut at hj
    by_cases e : j = k
    · rw [if_pos e] at hj
      cases hj
      exact hx
    · rw [if_neg e] at hj
      exact h.ops j b cs hj
theorem tl24_0 : tl Try.f24 0 = Code.seq (st Try.f24 0) (tl Try.f24 1) := by kernel_rfl
theorem tl24_1 : tl Try.f24 1 = Code.seq (st Try.f24 1) (tl Try.f24 2) := by kernel_rfl
theorem tl24_2 : tl Try.f24 2 = Code.seq (st Try.f24 2) (tl Try.f24 3) := by kernel_rfl
theorem tl24_3 : tl Try.f24 3 = Code.seq (st Try.f24 3) (tl Try.f24 4) := by kernel_rfl
theorem tl24_4 : tl Try.f24 4 = Code.seq (st Try.f24 4) (tl Try.f24 5) := by kernel_rfl
theorem tl24_5 : tl Try.f24 5 = Code.seq (st Try.f24 5) (tl Try.f24 6) := by kernel_rfl
theorem tl24_6 : tl Try.f24 6 = Code.seq (st Try.f24 6) (tl Try.f24 7) := by kernel_rfl

set_option maxRecDepth 100000 in
set_option maxHeartbeats 2000000 in
theorem nc5 {w w0 : World} (F : Nat → Prop) (B bp cb tb db mi lim : Nat) (vt : Value) (ends : List Int) (c0 c1 c2 c3 : Bool) (u0 u1 u2 u4 u5 u6 u9 u10 u11 u12 u13 u14 u15 u16 u17 u18 u19 u20 u21 u22 u23 u24 u25 u26 u27 u28 u29 u30 u31 u32 u33 u34 u35 u36 u37 u38 u39 u40 u41 u42 u43 u44 u45 u46 u47 u48 u49 u50 u51 u52 u53 u54 : Value) (R : Value → World → Prop)
    (h : ClsV w F cb tb db mi 0 lim (.slice none 0 0) (.slice none 0 0) vt NoD ends (fun _ => none) [] [] (fun _ => none)) (hbp : w.heap[bp]? = some (.cells #[.bool c0, .bool c1, .bool c2, .bool c3] 25 (0, 0))) (hcb : B ≤ cb) (hB : B ≤ w.heap.size) (hb : Below B w0 w) (hR : ∀ w' out, ClsV w' F cb tb db mi 0 lim (.slice none 0 0) (.slice none 0 0) vt NoD ends out [] [] (fun _ => none) → (∀ k, k < 4 → (out k).isSome = c4 c0 c1 c2 c3 k) → Below B w0 w' → R (.pointer (some ⟨cb, 0, none⟩)) w') :
    Code.wp Try.prog (tl Try.f24 5) (QN R) ⟨#[u0, u1, u2, .pointer (some ⟨bp, 0, none⟩), u4, u5, u6, .pointer (some ⟨cb, 0, none⟩), .pointer none, u9, u10, u11, u12, u13, u14, u15, u16, u17, u18, u19, u20, u21, u22, u23, u24, u25, u26, u27, u28, u29, u30, u31, u32, u33, u34, u35, u36, u37, u38, u39, u40, u41, u42, u43, u44, u45, u46, u47, u48, u49, u50, u51, u52, u53, u54], []⟩ w := by
  rw [tl24_5]
  refine wp_seq_k (fun K hK => ?_)
  conv => arg 2; whnf
  have HC : Hid _ := h
  have HBP : Hid _ := hbp
  have HB : Hid _ := hb
  have HR : Hid _ := hR
  clear h hbp hb hR
  go_wp2_with fail
  go_loopw [8, 9] (fun a i wr => ∃ (k : Nat) (o : Nat → Option OpC) (oa : Option OpC), k ≤ 4 ∧ i = .int .i64 k ∧ a = optr oa ∧ ClsV wr F cb tb db mi 0 lim (.slice none 0 0) (.slice none 0 0) vt NoD ends o [] [] (fun _ => none) ∧ (∀ j, j < k → (o j).isSome = c4 c0 c1 c2 c3 j) ∧ (∀ j, k ≤ j → o j = none) ∧ (∀ x, oa = some x → wr.heap[x.1]? = some (.cells x.2.toArray 45 (0, 0))) ∧ wr.heap[bp]? = some (.cells #[.bool c0, .bool c1, .bool c2, .bool c3] 25 (0, 0)) ∧ Below B w0 wr) (fun _ i _ => 4 - (intOf i).toNat)
  case atStart => exact ⟨0, _, none, by omega, rfl, rfl, HC.out, fun j hj => by omega, fun _ _ => rfl, fun x hx => (by cases hx), HBP.out, HB.out⟩
  case round =>
    obtain ⟨k, o, oa, hk, rfl, rfl, hV, ho1, ho2, hoa, hbp, hb⟩ := hrel
    clear HC HBP HB
    by_cases hlt : k < 4
    · have hlt' : (k : Int) < 4 := by omega
      have hbk : wr.cell? ⟨bp, k, none⟩ = some (.bool (c4 c0 c1 c2 c3 k)) := cell_blk hbp (c4_at c0 c1 c2 c3 k hlt)
      have hco := hV.co k hlt
      have hfz := hV.fz (1 + k)
      rw [ho2 k (Nat.le_refl _), optr_none] at hco
      have hcbl : cb < wr.heap.size := (Array.getElem?_eq_some_iff.1 hV.blk).1
      have hbpl : bp < wr.heap.size := (Array.getElem?_eq_some_iff.1 hbp).1
      have hnb : bp ≠ cb := ne_of_tag hbp hV.blk (by decide)
      have nxt : ∀ x : OpC, c4 c0 c1 c2 c3 k = true → (∀ j, j < k + 1 → (setOut o k (some x) j).isSome = c4 c0 c1 c2 c3 j) ∧ (∀ j, k + 1 ≤ j → setOut o k (some x) j = none) := fun x hc => by
        refine ⟨fun j hj => ?_, fun j hj => ?_⟩
        · unfold setOut
          by_cases e : j = k
          · rw [if_pos e, e, hc]; rfl
          · rw [if_neg e]; exact ho1 j (by omega)
        · unfold setOut
          rw [if_neg (by omega)]; exact ho2 j (by omega)
      cases hck : c4 c0 c1 c2 c3 k with
      | false =>
        rw [hck] at hbk
        have H1 : Hid _ := hV
        have H2 : Hid (∀ j, j < k + 1 → (o j).isSome = c4 c0 c1 c2 c3 j) := fun j hj => by
          by_cases e : j = k
          · rw [e, ho2 k (Nat.le_refl _), hck]; rfl
          · exact ho1 j (by omega)
        have H3 : Hid (∀ j, k + 1 ≤ j → o j = none) := fun j hj => ho2 j (by omega)
        have H4 : Hid _ := hoa
        have H5 : Hid _ := hbp
        have H6 : Hid _ := hb
        clear hV ho1 ho2 hoa hbp hb nxt hck hco hfz
        generalize hop : optr oa = op at *
        go_wp2_with fail
        go_roundw
        case rel => exact ⟨k + 1, o, oa, by omega, by go_num, hop.symm, H1.out, H2.out, H3.out, H4.out, H5.out, H6.out⟩
        case measure => simp [intOf]; omega
      | true =>
        rw [hck] at hbk
        have nx := nxt
        cases oa with
        | none =>
          have hb1 : Below wr.heap.size wr (wr.alloc (.cells (opc 0 0 ByteArray.empty 0 false).toArray 45)) := (Below.refl _ _).alloc (Nat.le_refl _) _
          have hV1 := hV.grown hb1
          have hn1 : (wr.alloc (.cells (opc 0 0 ByteArray.empty 0 false).toArray 45)).heap[wr.heap.size]? = some (.cells (opc 0 0 ByteArray.empty 0 false).toArray 45 (0, 0)) := heap_alloc_new wr _
          have hV2 := hV1.setOutAt (x := (wr.heap.size, opc 0 0 ByteArray.empty 0 false)) hlt hn1
          have hs := grown_setCell' (w := wr.alloc (.cells (opc 0 0 ByteArray.empty 0 false).toArray 45)) cb (1 + k) (optr (some (wr.heap.size, opc 0 0 ByteArray.empty 0 false)))
          have hn2 := blk_kept hs hn1 (by simp; omega)
          have hbp2 := blk_kept hs (blk_kept (grown_of_below hb1) hbp (by simp)) (by simpa using hnb)
          have hb2 : Below B w0 ((wr.alloc (.cells (opc 0 0 ByteArray.empty 0 false).toArray 45)).setCell ⟨cb, 1 + k, none⟩ (optr (some (wr.heap.size, opc 0 0 ByteArray.empty 0 false)))) := (hb.trans (hb1.mono (by have := hb.size; omega))).setCell (by exact hcb) _
          have hx := nxt (wr.heap.size, opc 0 0 ByteArray.empty 0 false) hck
          rw [World.setCell_alloc_past _ _ _ _ hcbl] at hV2 hn2 hbp2 hb2
          have H1 : Hid _ := hV2
          have H2 : Hid _ := hx
          have H4 : Hid _ := hn2
          have H5 : Hid _ := hbp2
          have H6 : Hid _ := hb2
          clear hV ho1 ho2 hoa hbp hb nxt nx hck hV1 hn1 hV2 hs hn2 hbp2 hb2 hx
          rw [optr_none]
          go_wp2_with fail
          go_roundw
          case rel => exact ⟨k + 1, _, some (wr.heap.size, opc 0 0 ByteArray.empty 0 false), by omega, by go_num, rfl, H1.out, H2.out.1, H2.out.2, fun x hx => by cases hx; exact H4.out, H5.out, H6.out⟩
          case measure => simp [intOf]; omega
        | some x =>
          have hn1 := hoa x rfl
          have hV2 := hV.setOutAt (x := x) hlt hn1
          have hs := grown_setCell' (w := wr) cb (1 + k) (optr (some x))
          have hn2 := blk_kept hs hn1 (by simpa using ne_of_tag hn1 hV.blk (by decide))
          have hbp2 := blk_kept hs hbp (by simpa using hnb)
          have hb2 : Below B w0 (wr.setCell ⟨cb, 1 + k, none⟩ (optr (some x))) := hb.setCell (by exact hcb) _
          have hx := nxt x hck
          have H1 : Hid _ := hV2
          have H2 : Hid _ := hx
          have H4 : Hid _ := hn2
          have H5 : Hid _ := hbp2
          have H6 : Hid _ := hb2
          clear hV ho1 ho2 hoa hbp hb nxt nx hck hn1 hV2 hs hn2 hbp2 hb2 hx
          rw [optr_some]
          go_wp2_with fail
          go_roundw
          case rel => exact ⟨k + 1, _, some x, by omega, by go_num, rfl, H1.out, H2.out.1, H2.out.2, fun x' hx => by cases hx; exact H4.out, H5.out, H6.out⟩
          case measure => simp [intOf]; omega
    · obtain rfl : k = 4 := by omega
      have hfin := HR.out wr o hV ho1 hb
      have HF : Hid _ := hfin
      clear hV ho1 ho2 hoa hbp hb hfin HR
      go_wp2_with fail
      unfold QN
      conv => arg 2; whnf
      go_wp2_with fail
      go_ret
      exact ⟨_, rfl, HF.out⟩

/-- K behind a normal end; nothing else may come. -/
def NP (K : Act → World → Prop) : Exit → Act → World → Prop
  | .normal, a, w => K a w
  | _, _, _ => False
theorem wp_shade2 {P : Program} {c : Code} {Q : Exit → Act → World → Prop} {a : Act} {w : World} (h : ∀ K : Act → World → Prop, (∀ a w, Q .normal a w → NP K .normal a w) → Code.wp P c (NP K) a w) : Code.wp P c Q a w :=
  Code.wp_mono (fun e a w hh => by cases e <;> first | exact hh | exact (hh : False).elim) (h (fun a w => Q .normal a w) (fun _ _ h => h))

theorem mk73 (w : World) : (Instr.makeMap 73 none).run Try.prog w = .ok (.map (some w.heap.size)) (w.alloc (.map #[] 0)) := by kernel_rfl
theorem mk81 (w : World) : (Instr.makeMap 81 none).run Try.prog w = .ok (.map (some w.heap.size)) (w.alloc (.map #[] 0)) := by kernel_rfl
attribute [local go_sem] mk73 mk81

theorem news_two {w : World} (k e : Int) : ∀ j u, [Value.int .i64 k, .int .u8 e][j]? = some u → (w.alloc (.cells #[.int .i64 k, .int .u8 e] 86)).cell? ((⟨w.heap.size, 0, none⟩ : Addr).add j) = some u :=
  World.news_of_block (cs := #[.int .i64 k, .int .u8 e]) (t := 86) (fr := (0, 0)) (heap_alloc_new w _)
theorem two_oneCell (a b : Int) : ∀ u ∈ [Value.int .i64 a, .int .u8 b], u.oneCell' = true := by
  intro u hu
  simp at hu
  rcases hu with rfl | rfl <;> rfl
theorem push_any {w1 w2 : World} {b : Nat} {c : Array Value} {e t : TypeId} {base : Nat} {v : Value} {n : Nat} {xs : List Value} (hb : w1.heap[b]? = some (.cells c t (0, 0))) (hr : w1.ownsRow base e 2 v n xs) (hg : w1.grownBy w2 v.ownBlock) (hne : t ≠ e) : w2.heap[b]? = some (.cells c t (0, 0)) :=
  blk_kept hg hb (fun hx => by
    obtain ⟨cur, hc⟩ := row_tag hr b hx.symm
    exact ne_of_tag hb hc hne rfl)
theorem ends_push {xs : List Value} {ends : List Int} {k : Nat} (hl : xs.length = k * 2) (hx : ∀ i, i < k → xs[i * 2 + 1]? = some (.int .u8 (ends.getD i 0))) : ∀ i, i < k + 1 → (xs ++ [.int .i64 k, .int .u8 (ends.getD k 0)])[i * 2 + 1]? = some (.int .u8 (ends.getD i 0)) := by
  intro i hi
  by_cases e : i < k
  · rw [List.getElem?_append_left (by omega)]; exact hx i e
  · obtain rfl : i = k := by omega
    rw [List.getElem?_append_right (by omega), hl, Nat.add_sub_cancel_left]; rfl

set_option maxRecDepth 100000 in
set_option maxHeartbeats 2000000 in
theorem nc3 {w w0 : World} (F : Nat → Prop) (B bp tb mi : Nat) (vt : Value) (ends : List Int) (c0 c1 c2 c3 : Bool) (u0 u1 u2 u4 u6 u7 u8 u9 u10 u11 u12 u13 u14 u15 u16 u17 u18 u19 u20 u21 u22 u23 u24 u25 u26 u27 u28 u29 u30 u31 u32 u33 u34 u35 u36 u37 u38 u39 u40 u41 u42 u43 u44 u45 u46 u47 u48 u49 u50 u51 u52 u53 u54 : Value) (R : Value → World → Prop)
    (htb : w.heap[tb]? = some (.cells #[vt, .map (some mi), .int .i32 0, .bool false, .bool false] 84 (0, 0))) (htx : ∃ xs, w.ownsRow 0 86 2 vt ends.length xs ∧ ∀ i, i < ends.length → xs[i * 2 + 1]? = some (.int .u8 (ends.getD i 0))) (hbp : w.heap[bp]? = some (.cells #[.bool c0, .bool c1, .bool c2, .bool c3] 25 (0, 0))) (hB : B ≤ w.heap.size) (hF : ∀ k, B ≤ k → F k) (hb : Below B w0 w) (hR : ∀ w' cb db vt out, ClsV w' F cb tb db mi 0 0 (.slice none 0 0) (.slice none 0 0) vt NoD ends out [] [] (fun _ => none) → (∀ k, k < 4 → (out k).isSome = c4 c0 c1 c2 c3 k) → Below B w0 w' → R (.pointer (some ⟨cb, 0, none⟩)) w') :
    Code.wp Try.prog (tl Try.f24 3) (QN R) ⟨#[u0, u1, u2, .pointer (some ⟨bp, 0, none⟩), u4, .pointer (some ⟨tb, 0, none⟩), u6, u7, u8, u9, u10, u11, u12, u13, u14, u15, u16, u17, u18, u19, u20, u21, u22, u23, u24, u25, u26, u27, u28, u29, u30, u31, u32, u33, u34, u35, u36, u37, u38, u39, u40, u41, u42, u43, u44, u45, u46, u47, u48, u49, u50, u51, u52, u53, u54], []⟩ w := by
  obtain ⟨w1, hw1⟩ : ∃ w1, w1 = w.alloc (.map #[] 0) := ⟨_, rfl⟩
  obtain ⟨w2, hw2⟩ : ∃ w2, w2 = w1.alloc (.cells (cbCells tb (fun _ => none) (.slice none 0 0) (.slice none 0 0) w.heap.size) 75) := ⟨_, rfl⟩
  have b1 : Below w.heap.size w w1 := by rw [hw1]; exact (Below.refl _ _).alloc (Nat.le_refl _) _
  have b2 : Below w1.heap.size w1 w2 := by rw [hw2]; exact (Below.refl _ _).alloc (Nat.le_refl _) _
  have s1 : w1.heap.size = w.heap.size + 1 := by rw [hw1]; simp
  have b12 : Below w.heap.size w w2 := b1.trans (b2.mono (by omega))
  have hm1 : MapIs w1 w.heap.size 0 NoD := by rw [hw1]; exact MapIs.made w
  have hm2 : MapIs w2 w.heap.size 0 NoD := hm1.kept (grown_of_below b2) (by simp)
  have hcb2 : w2.heap[w1.heap.size]? = some (.cells (cbCells tb (fun _ => none) (.slice none 0 0) (.slice none 0 0) w.heap.size) 75 (0, 0)) := by rw [hw2]; exact heap_alloc_new w1 _
  have hV : ClsV w2 F w1.heap.size tb w.heap.size mi 0 0 (.slice none 0 0) (.slice none 0 0) vt NoD ends (fun _ => none) [] [] (fun _ => none) := by
    obtain ⟨xs, hr, hx⟩ := htx
    refine ⟨hcb2, blk_kept (grown_of_below b12) htb (by simp), ⟨xs, row_below hr b12, hx⟩, World.ownsRow_nil _ _ _ _, World.ownsRow_nil _ _ _ _, hm2, fun k v hv => (by cases hv), fun _ _ => rfl, fun k1 k2 v1 v2 _ hv => (by cases hv), fun k b cs hk => (by cases hk), hF _ (by omega), hF _ hB, fun g hg => (by simp [Value.ownBlock] at hg), fun g hg => (by simp [Value.ownBlock] at hg), fun k v g hv => (by cases hv), Nat.le_refl _, Nat.le_refl _, Nat.le_refl _⟩
  have hbp2 := blk_kept (grown_of_below b12) hbp (by simp)
  have hb2 := hb.trans (b12.mono hB)
  have HV : Hid _ := hV
  have HBP : Hid _ := hbp2
  have HB2 : Hid _ := hb2
  have HR : Hid _ := hR
  have H1 : Hid _ := hw1
  have H2 : Hid _ := hw2
  have HS : Hid _ := b12.size
  have HS1 : Hid _ := s1
  clear hV hbp2 hb2 hR b1 b2 s1 b12 hm1 hm2 hcb2 htb htx hbp hb hw1 hw2
  rw [tl24_3]
  refine wp_seq_k (fun K hK => ?_)
  conv => arg 2; whnf
  go_wp2_with fail
  rw [tl24_4]
  refine wp_seq_k (fun K hK => ?_)
  conv => arg 2; whnf
  go_wp2_with fail
  have e2 := H2.out
  rw [H1.out] at e2
  unfold cbCells at e2
  simp only [optr_none] at e2
  have HVV := HV.out
  rw [HS1.out] at HVV
  rw [← e2]
  exact nc5 _ _ _ _ _ _ _ _ _ _ _ _ _ _ _ _ _ _ _ _ _ _ _ _ _ _ _ _ _ _ _ _ _ _ _ _ _ _ _ _ _ _ _ _ _ _ _ _ _ _ _ _ _ _ _ _ _ _ _ _ _ _ _ _ _ _ _ HVV HBP.out (Nat.le_succ_of_le hB) (Nat.le_trans hB HS.out) HB2.out (fun w' o h1 h2 h3 => HR.out w' _ _ vt o h1 h2 h3)

theorem row_lt {w : World} {base : Nat} {e : TypeId} {size : Nat} {v : Value} {n : Nat} {xs : List Value} (h : w.ownsRow base e size v n xs) : ∀ g, v.ownBlock = some g → base ≤ g := by
  intro g hg
  rcases h.2 with ⟨rfl, _⟩ | ⟨g', cap, cur, rfl, hb, _⟩
  · simp [Value.ownBlock] at hg
  · simp [Value.ownBlock] at hg
    omega

set_option maxRecDepth 100000 in
set_option maxHeartbeats 2000000 in
theorem nc2 {w w0 : World} (F : Nat → Prop) (B bp tb mi : Nat) (ae : Option Addr) (ce : Nat) (ends : List Int) (c0 c1 c2 c3 : Bool) (u1 u2 u4 u6 u7 u8 u9 u10 u11 u12 u13 u14 u15 u16 u17 u18 u19 u20 u21 u22 u23 u24 u25 u26 u27 u28 u29 u30 u31 u32 u33 u34 u35 u36 u37 u38 u39 u40 u41 u42 u43 u44 u45 u46 u47 u48 u49 u50 u51 u52 u53 u54 : Value) (R : Value → World → Prop)
    (htb : w.heap[tb]? = some (.cells #[.slice none 0 0, .map (some mi), .int .i32 0, .bool false, .bool false] 84 (0, 0))) (hbp : w.heap[bp]? = some (.cells #[.bool c0, .bool c1, .bool c2, .bool c3] 25 (0, 0))) (hS : Sl w0 ae (bytes ends)) (hl : ends.length ≤ 1048576) (hB : B = w0.heap.size) (htB : B ≤ tb) (hF : ∀ k, B ≤ k → F k) (hb : Below B w0 w) (hR : ∀ w' cb db vt out, ClsV w' F cb tb db mi 0 0 (.slice none 0 0) (.slice none 0 0) vt NoD ends out [] [] (fun _ => none) → (∀ k, k < 4 → (out k).isSome = c4 c0 c1 c2 c3 k) → Below B w0 w' → R (.pointer (some ⟨cb, 0, none⟩)) w') :
    Code.wp Try.prog (tl Try.f24 2) (QN R) ⟨#[.slice ae ends.length ce, u1, u2, .pointer (some ⟨bp, 0, none⟩), u4, .pointer (some ⟨tb, 0, none⟩), u6, u7, u8, u9, u10, u11, u12, u13, u14, u15, u16, u17, u18, u19, u20, u21, u22, u23, u24, u25, u26, u27, u28, u29, u30, u31, u32, u33, u34, u35, u36, u37, u38, u39, u40, u41, u42, u43, u44, u45, u46, u47, u48, u49, u50, u51, u52, u53, u54], []⟩ w := by
  obtain ⟨i0, hi, hz0, hz1, hz2⟩ := info_parts Try.info86
  have hel : (bytes ends).length = ends.length := by simp [bytes]
  have HTB : Hid _ := htb
  have HBP : Hid _ := hbp
  have HB : Hid _ := hb
  have HR : Hid _ := hR
  have HF : Hid _ := hF
  have HS : Hid _ := hS
  clear htb hbp hb hR hF hS
  rw [tl24_2]
  refine wp_seq_k (fun K hK => ?_)
  conv => arg 2; whnf
  go_wp2_with fail
  go_loopw [6] (fun i wr => ∃ (k : Nat) (vt : Value) (xs : List Value), k ≤ ends.length ∧ i = .int .i64 k ∧ wr.heap[tb]? = some (.cells #[vt, .map (some mi), .int .i32 0, .bool false, .bool false] 84 (0, 0)) ∧ wr.ownsRow B 86 2 vt k xs ∧ (∀ i, i < k → xs[i * 2 + 1]? = some (.int .u8 (ends.getD i 0))) ∧ wr.heap[bp]? = some (.cells #[.bool c0, .bool c1, .bool c2, .bool c3] 25 (0, 0)) ∧ Below B w0 wr) (fun i _ => ends.length - (intOf i).toNat)
  case atStart => exact ⟨0, .slice none 0 0, [], Nat.zero_le _, rfl, HTB.out, World.ownsRow_nil _ _ _ _, fun i hi => by omega, HBP.out, HB.out⟩
  case round =>
    obtain ⟨k, vt, xs, hk, rfl, htb, hown, hx, hbp, hb⟩ := hrel
    clear HTB HBP HB
    have hbz := hb.size
    by_cases hlt : k < ends.length
    · obtain ⟨b, off, e0, hc⟩ := (Sl.below HS.out (hB ▸ hb)).at (show k < (bytes ends).length by omega)
      cases e0
      have hlt' : (k : Int) < (ends.length : Int) := by omega
      have hlt0 : (0 : Int) ≤ (k : Int) := by omega
      have c1 : wr.cell? ⟨b, off + k, none⟩ = some (.int .u8 (ends.getD k 0)) := by rw [hc k (by omega)]; simp [bytes, hlt]
      have k0 : wr.cell? ⟨tb, 0, none⟩ = some vt := cell_blk htb rfl
      obtain ⟨o, cp, rfl⟩ := row_shape hown
      have htl : tb < wr.heap.size := (Array.getElem?_eq_some_iff.1 htb).1
      have hb1 : Below wr.heap.size wr (wr.alloc (.cells #[.int .i64 k, .int .u8 (ends.getD k 0)] 86)).drew := ((Below.refl _ _).alloc (Nat.le_refl _) _).drew
      have hown1 := row_below hown hb1
      have htb1 := blk_kept (grown_of_below hb1) htb (by simp)
      have hbp1 := blk_kept (grown_of_below hb1) hbp (by simp)
      have hep := ends_push hown.1 hx
      have hnw := news_two (w := wr) k (ends.getD k 0)
      have hone := two_oneCell k (ends.getD k 0)
      have q1 : k + 1 ≤ maxLen := by unfold maxLen; omega
      have q2 : (k + 1) * 16 ≤ 140737488355328 := by omega
      have q3 : B ≤ (wr.alloc (.cells #[.int .i64 k, .int .u8 (ends.getD k 0)] 86)).drew.heap.size := Nat.le_trans (by omega) hb1.size
      have hblt : b < w0.heap.size := by
        obtain ⟨b', off', e', hc'⟩ := Sl.at HS.out (show k < (bytes ends).length by omega)
        cases e'
        have := hc' k (by omega)
        rw [List.getElem?_eq_getElem (by omega)] at this
        exact World.block_lt_of_cell? w0 _ this
      have n1 : b ≠ tb := by omega
      have H1 : Hid _ := hown1
      have H2 : Hid _ := htb1
      have H3 : Hid _ := hbp1
      have H4 : Hid _ := hep
      have H5 : Hid _ := hb
      have H6 : Hid _ := hb1
      have H7 : Hid _ := hnw
      have H8 : Hid _ := hone
      clear hown hx hb htb hbp hc hown1 htb1 hbp1 hep hb1 hnw hone
      generalize ends.getD k 0 = q at *
      have c1a : (wr.alloc (.cells #[.int .i64 k, .int .u8 q] 86)).drew.cell? ⟨b, off + k, none⟩ = some (.int .u8 q) := cell_later H6.out c1
      have k0a : (wr.alloc (.cells #[.int .i64 k, .int .u8 q] 86)).drew.cell? ⟨tb, 0, none⟩ = some (.slice o k cp) := cell_later H6.out k0
      go_wp2_with fail
      refine wp_shade2 (fun KK hKK => ?_)
      have HKK : Hid _ := hKK
      clear hKK
      go_region_law (refine step_append_lies _ (by rfl) _ _ _ (by rfl) B 86 i0 (.agg #[.int .i64 0, .int .u8 0]) 2 16 Try.underlying82 hi hz0 hz1 hz2 rfl Nat.zero_lt_two (.slice o k cp) k xs (by rfl) H1.out ⟨wr.heap.size, 0, none⟩ 1 1 [.int .i64 k, .int .u8 q] (by rfl) (by rfl) H7.out H8.out Nat.zero_lt_one q1 q2 q3 (wr.heap.size + 1) (by simp) ?_; intro g cap w2 hown2 hgrow hat hlt2; have htb2 := push_any H2.out H1.out hgrow (by decide); have k02 : w2.cell? ⟨tb, 0, none⟩ = some _ := cell_blk htb2 rfl; have f02 := frozen_of_row w2 tb 0 _ _ htb2)
      all_goals
        refine HKK.out _ _ ?_
        clear HKK KK
        have hs := grown_setCell' (w := w2) tb 0 (.slice (some ⟨g, 0, none⟩) (k + 1) cap)
        have htb3 : (w2.setCell ⟨tb, 0, none⟩ (.slice (some ⟨g, 0, none⟩) (k + 1) cap)).heap[tb]? = some (.cells #[.slice (some ⟨g, 0, none⟩) (k + 1) cap, .map (some mi), .int .i32 0, .bool false, .bool false] 84 (0, 0)) := blk_set (i := 0) _ htb2
        have hown3 := row_kept hown2 hs (fun g' hv => by
          obtain ⟨cur, hcur⟩ := row_tag hown2 g' hv
          simpa using ne_of_tag hcur htb2 (by decide))
        have hbp2 := push_any H3.out H1.out hgrow (by decide)
        have hbp3 := blk_kept hs hbp2 (by simpa using ne_of_tag hbp2 htb2 (by decide))
        have hbb : Below B w0 (w2.setCell ⟨tb, 0, none⟩ (.slice (some ⟨g, 0, none⟩) (k + 1) cap)) := ((H5.out.trans (H6.out.mono (by omega))).grown hgrow q3 (fun j hj => row_lt H1.out j hj)).setCell (by exact htB) _
        have G1 : Hid _ := htb3
        have G2 : Hid _ := hown3
        have G3 : Hid _ := hbp3
        have G4 : Hid _ := hbb
        clear hs htb3 hown3 hbp2 hbp3 hbb hown2 hgrow hat hlt2 htb2 k02 f02 H1 H2 H3 H5 H6 H7 H8 c1 k0 c1a k0a
        go_wp2_with fail
        go_roundw
        case rel => exact ⟨k + 1, _, _, by omega, by go_num, G1.out, G2.out, H4.out, G3.out, G4.out⟩
        case measure => simp [intOf]; omega
    · obtain rfl : k = ends.length := by omega
      have htx : ∃ xs, wr.ownsRow 0 86 2 vt ends.length xs ∧ ∀ i, i < ends.length → xs[i * 2 + 1]? = some (.int .u8 (ends.getD i 0)) := ⟨xs, row_base hown (Nat.zero_le _), hx⟩
      have G1 : Hid _ := htb
      have G2 : Hid _ := htx
      have G3 : Hid _ := hbp
      have G4 : Hid _ := hb
      clear htb hown hx hbp hb htx
      go_wp2_with fail
      exact nc3 _ _ _ _ _ _ _ _ _ _ _ _ _ _ _ _ _ _ _ _ _ _ _ _ _ _ _ _ _ _ _ _ _ _ _ _ _ _ _ _ _ _ _ _ _ _ _ _ _ _ _ _ _ _ _ _ _ _ _ _ _ _ _ _ _ G1.out G2.out G3.out (by omega) HF.out G4.out HR.out

set_option maxRecDepth 100000 in
set_option maxHeartbeats 1000000 in
/-- ZZnewClassifier. -/
theorem newCls_any (F : Nat → Prop) (ae : Option Addr) (ce : Nat) (ends : List Int) (c0 c1 c2 c3 : Bool) (w : World) (hS : Sl w ae (bytes ends)) (hl : ends.length ≤ 1048576) (hF : ∀ k, w.heap.size ≤ k → F k) :
    Calls Try.prog 24 #[.slice ae ends.length ce, .agg #[.bool c0, .bool c1, .bool c2, .bool c3]] w fun e w' => ∃ v, e = .returned v ∧ ∃ cb tb db mi vt out, v = .pointer (some ⟨cb, 0, none⟩) ∧ ClsV w' F cb tb db mi 0 0 (.slice none 0 0) (.slice none 0 0) vt NoD ends out [] [] (fun _ => none) ∧ (∀ k, k < 4 → (out k).isSome = c4 c0 c1 c2 c3 k) ∧ Below w.heap.size w w' := by
  have HS : Hid _ := hS
  have HF : Hid _ := hF
  clear hS hF
  go_enter Try.func24, Try.ntmps24
  change Code.wp Try.prog (tl Try.f24 0) (QN (fun v w' => ∃ cb tb db mi vt out, v = .pointer (some ⟨cb, 0, none⟩) ∧ ClsV w' F cb tb db mi 0 0 (.slice none 0 0) (.slice none 0 0) vt NoD ends out [] [] (fun _ => none) ∧ (∀ k, k < 4 → (out k).isSome = c4 c0 c1 c2 c3 k) ∧ Below w.heap.size w w')) _ _
  rw [tl24_0]
  refine wp_seq_k (fun K hK => ?_)
  conv => arg 2; whnf
  go_wp2_with fail
  rw [tl24_1]
  refine wp_seq_k (fun K hK => ?_)
  conv => arg 2; whnf
  go_wp2_with fail
  obtain ⟨w1, hw1⟩ : ∃ w1, w1 = w.alloc (.cells #[.bool c0, .bool c1, .bool c2, .bool c3] 25) := ⟨_, rfl⟩
  obtain ⟨w2, hw2⟩ : ∃ w2, w2 = w1.alloc (.map #[] 0) := ⟨_, rfl⟩
  obtain ⟨w3, hw3⟩ : ∃ w3, w3 = w2.alloc (.cells #[.slice none 0 0, .map (some (w.heap.size + 1)), .int .i32 0, .bool false, .bool false] 84) := ⟨_, rfl⟩
  have b1 : Below w.heap.size w w1 := by rw [hw1]; exact (Below.refl _ _).alloc (Nat.le_refl _) _
  have b2 : Below w1.heap.size w1 w2 := by rw [hw2]; exact (Below.refl _ _).alloc (Nat.le_refl _) _
  have b3 : Below w2.heap.size w2 w3 := by rw [hw3]; exact (Below.refl _ _).alloc (Nat.le_refl _) _
  have s1 : w1.heap.size = w.heap.size + 1 := by rw [hw1]; simp
  have s2 : w2.heap.size = w.heap.size + 1 + 1 := by rw [hw2]; simp [s1]
  have h1 : w1.heap[w.heap.size]? = some (.cells #[.bool c0, .bool c1, .bool c2, .bool c3] 25 (0, 0)) := by rw [hw1]; exact heap_alloc_new w _
  have h3 : w3.heap[w2.heap.size]? = some (.cells #[.slice none 0 0, .map (some (w.heap.size + 1)), .int .i32 0, .bool false, .bool false] 84 (0, 0)) := by rw [hw3]; exact heap_alloc_new w2 _
  have hbp : w3.heap[w.heap.size]? = some (.cells #[.bool c0, .bool c1, .bool c2, .bool c3] 25 (0, 0)) := ((b3.block _ (by omega)).trans (b2.block _ (by omega))).trans h1
  have hb : Below w.heap.size w w3 := b1.trans ((b2.mono (by omega)).trans (b3.mono (by omega)))
  rw [s2] at h3
  have e3 := hw3
  rw [hw2, hw1] at e3
  rw [← e3]
  exact nc2 _ _ _ _ _ _ _ _ _ _ _ _ _ _ _ _ _ _ _ _ _ _ _ _ _ _ _ _ _ _ _ _ _ _ _ _ _ _ _ _ _ _ _ _ _ _ _ _ _ _ _ _ _ _ _ _ _ _ _ _ _ _ _ _ _ h3 hbp HS.out hl rfl (by omega) HF.out hb (fun w' cb db vt o hV ho hbb => ⟨cb, _, db, _, vt, o, rfl, hV, ho, hbb⟩)

end Go.Proofs.Qxb6625890a
