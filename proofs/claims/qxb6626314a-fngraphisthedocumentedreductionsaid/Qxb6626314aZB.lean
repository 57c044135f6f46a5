/-
  Seat b6626314a: zzTxsExact.
-/
import Derived.Test.Qxb6626314aZA
namespace Go.Proofs.Qxb6626314a
open Go.RowKit Go.Maps Go.Sort
set_option linter.unusedVariables false
set_option linter.unusedSimpArgs false
theorem fnd_in {s : List Int} {x : Int} (h : x ∈ s) : ∃ k : Nat, fnd s x = k ∧ k < s.length ∧ s.getD k 0 = x := by
  refine ⟨s.idxOf x, by simp [fnd, h], List.idxOf_lt_length_of_mem h, ?_⟩
  rw [List.getD_eq_getElem?_getD, List.getElem?_eq_getElem (List.idxOf_lt_length_of_mem h)]
  simp
theorem fnd_out {s : List Int} {x : Int} (h : x ∉ s) : fnd s x = -1 := by simp [fnd, h]
theorem int64s_getD (l : List Int) (j : Nat) (u : Value) (h : (int64s l)[j]? = some u) : ∃ x, u = .int .i64 x := by
  unfold int64s at h
  rw [List.getElem?_map] at h
  obtain ⟨x, _, e⟩ := Option.map_eq_some_iff.1 h
  exact ⟨x, e.symm⟩
theorem append_none (w : World) (base ty : Nat) (v : Value) (n c : Nat) (xs : List Value) (hown : w.ownsRow base 2 1 v n xs) : (Builtin.append_ #[23, 23] ty #[v, .slice none 0 c]).run Try.prog w = .ok v w := by
  obtain ⟨i0, hi0, hz0, hz1, hz2⟩ := info_parts Try.info2
  rcases hown.2 with ⟨rfl, rfl⟩ | ⟨g, cap, cur, rfl, _, _, hnc, _⟩
  · simp [Builtin.append_, run_underlying Try.underlying23, sizeOf, typeInfo, hi0, Builtin.lenOf, Builtin.firstCells]
  · simp [Builtin.append_, run_underlying Try.underlying23, sizeOf, typeInfo, hi0, Builtin.lenOf, Builtin.firstCells, hnc, storeCells]
/-- What zzTxsExact is asked of. -/
structure TX (G : List Int) (A : List Ac) (T X ab : List Int) : Prop where
  g : GPr A T X G
  s : ab.Pairwise (· ≤ ·)
  m : SameM ab X
set_option maxRecDepth 100000 in
set_option maxHeartbeats 4000000 in
theorem txs_any (og oa ot ob : Option Addr) (cg ca ct cb : Nat) (G : List Int) (A : List Ac) (T X ab : List Int) (w : World) (hG : Sl w og (int64s G)) (hA : Sl w oa (flatA A)) (hT : Sl w ot (int64s T)) (hb : Sl w ob (int64s ab)) (h : TX G A T X ab)
    (lG : G.length ≤ 12288) (lA : A.length ≤ 4096) (lT : T.length ≤ 4096) (lb : ab.length ≤ 4096) :
    Calls Try.prog 11 #[.slice og G.length cg, .slice oa A.length ca, .slice ot T.length ct, .slice ob ab.length cb] w fun e w' => e = .returned (.bool true) ∧ Below w.heap.size w w' := by
  have HG : Hid (Sl w og (int64s G)) := hG
  have HA : Hid (Sl w oa (flatA A)) := hA
  have HT : Hid (Sl w ot (int64s T)) := hT
  have HBb : Hid (Sl w ob (int64s ab)) := hb
  have H : Hid (TX G A T X ab) := h
  clear hG hA hT hb h
  obtain ⟨i0, hi0, hz0, hz1, hz2⟩ := info_parts Try.info2
  go_enter Try.func11, Try.ntmps11
  go_wp2_with fail
  go_loopw [9] (fun vi wr => ∃ i : Nat, vi = .int .i64 ((i : Int) + 1) ∧ i ≤ G.length ∧ Hid (Below w.heap.size w wr)) (fun vi _ => G.length + 1 - (intOf vi).toNat)
  case atStart => exact ⟨0, by simp, Nat.zero_le _, Below.refl _ _⟩
  case round =>
    obtain ⟨i, rfl, hi, HB⟩ := hrel
    by_cases hlt : i + 1 < G.length
    · have hlt' : (i : Int) + 1 < (G.length : Int) := by omega
      have hlt2 : (i : Int) < (G.length : Int) := by omega
      obtain ⟨b, off, hog, c0⟩ := i64_cell (HG.out.below HB.out) (show i < G.length by omega)
      obtain ⟨b', off', hog', c1⟩ := i64_cell (HG.out.below HB.out) hlt
      rw [hog] at hog'
      simp at hog'
      obtain ⟨rfl, rfl⟩ := hog'
      have hle : G.getD i 0 < G.getD (i + 1) 0 := by
        have := List.pairwise_iff_getElem.1 H.out.g.1 i (i + 1) (by omega) hlt (by omega)
        simpa [List.getD_eq_getElem?_getD, hlt, show i < G.length by omega] using this
      have d1 : decide (G.getD (i + 1) 0 ≤ G.getD i 0) = false := decide_eq_false (by omega)
      generalize G.getD i 0 = x0 at c0 d1
      generalize G.getD (i + 1) 0 = x1 at c1 d1
      have e1 : (i : Int) + 1 - 1 = (i : Int) := by omega
      clear hle
      subst hog
      go_upto_region 4 with fail
      go_quiet (fail)
      have HB2 : Hid (Below w.heap.size w (wr.drewN nq)) := below_drewN HB.out nq
      clear HB
      go_wp2_with fail
      go_roundw
      case rel => exact ⟨i + 1, by go_num, by omega, HB2⟩
      case measure => simp [intOf]; omega
    · have hlt' : ¬ ((i : Int) + 1 < (G.length : Int)) := by omega
      have hsz : w.heap.size ≤ wr.heap.size := HB.out.size
      go_upto_region 7 with (at_make; go_must (refine wpList_make_own _ rfl _ _ 23 rfl w.heap.size 2 i0 (.int .i64 0) 1 Try.underlying23 hi0 hz0 hz1 .i64 .i64 _ (T.length + A.length) rfl rfl (by simp) (by rw [hz2]; omega) (by unfold maxLen; omega) hsz ?_; intro w1 hown1 hgrow1))
      have H1 : Hid (w1.ownsRow w.heap.size 2 1 (.slice (some ⟨wr.heap.size, 0, none⟩) 0 (T.length + A.length)) 0 [] ∧ Below w.heap.size w w1) := ⟨hown1, HB.out.trans ((below_of_grown hgrow1).mono hsz)⟩
      clear hown1 hgrow1 HB
      generalize wr.heap.size = g1 at H1 ⊢
      go_cut [10] (fun s10 wc => ∃ o cp, s10 = .slice o T.length cp ∧ Hid (wc.ownsRow w.heap.size 2 1 (.slice o T.length cp) T.length (int64s T) ∧ Below w.heap.size w wc))
      case first =>
        cases hot : ot with
        | none =>
          have hT0 : T = [] := by
            by_cases e : T = []
            · exact e
            · have := HT.out (by simpa [int64s] using e)
              rw [hot] at this
              obtain ⟨_, _, h, _⟩ := this
              cases h
          have happ := fun ty => append_none w1 w.heap.size ty _ 0 ct [] H1.out.1
          subst hT0
          subst hot
          simp only [List.length_nil] at happ ⊢
          go_wp2_with fail
          go_meet
          case rel => exact ⟨some ⟨g1, 0, none⟩, 0 + A.length, by simp, by simpa [int64s] using H1⟩
        | some ad =>
          have q1 : 0 + T.length ≤ maxLen := by unfold maxLen; omega
          have q2 : (0 + T.length) * 8 ≤ 140737488355328 := by omega
          have HSr : Hid (∀ j u, (int64s T)[j]? = some u → w1.cell? (ad.add j) = some u) := fun j u hj => by
            have hjl : j < (int64s T).length := (List.getElem?_eq_some_iff.1 hj).1
            obtain ⟨b, off, e, hc⟩ := (HT.out.below H1.out.2).at hjl
            rw [hot] at e
            cases e
            rw [add_eq, hc j hjl, hj]
          have hl1 := int64s_len T
          have q3 : w.heap.size ≤ w1.heap.size := H1.out.2.size
          subst hot
          go_wp2_with (at_builtin; go_must (refine wpList_append_own_at _ rfl _ _ 23 rfl w.heap.size 2 i0 (.int .i64 0) 1 8 Try.underlying23 hi0 hz0 hz1 hz2 rfl Nat.zero_lt_one (.slice (some ⟨g1, 0, none⟩) 0 (T.length + A.length)) 0 [] rfl H1.out.1 ad T.length ct (int64s T) rfl (by rw [hl1]; omega) HSr.out (int64s_oneCell T) q1 q2 q3 ?_; intro v' w5 hown5 hgrow5 hnil5 hloc5; obtain ⟨o5, cp5, hv5⟩ := row_shape hown5; subst hv5))
          have HZ : Hid (w5.ownsRow w.heap.size 2 1 (.slice o5 T.length cp5) T.length (int64s T) ∧ Below w.heap.size w w5) := by
            refine ⟨by simpa using hown5, H1.out.2.trans ⟨hgrow5.os, hgrow5.tape, hgrow5.output, hgrow5.size, fun k hk => hgrow5.block k (by omega) (fun e => ?_)⟩⟩
            have := (row_tag H1.out.1 k e.symm).1
            omega
          clear hown5 hgrow5 hnil5 hloc5
          rw [Nat.zero_add] at *
          go_meet
          case rel => exact ⟨o5, cp5, rfl, HZ⟩
      case rest =>
        obtain ⟨o, cp, rfl, HR⟩ := hcut
        have HR0 : Hid (wc.ownsRow w.heap.size 2 1 (.slice o (T.length + 0) cp) (T.length + 0) (int64s (T ++ (A.take 0).map Ac.tx)) ∧ Below w.heap.size w wc) := by show _ ∧ _; simpa using HR.out
        clear HR
        go_wp2_with fail
        go_loopw [10, 44] (fun v10 vq wr => ∃ (q : Nat) (o : Option Addr) (cp : Nat), vq = .int .i64 q ∧ v10 = .slice o (T.length + q) cp ∧ q ≤ A.length ∧ Hid (wr.ownsRow w.heap.size 2 1 (.slice o (T.length + q) cp) (T.length + q) (int64s (T ++ (A.take q).map Ac.tx)) ∧ Below w.heap.size w wr)) (fun _ vq _ => A.length - (intOf vq).toNat)
        case atStart => exact ⟨0, o, cp, rfl, rfl, Nat.zero_le _, HR0⟩
        case round =>
          clear HR0
          obtain ⟨q, o2, cp2, rfl, rfl, hq, HO⟩ := hrel
          by_cases hql : q < A.length
          · have hql' : (q : Int) < (A.length : Int) := by omega
            obtain ⟨b, off, hoa, c0, c1, c2⟩ := acc_cell (HA.out.below HO.out.2) hql
            have htk : int64s (T ++ (A.take (q + 1)).map Ac.tx) = int64s (T ++ (A.take q).map Ac.tx) ++ [.int .i64 (A.getD q a0).tx] := by
              rw [← take_A A q hql]; simp [int64s]
            generalize A.getD q a0 = gd at c0 c1 c2 htk
            obtain ⟨w2, hw2⟩ : ∃ w2, w2 = wr.alloc (.cells #[.int .i64 gd.tx, .int .i32 gd.item, .bool gd.wr] 37) := ⟨_, rfl⟩
            have hb2 : Below wr.heap.size wr w2 := by rw [hw2]; exact (Below.refl _ _).alloc (Nat.le_refl _) _
            have hblk2 : w2.heap[wr.heap.size]? = some (.cells #[.int .i64 gd.tx, .int .i32 gd.item, .bool gd.wr] 37 (0, 0)) := by rw [hw2]; exact heap_alloc_new wr _
            have k0 : w2.cell? ⟨wr.heap.size, 0, none⟩ = some (.int .i64 gd.tx) := cell_blk hblk2 rfl
            have hb3 : Below wr.heap.size wr (w2.alloc (.cells #[.int .i64 gd.tx] 2)) := hb2.trans (((Below.refl _ _).alloc (Nat.le_refl _) _).mono hb2.size)
            have HO3 : Hid ((w2.alloc (.cells #[.int .i64 gd.tx] 2)).ownsRow w.heap.size 2 1 (.slice o2 (T.length + q) cp2) (T.length + q) (int64s (T ++ (A.take q).map Ac.tx)) ∧ Below w.heap.size w (w2.alloc (.cells #[.int .i64 gd.tx] 2))) := ⟨row_below HO.out.1 hb3, HO.out.2.trans (hb3.mono HO.out.2.size)⟩
            have HW2 : Hid (w2 = wr.alloc (.cells #[.int .i64 gd.tx, .int .i32 gd.item, .bool gd.wr] 37)) := hw2
            have HTK : Hid _ := htk
            have q1 : T.length + q + 1 ≤ maxLen := by unfold maxLen; omega
            have q2 : (T.length + q + 1) * 8 ≤ 140737488355328 := by omega
            have q3 : w.heap.size ≤ (w2.alloc (.cells #[.int .i64 gd.tx] 2)).heap.size := HO3.out.2.size
            have HNW : Hid (∀ j u, [Value.int .i64 gd.tx][j]? = some u → (w2.alloc (.cells #[.int .i64 gd.tx] 2)).cell? ((⟨w2.heap.size, 0, none⟩ : Addr).add j) = some u) := World.news_of_block (w := w2.alloc (.cells #[.int .i64 gd.tx] 2)) (cs := #[.int .i64 gd.tx]) (t := 2) (fr := (0, 0)) (heap_alloc_new w2 _)
            subst hoa
            clear hw2 hb2 hb3 hblk2 HO htk
            go_upto_region 11 with fail
            rw [← HW2.out]
            clear HW2 c0 c1 c2
            go_wp2_with (at_builtin; go_must (refine wpList_append_own_at _ rfl _ _ 23 rfl w.heap.size 2 i0 (.int .i64 0) 1 8 Try.underlying23 hi0 hz0 hz1 hz2 rfl Nat.zero_lt_one (.slice o2 (T.length + q) cp2) (T.length + q) (int64s (T ++ (A.take q).map Ac.tx)) rfl HO3.out.1 ⟨w2.heap.size, 0, none⟩ 1 1 [.int .i64 gd.tx] rfl rfl HNW.out (one_64 gd.tx) q1 q2 q3 ?_; intro v' w5 hown5 hgrow5 hnil5 hloc5; obtain ⟨o5, cp5, hv5⟩ := row_shape hown5; subst hv5))
            have HZ : Hid (w5.ownsRow w.heap.size 2 1 (.slice o5 (T.length + (q + 1)) cp5) (T.length + (q + 1)) (int64s (T ++ (A.take (q + 1)).map Ac.tx)) ∧ Below w.heap.size w w5) := by
              rw [HTK.out]
              refine ⟨hown5, HO3.out.2.trans ⟨hgrow5.os, hgrow5.tape, hgrow5.output, hgrow5.size, fun k hk => hgrow5.block k (by omega) (fun e => ?_)⟩⟩
              have := (row_tag HO3.out.1 k e.symm).1
              omega
            clear hown5 hgrow5 hnil5 hloc5 HO3 HNW q1 q2 q3
            go_wp2_with fail
            go_roundw
            case rel => exact ⟨q + 1, o5, cp5, by go_num, rfl, by omega, HZ⟩
            case measure => simp [intOf]; omega
          · have hqe : q = A.length := by omega
            have HO2 : Hid (wr.ownsRow w.heap.size 2 1 (.slice o2 (T.length + A.length) cp2) (T.length + A.length) (int64s (T ++ A.map Ac.tx)) ∧ Below w.heap.size w wr) := by
              have := HO.out
              rw [hqe, List.take_length] at this
              exact this
            clear HO
            subst hqe
            have HC : Hid _ := sorted_any o2 cp2 (T.length + A.length) (T ++ A.map Ac.tx) wr (sl_of_row HO2.out.1) (by simp) (by omega)
            go_wp2_with fail
            refine Calls.mono HC.out ?_
            rintro e w3 ⟨g3, ys, rfl, h1, h2, h3, h4, h5, h6⟩
            have hyl : ys.length ≤ 8192 := by rw [h3]; simp; omega
            have HY : Hid (B64 w3 g3 ys ∧ ys.Pairwise (· ≤ ·) ∧ SameM ys (T ++ A.map Ac.tx) ∧ Below w.heap.size w w3) := ⟨h1, h4, h5, HO2.out.2.trans (h6.mono HO2.out.2.size)⟩
            clear h1 h2 h3 h4 h5 h6 HC HO2
            go_wp2_with fail
            go_loopw [58] (fun vq wr => ∃ q : Nat, vq = .int .i64 q ∧ q ≤ ys.length ∧ wr = w3) (fun vq _ => ys.length - (intOf vq).toNat)
            case atStart => exact ⟨0, rfl, Nat.zero_le _, rfl⟩
            case round =>
              obtain ⟨q, rfl, hq, rfl⟩ := hrel
              by_cases hql : q < ys.length
              · have hql' : (q : Int) < (ys.length : Int) := by omega
                have cq := HY.out.1.cell hql
                have hmem := (HY.out.2.2.1 (ys.getD q 0)).1 (getD_mem 0 hql)
                generalize ys.getD q 0 = t at cq hmem
                have HF1 : Hid _ := find_any ob cb ab t wr (HBb.out.below HY.out.2.2.2) H.out.s (by omega)
                have HF2 : Hid _ := find_any og cg G t wr (HG.out.below HY.out.2.2.2) (H.out.g.1.imp (fun h => by omega)) (by omega)
                by_cases hX : t ∈ X
                · obtain ⟨k, hk, _⟩ := fnd_in ((H.out.m t).2 hX)
                  rw [hk] at HF1
                  go_wp2_with fail
                  refine Calls.mono HF1.out ?_
                  rintro e w4 ⟨rfl, rfl⟩
                  go_wp2_with fail
                  go_roundw
                  case rel => exact ⟨q + 1, by go_num, by omega, trivial⟩
                  case measure => simp [intOf]; omega
                · have hab : fnd ab t = -1 := fnd_out (fun h => hX ((H.out.m t).1 h))
                  obtain ⟨k, hk, _⟩ := fnd_in ((H.out.g.2 t).2 ⟨by simpa using hmem, hX⟩)
                  rw [hab] at HF1
                  rw [hk] at HF2
                  go_wp2_with fail
                  refine Calls.mono HF1.out ?_
                  rintro e w4 ⟨rfl, rfl⟩
                  go_wp2_with fail
                  refine Calls.mono HF2.out ?_
                  rintro e w4 ⟨rfl, rfl⟩
                  go_wp2_with fail
                  go_roundw
                  case rel => exact ⟨q + 1, by go_num, by omega, trivial⟩
                  case measure => simp [intOf]; omega
              · go_wp2_with fail
                go_loopw [75] (fun vq wx => ∃ q : Nat, vq = .int .i64 q ∧ q ≤ G.length ∧ wx = wr) (fun vq _ => G.length - (intOf vq).toNat)
                case atStart => exact ⟨0, rfl, Nat.zero_le _, rfl⟩
                case round =>
                  obtain ⟨q4, rfl, hq4, hwx⟩ := hrel
                  subst hwx
                  by_cases hql4 : q4 < G.length
                  · have hql4' : (q4 : Int) < (G.length : Int) := by omega
                    obtain ⟨b4, off4, hog4, cq⟩ := i64_cell (HG.out.below HY.out.2.2.2) hql4
                    have hmem := (H.out.g.2 (G.getD q4 0)).1 (getD_mem 0 hql4)
                    generalize G.getD q4 0 = t at cq hmem
                    have HF1 : Hid _ := find_any ob cb ab t wr (HBb.out.below HY.out.2.2.2) H.out.s (by omega)
                    have HF2 : Hid _ := find_any (some ⟨g3, 0, none⟩) ys.length ys t wr HY.out.1.sl HY.out.2.1 (by omega)
                    have hab : fnd ab t = -1 := fnd_out (fun h => hmem.2 ((H.out.m t).1 h))
                    obtain ⟨k, hk, _⟩ := fnd_in ((HY.out.2.2.1 t).2 (by simpa using hmem.1))
                    rw [hab] at HF1
                    rw [hk] at HF2
                    clear hab hk hmem
                    subst hog4
                    go_wp2_with fail
                    refine Calls.mono HF1.out ?_
                    rintro e w4 ⟨rfl, rfl⟩
                    go_wp2_with fail
                    refine Calls.mono HF2.out ?_
                    rintro e w4 ⟨rfl, rfl⟩
                    go_wp2_with fail
                    go_roundw
                    case rel => exact ⟨q4 + 1, by go_num, by omega, trivial⟩
                    case measure => simp [intOf]; omega
                  · go_wp2_with fail
                    go_ret
                    exact ⟨rfl, HY.out.2.2.2⟩
end Go.Proofs.Qxb6626314a
