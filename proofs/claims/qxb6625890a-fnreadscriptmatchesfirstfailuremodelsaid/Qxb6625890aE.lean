/-
  Seat b6625890a: ZZaddRead, grow, ZZsetDirty, fail.
-/
import Derived.Test.Qxb6625890aD
namespace Go.Proofs.Qxb6625890a
open Go.RowKit Go.Maps
set_option linter.unusedVariables false

section
variable {w w' : World} {F : Nat → Prop} {cb tb db mi N lim lim' : Nat} {vi vr vt vi' vr' : Value} {f : Int → Option Value} {ends : List Int} {out out' : Nat → Option OpC} {items reads items' reads' : List (Int × Int)} {dm : Int → Option (List Int)}

/-- ZZaddRead. -/
theorem addRead_any (h : ClsV w F cb tb db mi N lim vi vr vt f ends out items reads dm) (hF : ∀ k, w.heap.size ≤ k → F k) (hl : lim ≤ 8000000) (a b : Int) :
    Calls Try.prog 26 #[.pointer (some ⟨cb, 0, none⟩), .int .i32 a, .int .i32 b] w fun e w' => e = .returned (.tuple #[]) ∧ (∃ v', ClsV w' F cb tb db mi N (lim + 1) vi v' vt f ends out items (reads ++ [(a, b)]) dm) ∧ KeepF F w w' := by
  obtain ⟨i0, hi, hz0, hz1, hz2⟩ := info_parts Try.info78
  have hc := h.c6
  have hli := h.lr
  obtain ⟨o, cp, hv⟩ := row_shape h.rds
  subst hv
  have hlt : cb < w.heap.size := (Array.getElem?_eq_some_iff.1 h.blk).1
  have hb1 : Below w.heap.size w (w.alloc (.cells #[.int .i32 a, .int .i32 b] 78)) := (Below.refl _ _).alloc (Nat.le_refl _) _
  have h1 := h.grown hb1
  have q1 : reads.length + 1 ≤ maxLen := by unfold maxLen; omega
  have q2 : (reads.length + 1) * 8 ≤ 140737488355328 := by omega
  have HC : Hid _ := h
  have H1 : Hid _ := h1
  clear h h1
  go_enter Try.func26, Try.ntmps26
  go_wp2_with (at_builtin; go_must (refine wpList_append_own_at _ rfl _ _ 72 rfl 0 78 i0 (.agg #[.int .i32 0, .int .i32 0]) 2 8 Try.underlying72 hi hz0 hz1 hz2 rfl Nat.zero_lt_two (.slice o reads.length cp) reads.length (flat reads) rfl H1.out.rds ⟨w.heap.size, 0, none⟩ 1 1 [.int .i32 a, .int .i32 b] rfl rfl (cell_two_new _ _ _ _) (pair_oneCell a b) q1 q2 (Nat.zero_le _) ?_; intro v' w2 hown' hgrow hnil hloc; have hcb := push_cb H1.out.blk H1.out.rds hgrow ne75_78; have k5 : w2.cell? ⟨cb, 6, none⟩ = some _ := cell_blk hcb rfl; have f5 := frozen_of_row w2 cb 6 _ _ hcb; obtain ⟨o', cp', hv'⟩ := row_shape hown'; subst hv'))
  go_end0
  have R := HC.out.pushRds (p := (a, b)) hb1 hgrow hown' hloc hF
  exact ⟨rfl, ⟨_, R.1⟩, R.2⟩

def growL (items : List (Int × Int)) (item : Nat) : List (Int × Int) := if item = items.length then items ++ [(-1, -1)] else items

/-- (classifier).grow. -/
theorem grow_any (h : ClsV w F cb tb db mi N lim vi vr vt f ends out items reads dm) (hF : ∀ k, w.heap.size ≤ k → F k) (hl : lim ≤ 8000000) (item : Nat) (hit : item ≤ items.length) :
    Calls Try.prog 29 #[.pointer (some ⟨cb, 0, none⟩), .int .i32 item] w fun e w' => e = .returned (.tuple #[]) ∧ (∃ v', ClsV w' F cb tb db mi N (lim + 1) v' vr vt f ends out (growL items item) reads dm) ∧ KeepF F w w' := by
  obtain ⟨i0, hi, hz0, hz1, hz2⟩ := info_parts Try.info80
  have hc := h.c5
  have hli := h.li
  obtain ⟨o, cp, hv⟩ := row_shape h.its
  subst hv
  have hlt : cb < w.heap.size := (Array.getElem?_eq_some_iff.1 h.blk).1
  have hb1 : Below w.heap.size w (w.alloc (.cells #[.int .i32 (-1), .int .i32 (-1)] 80)) := (Below.refl _ _).alloc (Nat.le_refl _) _
  have h1 := h.grown hb1
  have q1 : items.length + 1 ≤ maxLen := by unfold maxLen; omega
  have q2 : (items.length + 1) * 8 ≤ 140737488355328 := by omega
  have HC : Hid _ := h
  have H1 : Hid _ := h1
  by_cases he : item = items.length
  · have hG : growL items item = items ++ [(-1, -1)] := by simp [growL, he]
    have HG : Hid _ := hG
    have hbe : ((item : Int) == (items.length : Int)) = true := by simp; omega
    clear h h1 hG
    go_enter Try.func29, Try.ntmps29
    go_wp2_with (at_builtin; go_must (refine wpList_append_own_at _ rfl _ _ 71 rfl 0 80 i0 (.agg #[.int .i32 0, .int .i32 0]) 2 8 Try.underlying71 hi hz0 hz1 hz2 rfl Nat.zero_lt_two (.slice o items.length cp) items.length (flat items) rfl H1.out.its ⟨w.heap.size, 0, none⟩ 1 1 [.int .i32 (-1), .int .i32 (-1)] rfl rfl (cell_two_new _ _ _ _) (pair_oneCell (-1) (-1)) q1 q2 (Nat.zero_le _) ?_; intro v' w2 hown' hgrow hnil hloc; have hcb := push_cb H1.out.blk H1.out.its hgrow ne75_80; have k5 : w2.cell? ⟨cb, 5, none⟩ = some _ := cell_blk hcb rfl; have f5 := frozen_of_row w2 cb 5 _ _ hcb; obtain ⟨o', cp', hv'⟩ := row_shape hown'; subst hv'))
    go_end0
    have R := HC.out.pushIts (p := (-1, -1)) hb1 hgrow hown' hloc hF
    rw [HG.out]
    exact ⟨rfl, ⟨_, R.1⟩, R.2⟩
  · have hG : growL items item = items := by simp [growL, he]
    have HG : Hid _ := hG
    have hbe : ((item : Int) == (items.length : Int)) = false := by simp; omega
    clear h h1 hG he
    go_enter Try.func29, Try.ntmps29
    go_wp2_with fail
    go_end0
    rw [HG.out]
    exact ⟨rfl, ⟨_, HC.out.wide (Nat.le_succ _)⟩, KeepF.refl _ _⟩

/-- A group is stored into the map. -/
theorem ClsV.putD {w2 : World} {k : Int} {v : Value} {zs : List Int} (h : ClsV w F cb tb db mi N lim vi vr vt f ends out items reads dm) (hg : w.grownBy w2 (some db)) (hm : MapIs w2 db (N + 1) (putAt f k v)) (hv : w.ownsRow 0 21 1 v zs.length (ints zs)) (hz : zs.length ≤ lim + 1)
    (hd : ∀ k' v', k' ≠ k → f k' = some v' → v'.ownBlock = none ∨ v'.ownBlock ≠ v.ownBlock) (hFv : ∀ g, v.ownBlock = some g → F g) :
    ClsV w2 F cb tb db mi (N + 1) (lim + 1) vi vr vt (putAt f k v) ends out items reads (fun x => if x = k then some zs else dm x) ∧ KeepF F w w2 := by
  obtain ⟨xs, ht, hx⟩ := h.txn
  obtain ⟨es, cl, hmm⟩ := h.map.isMap
  have tg : ∀ {v : Value} {e : TypeId} {size n : Nat} {ys : List Value}, w.ownsRow 0 e size v n ys → w2.ownsRow 0 e size v n ys := by
    intro v e size n ys hr
    refine row_kept hr hg (fun g hv => ?_)
    obtain ⟨cur, hc⟩ := row_tag hr g hv
    simpa using ne_of_map hc hmm
  refine ⟨⟨blk_kept hg h.blk (by simpa using ne_of_map h.blk hmm), blk_kept hg h.tbl (by simpa using ne_of_map h.tbl hmm), ⟨xs, tg ht, hx⟩, tg h.its, tg h.rds, hm, ?_, ?_, ?_, ?_, h.fcb, h.fdb, h.fvi, h.fvr, ?_, Nat.le_succ_of_le h.li, Nat.le_succ_of_le h.lr, Nat.succ_le_succ h.ln⟩, KeepF.of_grown hg (fun g hx => by cases hx; exact h.fdb)⟩
  · intro x u hu
    by_cases e : x = k
    · subst e
      simp [putAt] at hu
      subst hu
      exact ⟨zs, by simp, tg hv, hz⟩
    · simp [putAt, e] at hu
      obtain ⟨ys, h1, h2, h3⟩ := h.grp x u hu
      exact ⟨ys, by simp [e, h1], tg h2, Nat.le_succ_of_le h3⟩
  · intro x hu
    by_cases e : x = k
    · subst e; simp [putAt] at hu
    · simp [putAt, e] at hu
      simp [e, h.non x hu]
  · intro k1 k2 v1 v2 hne h1 h2
    by_cases e1 : k1 = k
    · subst e1
      simp [putAt] at h1
      subst h1
      simp [putAt, hne.symm] at h2
      rcases hd k2 v2 hne.symm h2 with hh | hh
      · cases hb : v.ownBlock with
        | none => exact Or.inl rfl
        | some g => exact Or.inr (by rw [hh]; simp)
      · exact Or.inr hh.symm
    · simp [putAt, e1] at h1
      by_cases e2 : k2 = k
      · subst e2
        simp [putAt] at h2
        subst h2
        exact hd k1 v1 e1 h1
      · simp [putAt, e2] at h2
        exact h.dis k1 k2 v1 v2 hne h1 h2
  · intro x b cs hk
    exact blk_kept hg (h.ops x b cs hk) (by simpa using ne_of_map (h.ops x b cs hk) hmm)
  · intro x u g hu hb
    by_cases e : x = k
    · subst e
      simp [putAt] at hu
      subst hu
      exact hFv g hb
    · simp [putAt, e] at hu
      exact h.fgr x u g hu hb

/-- ZZsetDirty. -/
theorem setDirty_any (h : ClsV w F cb tb db mi N lim vi vr vt f ends out items reads dm) (hl : lim ≤ 8000000) (k : Int) (hk : (Lit.int .i32 k).wf = true) (v : Value) (zs : List Int) (hv : w.ownsRow 0 21 1 v zs.length (ints zs)) (hz : zs.length ≤ lim + 1)
    (hd : ∀ k' v', k' ≠ k → f k' = some v' → v'.ownBlock = none ∨ v'.ownBlock ≠ v.ownBlock) (hFv : ∀ g, v.ownBlock = some g → F g) :
    Calls Try.prog 27 #[.pointer (some ⟨cb, 0, none⟩), .int .i32 k, v] w fun e w' => e = .returned (.tuple #[]) ∧ ClsV w' F cb tb db mi (N + 1) (lim + 1) vi vr vt (putAt f k v) ends out items reads (fun x => if x = k then some zs else dm x) ∧ KeepF F w w' := by
  have hc := h.c7
  have hn := h.ln
  obtain ⟨w2, hrun, hm, hg⟩ := h.map.store hk (by unfold maxLen; omega) v
  have R := h.putD hg hm hv hz hd hFv
  have HR : Hid _ := R
  clear hm hg R h hv hd hFv
  go_enter Try.func27, Try.ntmps27
  go_wp2_with fail
  go_end0
  exact ⟨rfl, HR.out⟩

/-- What 'fail' makes of the four pointers, its rounds from 'c' up to 'k' done. -/
def failTo (out : Nat → Option OpC) (c k : Nat) (x : OpC) : Nat → Option OpC := fun j => if c ≤ j ∧ j < k ∧ out j = none then some x else out j
theorem failTo_start (out : Nat → Option OpC) (c : Nat) (x : OpC) : failTo out c c x = out := by
  funext j; unfold failTo; rw [if_neg (by omega)]
theorem failTo_hit (out : Nat → Option OpC) (c k : Nat) (x : OpC) (hc : c ≤ k) (hk : out k = none) : setOut (failTo out c k x) k (some x) = failTo out c (k + 1) x := by
  funext j
  unfold setOut failTo
  by_cases e : j = k
  · subst e; rw [if_pos rfl, if_pos ⟨hc, by omega, hk⟩]
  · rw [if_neg e]
    by_cases h : c ≤ j ∧ j < k ∧ out j = none
    · rw [if_pos h, if_pos ⟨h.1, by omega, h.2.2⟩]
    · rw [if_neg h, if_neg (fun h' => h ⟨h'.1, by omega, h'.2.2⟩)]
theorem failTo_miss (out : Nat → Option OpC) (c k : Nat) (x : OpC) (hk : out k ≠ none) : failTo out c k x = failTo out c (k + 1) x := by
  funext j
  unfold failTo
  by_cases e : j = k
  · subst e; rw [if_neg (by omega), if_neg (by intro h; exact hk h.2.2)]
  · by_cases h : c ≤ j ∧ j < k ∧ out j = none
    · rw [if_pos h, if_pos ⟨h.1, by omega, h.2.2⟩]
    · rw [if_neg h, if_neg (fun h' => h ⟨h'.1, by omega, h'.2.2⟩)]
theorem failTo_at (out : Nat → Option OpC) (c k : Nat) (x : OpC) : failTo out c k x k = out k := by unfold failTo; rw [if_neg (by omega)]
theorem optr_none : optr none = .pointer none := rfl
theorem optr_some (x : OpC) : optr (some x) = .pointer (some ⟨x.1, 0, none⟩) := rfl

/-- The value of a history.Op: its five cells. -/
abbrev opv (kd tx : Int) (it : ByteArray) (so : Int) (hs : Bool) : Value := .agg #[.int .u8 kd, .int .i64 tx, .string it, .int .i64 so, .bool hs]
def opc (kd tx : Int) (it : ByteArray) (so : Int) (hs : Bool) : List Value := [.int .u8 kd, .int .i64 tx, .string it, .int .i64 so, .bool hs]

def FailRel (out : Nat → Option OpC) (c : Nat) (x : List Value) (out' : Nat → Option OpC) : Prop := (out c ≠ none ∧ out' = out) ∨ (out c = none ∧ ∃ b, out' = failTo out c 4 (b, x))

set_option maxHeartbeats 1000000 in
/-- (classifier).fail. -/
theorem fail_any (h : ClsV w F cb tb db mi N lim vi vr vt f ends out items reads dm) (hF : ∀ k, w.heap.size ≤ k → F k) (c : Nat) (hc4 : c < 4) (kd tx : Int) (it : ByteArray) (so : Int) (hs : Bool) :
    Calls Try.prog 32 #[.pointer (some ⟨cb, 0, none⟩), .int .i64 c, opv kd tx it so hs] w fun e w' => e = .returned (.tuple #[]) ∧
      (∃ out', FailRel out c (opc kd tx it so hs) out' ∧ ClsV w' F cb tb db mi N lim vi vr vt f ends out' items reads dm) ∧ KeepF F w w' := by
  have hlt : cb < w.heap.size := (Array.getElem?_eq_some_iff.1 h.blk).1
  have hc4' : (c : Int) < 4 := by omega
  have hb1 : Below w.heap.size w (w.alloc (.cells #[.int .u8 kd, .int .i64 tx, .string it, .int .i64 so, .bool hs] 45)) := (Below.refl _ _).alloc (Nat.le_refl _) _
  have h1 := h.grown hb1
  have hcc := h.co c hc4
  cases hoc : out c with
  | some x =>
    rw [hoc, optr_some] at hcc
    have H1 : Hid _ := h1
    have HB : Hid _ := hb1
    have HO : Hid _ := hoc
    clear h h1 hb1 hoc
    go_enter Try.func32, Try.ntmps32
    go_wp2_with fail
    refine bodyPost_ret (v := .tuple #[]) (results_none rfl _ _ _) rfl ?_
    exact ⟨rfl, ⟨out, Or.inl ⟨by rw [HO.out]; simp, rfl⟩, H1.out⟩, KeepF.of_below HB.out⟩
  | none =>
    rw [hoc, optr_none] at hcc
    have hb2 : Below w.heap.size w ((w.alloc (.cells #[.int .u8 kd, .int .i64 tx, .string it, .int .i64 so, .bool hs] 45)).alloc (.cells #[.int .u8 kd, .int .i64 tx, .string it, .int .i64 so, .bool hs] 45)) := hb1.alloc (by simp) _
    have h2 := h.grown hb2
    have hnew : ((w.alloc (.cells #[.int .u8 kd, .int .i64 tx, .string it, .int .i64 so, .bool hs] 45)).alloc (.cells #[.int .u8 kd, .int .i64 tx, .string it, .int .i64 so, .bool hs] 45)).heap[w.heap.size + 1]? = some (.cells (opc kd tx it so hs).toArray 45 (0, 0)) := by
      have := heap_alloc_new (w.alloc (.cells #[.int .u8 kd, .int .i64 tx, .string it, .int .i64 so, .bool hs] 45)) (.cells #[.int .u8 kd, .int .i64 tx, .string it, .int .i64 so, .bool hs] 45)
      simpa [opc] using this
    have H2 : Hid _ := h2
    have HB : Hid _ := hb2
    have HN : Hid _ := hnew
    have HO0 : Hid _ := hoc
    clear h h1 hb1 h2 hb2 hnew hoc
    go_enter Try.func32, Try.ntmps32
    go_wp2_with fail
    go_loopw [7] (fun i wr => ∃ k : Nat, c ≤ k ∧ k ≤ 4 ∧ i = .int .i64 k ∧ ClsV wr F cb tb db mi N lim vi vr vt f ends (failTo out c k (w.heap.size + 1, opc kd tx it so hs)) items reads dm ∧ KeepF F w wr ∧ wr.heap[w.heap.size + 1]? = some (.cells (opc kd tx it so hs).toArray 45 (0, 0))) (fun i _ => 4 - (intOf i).toNat)
    case atStart => exact ⟨c, Nat.le_refl _, by omega, rfl, by rw [failTo_start]; exact H2.out, KeepF.of_below HB.out, HN.out⟩
    case round =>
      obtain ⟨k, hck, hk4, rfl, hV, hK, hN⟩ := hrel
      clear H2 HB HN hcc
      by_cases hlt4 : k < 4
      · have hk' : (k : Int) < 4 := by omega
        have hco := hV.co k hlt4
        rw [failTo_at] at hco
        cases hok : out k with
        | some y =>
          rw [hok, optr_some] at hco
          have HV : Hid _ := hV
          have HK : Hid _ := hK
          have HN : Hid _ := hN
          have HO : Hid _ := hok
          clear hV hK hN hok
          go_wp2_with fail
          go_roundw
          case rel => exact ⟨k + 1, by omega, by omega, by go_num, by rw [← failTo_miss out c k _ (by rw [HO.out]; simp)]; exact HV.out, HK.out, HN.out⟩
          case measure => simp [intOf]; omega
        | none =>
          rw [hok, optr_none] at hco
          have hfz := hV.fz (1 + k)
          have hs1 := grown_setCell (w := wr) cb (1 + k) (.pointer (some ⟨w.heap.size + 1, 0, none⟩))
          have hV' : ClsV (wr.setCell ⟨cb, 1 + k, none⟩ (.pointer (some ⟨w.heap.size + 1, 0, none⟩))) F cb tb db mi N lim vi vr vt f ends (failTo out c (k + 1) (w.heap.size + 1, opc kd tx it so hs)) items reads dm := by
            refine hV.setCb hs1 ?_ ?_
            · rw [blk_set (i := 1 + k) (.pointer (some ⟨w.heap.size + 1, 0, none⟩)) hV.blk]
              have := cb_set tb (failTo out c k (w.heap.size + 1, opc kd tx it so hs)) vi vr db k hlt4 (some (w.heap.size + 1, opc kd tx it so hs))
              rw [optr_some, failTo_hit out c k _ hck hok] at this
              rw [this]
            · intro j b cs hj
              rw [← failTo_hit out c k _ hck hok] at hj
              unfold setOut at hj
              by_cases e : j = k
              · rw [if_pos e] at hj
                simp at hj
                obtain ⟨rfl, rfl⟩ := hj
                exact hN
              · rw [if_neg e] at hj
                exact hV.ops j b cs hj
          have hN' : (wr.setCell ⟨cb, 1 + k, none⟩ (.pointer (some ⟨w.heap.size + 1, 0, none⟩))).heap[w.heap.size + 1]? = some (.cells (opc kd tx it so hs).toArray 45 (0, 0)) := blk_kept hs1 hN (by simp; omega)
          have hK' := hK.trans (KeepF.of_grown hs1 (fun g hx => by cases hx; exact hV.fcb))
          have HV : Hid _ := hV'
          have HK : Hid _ := hK'
          have HN : Hid _ := hN'
          clear hV hK hN hok hs1 hV' hN' hK'
          go_wp2_with fail
          go_roundw
          case rel => exact ⟨k + 1, by omega, by omega, by go_num, HV.out, HK.out, HN.out⟩
          case measure => simp [intOf]; omega
      · obtain rfl : k = 4 := by omega
        have HV : Hid _ := hV
        have HK : Hid _ := hK
        clear hV hK hN
        go_wp2_with fail
        go_end0
        exact ⟨rfl, ⟨_, Or.inr ⟨HO0.out, _, rfl⟩, HV.out⟩, HK.out⟩

end
end Go.Proofs.Qxb6625890a
