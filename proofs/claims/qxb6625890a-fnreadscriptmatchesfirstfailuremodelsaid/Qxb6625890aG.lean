/-
  Seat b6625890a: (classifier).read, statement by statement. Frames written by program.
-/
import Derived.Test.Qxb6625890aF
namespace Go.Proofs.Qxb6625890a
open Go.RowKit Go.Maps
set_option linter.unusedVariables false

def fresh (items reads : List (Int × Int)) (item : Nat) (t : Int) : Bool := decide ((items.getD item (0, 0)).2 < 0) || ((reads.getD (items.getD item (0, 0)).2.toNat (0, 0)).1 != t)
def stepI (o3 : Option OpC) (items reads : List (Int × Int)) (item : Nat) (t : Int) : List (Int × Int) :=
  if o3 = none ∧ fresh items reads item t = true then items.set item ((items.getD item (0, 0)).1, (reads.length : Int)) else items
def stepR (o3 : Option OpC) (items reads : List (Int × Int)) (item : Nat) (t : Int) : List (Int × Int) :=
  if o3 = none ∧ fresh items reads item t = true then reads ++ [(t, (items.getD item (0, 0)).2)] else reads
def RdP (F : Nat → Prop) (cb lim : Nat) (ends : List Int) (out : Nat → Option OpC) (items reads : List (Int × Int)) (dm : Int → Option (List Int)) (w0 w' : World) : Prop :=
  (∃ tb db mi N vi vr vt f, ClsV w' F cb tb db mi N lim vi vr vt f ends out items reads dm) ∧ KeepF F w0 w'
def QR (R : World → Prop) : Exit → Act → World → Prop := bodyPost Try.prog Try.f28 (fun e w' => e = .returned (.tuple #[]) ∧ R w')

theorem tl28_0 : tl Try.f28 0 = Code.seq (st Try.f28 0) (tl Try.f28 1) := by kernel_rfl
theorem tl28_1 : tl Try.f28 1 = Code.seq (st Try.f28 1) (tl Try.f28 2) := by kernel_rfl
theorem tl28_2 : tl Try.f28 2 = Code.seq (st Try.f28 2) (tl Try.f28 3) := by kernel_rfl
theorem tl28_3 : tl Try.f28 3 = Code.seq (st Try.f28 3) (tl Try.f28 4) := by kernel_rfl
theorem tl28_4 : tl Try.f28 4 = Code.seq (st Try.f28 4) (tl Try.f28 5) := by kernel_rfl
theorem tl28_5 : tl Try.f28 5 = Code.seq (st Try.f28 5) (tl Try.f28 6) := by kernel_rfl
theorem tl28_6 : tl Try.f28 6 = Code.seq (st Try.f28 6) (tl Try.f28 7) := by kernel_rfl
theorem tl28_7 : tl Try.f28 7 = Code.seq (st Try.f28 7) (tl Try.f28 8) := by kernel_rfl

set_option maxRecDepth 100000 in
set_option maxHeartbeats 1000000 in
theorem rd7 {w w0 : World} {F : Nat → Prop} {cb tb db mi N lim : Nat} {vi vr vt : Value} {f : Int → Option Value} {ends : List Int} {out : Nat → Option OpC} {items reads : List (Int × Int)} {dm : Int → Option (List Int)} (t : Int) (item : Nat) (src : Int) (g cp : Nat) (r : Int) (u1 u5 u6 u7 u8 u9 u12 u13 u14 u15 u16 u17 u18 u19 u20 u21 u22 u23 u24 u25 u26 u27 u28 u29 u30 u31 u32 u33 u34 u35 u36 u37 u38 u39 u40 u41 u42 u43 u44 u45 u46 u47 u48 u49 u50 u51 u52 u53 u54 u55 u56 u57 u58 u59 u60 u61 u62 u63 u64 u65 u66 u67 u68 u69 u70 u71 u72 u73 u74 u75 u76 u77 u78 u79 u80 u81 u82 u83 u84 u85 u86 u87 u88 u89 u90 u91 u92 u93 u94 u95 u96 u97 u98 u99 u100 u101 u102 u103 u104 u105 u106 u107 u108 u109 u110 : Value)
    (h : ClsV w F cb tb db mi N lim (.slice (some ⟨g, 0, none⟩) items.length cp) vr vt f ends out items reads dm) (hF : ∀ k, w.heap.size ≤ k → F k) (hl : lim ≤ 8000000) (hit : item < items.length) (hr : (items.getD item (0, 0)).2 = r) (hrl : r < reads.length) (ho3 : out 3 = none) (hK0 : KeepF F w0 w) :
    Code.wp Try.prog (tl Try.f28 7) (QR (RdP F cb (lim + 1) ends out (stepI (out 3) items reads item t) (stepR (out 3) items reads item t) dm w0)) ⟨#[.pointer (some ⟨cb, 0, none⟩), u1, .int .i32 t, .int .i32 item, .int .i32 src, u5, u6, u7, u8, u9, .pointer (some ⟨g, item * 2, none⟩), .int .i32 r, u12, u13, u14, u15, u16, u17, u18, u19, u20, u21, u22, u23, u24, u25, u26, u27, u28, u29, u30, u31, u32, u33, u34, u35, u36, u37, u38, u39, u40, u41, u42, u43, u44, u45, u46, u47, u48, u49, u50, u51, u52, u53, u54, u55, u56, u57, u58, u59, u60, u61, u62, u63, u64, u65, u66, u67, u68, u69, u70, u71, u72, u73, u74, u75, u76, u77, u78, u79, u80, u81, u82, u83, u84, u85, u86, u87, u88, u89, u90, u91, u92, u93, u94, u95, u96, u97, u98, u99, u100, u101, u102, u103, u104, u105, u106, u107, u108, u109, u110], []⟩ w := by
  obtain ⟨i0, hi, hz0, hz1, hz2⟩ := info_parts Try.info78
  conv => arg 2; whnf
  unfold QR
  have c6 := h.c6
  have hlr := h.lr
  have hlt : cb < w.heap.size := (Array.getElem?_eq_some_iff.1 h.blk).1
  obtain ⟨o, cpr, hv⟩ := row_shape h.rds
  subst hv
  have hb1 : Below w.heap.size w (w.alloc (.cells #[.int .i32 t, .int .i32 r] 78)) := (Below.refl _ _).alloc (Nat.le_refl _) _
  have h1 := h.grown hb1
  have q1 : reads.length + 1 ≤ maxLen := by unfold maxLen; omega
  have q2 : (reads.length + 1) * 8 ≤ 140737488355328 := by omega
  have HC : Hid _ := h
  have H1 : Hid _ := h1
  have HR : Hid _ := hr
  have HO : Hid _ := ho3
  have HK0 : Hid _ := hK0
  have HF : Hid _ := hF
  have key : ∀ b : Bool, Hid (fresh items reads item t = b → b = true → RdP F cb (lim + 1) ends out (stepI (out 3) items reads item t) (stepR (out 3) items reads item t) dm w0 = RdP F cb (lim + 1) ends out (items.set item ((items.getD item (0, 0)).1, (reads.length : Int))) (reads ++ [(t, r)]) dm w0) := by
    intro b hb hb2
    have : out 3 = none ∧ fresh items reads item t = true := ⟨ho3, by rw [hb, hb2]⟩
    simp only [stepI, stepR, if_pos this, hr]
  have key2 : Hid (fresh items reads item t = false → RdP F cb (lim + 1) ends out (stepI (out 3) items reads item t) (stepR (out 3) items reads item t) dm w0 = RdP F cb (lim + 1) ends out items reads dm w0) := by
    intro hb
    have : ¬ (out 3 = none ∧ fresh items reads item t = true) := by rw [hb]; simp
    simp only [stepI, stepR, if_neg this]
  clear h h1 hr ho3 hK0 hF
  by_cases hneg : r < 0
  · have hfr : fresh items reads item t = true := by unfold fresh; rw [HR.out, decide_eq_true hneg]; rfl
    rw [(key true).out hfr rfl]
    generalize hgR : RdP F cb (lim + 1) ends out _ _ dm w0 = R
    have HG : Hid _ := hgR
    clear key key2 hfr hgR
    go_wp2_with (at_builtin; go_must (refine wpList_append_own_at _ rfl _ _ 72 rfl 0 78 i0 (.agg #[.int .i32 0, .int .i32 0]) 2 8 Try.underlying72 hi hz0 hz1 hz2 rfl Nat.zero_lt_two (.slice o reads.length cpr) reads.length (flat reads) rfl H1.out.rds ⟨w.heap.size, 0, none⟩ 1 1 [.int .i32 t, .int .i32 r] rfl rfl (cell_two_new _ _ _ _) (pair_oneCell t r) q1 q2 (Nat.zero_le _) ?_; intro v' w2 hown' hgrow hnil hloc; have hcb := push_cb H1.out.blk H1.out.rds hgrow ne75_78; have k6 : w2.cell? ⟨cb, 6, none⟩ = some _ := cell_blk hcb rfl; have f6 := frozen_of_row w2 cb 6 _ _ hcb; obtain ⟨o', cp', hv'⟩ := row_shape hown'; subst hv'; have R := HC.out.pushRds (p := (t, r)) hb1 hgrow hown' hloc HF.out; have k6' := R.1.c6; have kg := R.1.its.cellAt (item * 2 + 1) (show item * 2 + 1 < items.length * 2 by omega); rw [flat_snd items item hit, HR.out] at kg; have fg := R.1.its.frozenAt (item * 2 + 1); have RR : Hid _ := R; clear R))
    go_end0
    have S := RR.out.1.setLast (x := (reads.length : Int)) hit
    rw [← HG.out]
    exact ⟨rfl, ⟨_, _, _, _, _, _, _, _, S.1⟩, (HK0.out.trans RR.out.2).trans S.2⟩
  · obtain ⟨n, rfl⟩ := toNat_of (show 0 ≤ r by omega)
    have hnl : n < reads.length := by omega
    have hdn : decide ((n : Int) < 0) = false := by simp
    obtain ⟨gr, cpg, hvr, _⟩ := row_shape_pos HC.out.rds (show 0 < reads.length by omega)
    cases hvr
    have kr : w.cell? ⟨gr, n * 2, none⟩ = some (.int .i32 (reads.getD n (0, 0)).1) := by rw [HC.out.rds.cellAt (n * 2) (by omega)]; exact flat_fst reads n hnl
    have hnl' : (n : Int) < (reads.length : Int) := by omega
    by_cases hne : (reads.getD n (0, 0)).1 = t
    · have hfr : fresh items reads item t = false := by unfold fresh; rw [HR.out, hdn, Int.toNat_natCast, hne]; simp
      rw [key2.out hfr]
      generalize hgR : RdP F cb (lim + 1) ends out _ _ dm w0 = R
      have HG : Hid _ := hgR
      clear hgR
      rw [hne] at kr
      have hb0 : (t != t) = false := by simp
      clear key key2 hfr hne
      go_wp2_with fail
      go_end0
      rw [← HG.out]
      exact ⟨rfl, ⟨_, _, _, _, _, _, _, _, HC.out.wide (Nat.le_succ _)⟩, HK0.out⟩
    · have hfr : fresh items reads item t = true := by unfold fresh; rw [HR.out, hdn, Int.toNat_natCast]; simpa using hne
      rw [(key true).out hfr rfl]
      generalize hgR : RdP F cb (lim + 1) ends out _ _ dm w0 = R
      have HG : Hid _ := hgR
      clear hgR
      have hbt : ((reads.getD n (0, 0)).1 != t) = true := by simpa using hne
      generalize (reads.getD n (0, 0)).1 = y at kr hbt
      clear key key2 hfr hne
      go_wp2_with (at_builtin; go_must (refine wpList_append_own_at _ rfl _ _ 72 rfl 0 78 i0 (.agg #[.int .i32 0, .int .i32 0]) 2 8 Try.underlying72 hi hz0 hz1 hz2 rfl Nat.zero_lt_two (.slice (some ⟨gr, 0, none⟩) reads.length cpr) reads.length (flat reads) rfl H1.out.rds ⟨w.heap.size, 0, none⟩ 1 1 [.int .i32 t, .int .i32 n] rfl rfl (cell_two_new _ _ _ _) (pair_oneCell t n) q1 q2 (Nat.zero_le _) ?_; intro v' w2 hown' hgrow hnil hloc; have hcb := push_cb H1.out.blk H1.out.rds hgrow ne75_78; have k6 : w2.cell? ⟨cb, 6, none⟩ = some _ := cell_blk hcb rfl; have f6 := frozen_of_row w2 cb 6 _ _ hcb; obtain ⟨o', cp', hv'⟩ := row_shape hown'; subst hv'; have R := HC.out.pushRds (p := (t, (n : Int))) hb1 hgrow hown' hloc HF.out; have k6' := R.1.c6; have kg := R.1.its.cellAt (item * 2 + 1) (show item * 2 + 1 < items.length * 2 by omega); rw [flat_snd items item hit, HR.out] at kg; have fg := R.1.its.frozenAt (item * 2 + 1); have RR : Hid _ := R; clear R))
      go_end0
      have S := RR.out.1.setLast (x := (reads.length : Int)) hit
      rw [← HG.out]
      exact ⟨rfl, ⟨_, _, _, _, _, _, _, _, S.1⟩, (HK0.out.trans RR.out.2).trans S.2⟩

end Go.Proofs.Qxb6625890a
