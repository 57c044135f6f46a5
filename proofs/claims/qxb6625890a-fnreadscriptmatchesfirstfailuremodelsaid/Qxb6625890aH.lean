/-
  Seat b6625890a: (classifier).read, statements 3 to 6. Frames written by program.
-/
import Derived.Test.Qxb6625890aG
namespace Go.Proofs.Qxb6625890a
open Go.RowKit Go.Maps
set_option linter.unusedVariables false

set_option maxRecDepth 100000 in
set_option maxHeartbeats 1000000 in
theorem rd4 {w w0 : World} {F : Nat → Prop} {cb tb db mi N lim : Nat} {vi vr vt : Value} {f : Int → Option Value} {ends : List Int} {out : Nat → Option OpC} {items reads : List (Int × Int)} {dm : Int → Option (List Int)} (t : Int) (item : Nat) (src : Int) (u1 u5 u6 u7 u8 u9 u10 u11 u12 u13 u14 u15 u16 u17 u18 u19 u20 u21 u22 u23 u24 u25 u26 u27 u28 u29 u30 u31 u32 u33 u34 u35 u36 u37 u38 u39 u40 u41 u42 u43 u44 u45 u46 u47 u48 u49 u50 u51 u52 u53 u54 u55 u56 u57 u58 u59 u60 u61 u62 u63 u64 u65 u66 u67 u68 u69 u70 u71 u72 u73 u74 u75 u76 u77 u78 u79 u80 u81 u82 u83 u84 u85 u86 u87 u88 u89 u90 u91 u92 u93 u94 u95 u96 u97 u98 u99 u100 u101 u102 u103 u104 u105 u106 u107 u108 u109 u110 : Value)
    (h : ClsV w F cb tb db mi N lim vi vr vt f ends out items reads dm) (hF : ∀ k, w.heap.size ≤ k → F k) (hl : lim ≤ 8000000) (hit : item < items.length) (hrl : (items.getD item (0, 0)).2 < reads.length) (hK0 : KeepF F w0 w) :
    Code.wp Try.prog (tl Try.f28 4) (QR (RdP F cb (lim + 1) ends out (stepI (out 3) items reads item t) (stepR (out 3) items reads item t) dm w0)) ⟨#[.pointer (some ⟨cb, 0, none⟩), u1, .int .i32 t, .int .i32 item, .int .i32 src, u5, u6, u7, u8, u9, u10, u11, u12, u13, u14, u15, u16, u17, u18, u19, u20, u21, u22, u23, u24, u25, u26, u27, u28, u29, u30, u31, u32, u33, u34, u35, u36, u37, u38, u39, u40, u41, u42, u43, u44, u45, u46, u47, u48, u49, u50, u51, u52, u53, u54, u55, u56, u57, u58, u59, u60, u61, u62, u63, u64, u65, u66, u67, u68, u69, u70, u71, u72, u73, u74, u75, u76, u77, u78, u79, u80, u81, u82, u83, u84, u85, u86, u87, u88, u89, u90, u91, u92, u93, u94, u95, u96, u97, u98, u99, u100, u101, u102, u103, u104, u105, u106, u107, u108, u109, u110], []⟩ w := by
  rw [tl28_4]
  refine wp_seq_k (fun K hK => ?_)
  conv => arg 2; whnf
  have hco := h.co 3 (by omega)
  simp only [show 1 + 3 = 4 from rfl] at hco
  cases ho : out 3 with
  | some x =>
    have e1 : stepI (some x) items reads item t = items := by unfold stepI; rw [if_neg (by simp)]
    have e2 : stepR (some x) items reads item t = reads := by unfold stepR; rw [if_neg (by simp)]
    rw [e1, e2]
    rw [ho, optr_some] at hco
    generalize hgR : RdP F cb (lim + 1) ends out _ _ dm w0 = R
    have HG : Hid _ := hgR
    have HC : Hid _ := h
    have HK0 : Hid _ := hK0
    clear h hK0 hgR ho e1 e2 hF
    unfold QR
    go_wp2_with fail
    refine bodyPost_ret (v := .tuple #[]) (results_none rfl _ _ _) rfl ?_
    rw [← HG.out]
    exact ⟨rfl, ⟨_, _, _, _, _, _, _, _, HC.out.wide (Nat.le_succ _)⟩, HK0.out⟩
  | none =>
    rw [ho, optr_none] at hco
    have hfin : RdP F cb (lim + 1) ends out (stepI none items reads item t) (stepR none items reads item t) dm w0 = RdP F cb (lim + 1) ends out (stepI (out 3) items reads item t) (stepR (out 3) items reads item t) dm w0 := by rw [ho]
    rw [hfin]
    clear hfin
    have c5 := h.c5
    have hr := h.its
    have hli := h.li
    obtain ⟨g, cp, hv, _⟩ := row_shape_pos hr (by omega)
    subst hv
    have c1 : w.cell? ⟨g, item * 2 + 1, none⟩ = some (.int .i32 (items.getD item (0, 0)).2) := by rw [hr.cellAt (item * 2 + 1) (by omega)]; exact flat_snd items item hit
    have hi' : (item : Int) < (items.length : Int) := by omega
    have hi0 : (0 : Int) ≤ (item : Int) := by omega
    obtain ⟨r, hr2⟩ : ∃ r, (items.getD item (0, 0)).2 = r := ⟨_, rfl⟩
    rw [hr2] at c1 hrl
    generalize hgR : RdP F cb (lim + 1) ends out _ _ dm w0 = R
    have HG : Hid _ := hgR
    have HC : Hid _ := h
    have HK0 : Hid _ := hK0
    have HO : Hid _ := ho
    have HR2 : Hid _ := hr2
    clear h hK0 hgR ho hr2 hr
    go_wp2_with fail
    rw [tl28_5]
    refine wp_seq_k (fun K hK => ?_)
    conv => arg 2; whnf
    go_wp2_with fail
    rw [tl28_6]
    refine wp_seq_k (fun K hK => ?_)
    conv => arg 2; whnf
    go_wp2_with fail
    exact rd7 (vi := vr) _ _ _ _ _ _ _ _ _ _ _ _ _ _ _ _ _ _ _ _ _ _ _ _ _ _ _ _ _ _ _ _ _ _ _ _ _ _ _ _ _ _ _ _ _ _ _ _ _ _ _ _ _ _ _ _ _ _ _ _ _ _ _ _ _ _ _ _ _ _ _ _ _ _ _ _ _ _ _ _ _ _ _ _ _ _ _ _ _ _ _ _ _ _ _ _ _ _ _ _ _ _ _ _ _ _ _ _ _ _ _ HC.out hF hl hit HR2.out hrl HO.out HK0.out

end Go.Proofs.Qxb6625890a
