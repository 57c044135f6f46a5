/-
  Seat b6625890a: (classifier).read, statement 3: the dirty read. Frames written by program.
-/
import Derived.Test.Qxb6625890aH
import Derived.Test.Qxb6625890aI
namespace Go.Proofs.Qxb6625890a
open Go.RowKit Go.Maps
set_option linter.unusedVariables false

theorem bodyPost_mono {P : Program} {fn : Func} {R R' : Ending → World → Prop} (h : ∀ e w, R e w → R' e w) : ∀ e a w, bodyPost P fn R e a w → bodyPost P fn R' e a w := by
  intro e a w hq
  cases e with
  | normal => obtain ⟨hd, v, hr, h1⟩ := hq; exact ⟨hd, v, hr, h _ _ h1⟩
  | ret => obtain ⟨hd, v, hr, h1⟩ := hq; exact ⟨hd, v, hr, h _ _ h1⟩
  | exit id => exact hq
  | goto l => exact hq
  | panic ch => exact ⟨hq.1, h _ _ hq.2⟩
  | outgrown => exact h _ _ hq
theorem QR_mono {R R' : World → Prop} (h : ∀ w, R w → R' w) : ∀ e a w, QR R e a w → QR R' e a w := bodyPost_mono (fun e w hh => ⟨hh.1, h w hh.2⟩)

/-- The read is from another uncommitted transaction. -/
def drt (ends : List Int) (src t : Int) : Bool := decide (0 ≤ src) && (src != t) && (ends.getD src.toNat 0 != 99)
def DirtyRel (b : Bool) (out : Nat → Option OpC) (x : List Value) (out' : Nat → Option OpC) : Prop := (b = true ∧ FailRel out 1 x out') ∨ (b = false ∧ out' = out)
def RdQ (F : Nat → Prop) (cb lim : Nat) (ends : List Int) (out : Nat → Option OpC) (items reads : List (Int × Int)) (dm : Int → Option (List Int)) (item : Nat) (t src : Int) (x : List Value) (w0 w' : World) : Prop :=
  ∃ out', DirtyRel (drt ends src t) out x out' ∧ RdP F cb lim ends out' (stepI (out' 3) items reads item t) (stepR (out' 3) items reads item t) (if drt ends src t = true ∧ out 0 = none then dirtyAdd dm t src else dm) w0 w'
theorem fail_zero {out out' : Nat → Option OpC} {x : List Value} (h : FailRel out 1 x out') : out' 0 = out 0 := by
  rcases h with ⟨_, rfl⟩ | ⟨_, b, rfl⟩
  · rfl
  · unfold failTo; rw [if_neg (by omega)]
theorem RdP.wide {F : Nat → Prop} {cb lim lim' : Nat} {ends : List Int} {out : Nat → Option OpC} {items reads : List (Int × Int)} {dm : Int → Option (List Int)} {w0 w' : World} (h : RdP F cb lim ends out items reads dm w0 w') (hl : lim ≤ lim') : RdP F cb lim' ends out items reads dm w0 w' := by
  obtain ⟨⟨tb, db, mi, N, vi, vr, vt, f, hV⟩, hK⟩ := h
  exact ⟨⟨tb, db, mi, N, vi, vr, vt, f, hV.wide hl⟩, hK⟩
theorem news_one {w : World} (src : Int) : ∀ j u, [Value.int .i32 src][j]? = some u → (w.alloc (.cells #[.int .i32 src] 21)).cell? ((⟨w.heap.size, 0, none⟩ : Addr).add j) = some u :=
  World.news_of_block (cs := #[.int .i32 src]) (t := 21) (fr := (0, 0)) (heap_alloc_new w _)

set_option maxRecDepth 100000 in
set_option maxHeartbeats 1000000 in
theorem rd3n {w w0 : World} {F : Nat → Prop} {cb tb db mi N lim : Nat} {vi vr vt : Value} {f : Int → Option Value} {ends : List Int} {out : Nat → Option OpC} {items reads : List (Int × Int)} {dm : Int → Option (List Int)} (t : Int) (item : Nat) (src : Int) (bo : Nat) (kd tx : Int) (it : ByteArray) (so : Int) (hs : Bool) (u1 u5 u7 u8 u9 u10 u11 u12 u13 u14 u15 u16 u17 u18 u19 u20 u21 u22 u23 u24 u25 u26 u27 u28 u29 u30 u31 u32 u33 u34 u35 u36 u37 u38 u39 u40 u41 u42 u43 u44 u45 u46 u47 u48 u49 u50 u51 u52 u53 u54 u55 u56 u57 u58 u59 u60 u61 u62 u63 u64 u65 u66 u67 u68 u69 u70 u71 u72 u73 u74 u75 u76 u77 u78 u79 u80 u81 u82 u83 u84 u85 u86 u87 u88 u89 u90 u91 u92 u93 u94 u95 u96 u97 u98 u99 u100 u101 u102 u103 u104 u105 u106 u107 u108 u109 u110 : Value)
    (h : ClsV w F cb tb db mi N lim vi vr vt f ends out items reads dm) (hF : ∀ k, w.heap.size ≤ k → F k) (hl : lim + 1 ≤ 8000000) (hE : ends.length ≤ 1048576) (hit : item < items.length) (hrl : (items.getD item (0, 0)).2 < reads.length) (ht : (Lit.int .i32 t).wf = true) (hsrc : 0 ≤ src → src ≠ t → src < ends.length) (hbo : ¬ F bo) (hbx : w.heap[bo]? = some (.cells (opc kd tx it so hs).toArray 45 (0, 0))) (hK0 : KeepF F w0 w) (hdf : drt ends src t = false) :
    Code.wp Try.prog (tl Try.f28 3) (QR (RdQ F cb (lim + 2) ends out items reads dm item t src (opc kd tx it so hs) w0)) ⟨#[.pointer (some ⟨cb, 0, none⟩), u1, .int .i32 t, .int .i32 item, .int .i32 src, u5, .pointer (some ⟨bo, 0, none⟩), u7, u8, u9, u10, u11, u12, u13, u14, u15, u16, u17, u18, u19, u20, u21, u22, u23, u24, u25, u26, u27, u28, u29, u30, u31, u32, u33, u34, u35, u36, u37, u38, u39, u40, u41, u42, u43, u44, u45, u46, u47, u48, u49, u50, u51, u52, u53, u54, u55, u56, u57, u58, u59, u60, u61, u62, u63, u64, u65, u66, u67, u68, u69, u70, u71, u72, u73, u74, u75, u76, u77, u78, u79, u80, u81, u82, u83, u84, u85, u86, u87, u88, u89, u90, u91, u92, u93, u94, u95, u96, u97, u98, u99, u100, u101, u102, u103, u104, u105, u106, u107, u108, u109, u110], []⟩ w := by
  have hfin : ∀ w', RdP F cb (lim + 1) ends out (stepI (out 3) items reads item t) (stepR (out 3) items reads item t) dm w0 w' → RdQ F cb (lim + 2) ends out items reads dm item t src (opc kd tx it so hs) w0 w' := fun w' hp => ⟨out, Or.inr ⟨hdf, rfl⟩, by rw [if_neg (by rw [hdf]; simp)]; exact hp.wide (Nat.le_succ _)⟩
  refine wp_mono ?_ (QR_mono hfin)
  rw [tl28_3]
  refine wp_seq_k (fun K hK => ?_)
  conv => arg 2; whnf
  have HC : Hid _ := h
  have HK0 : Hid _ := hK0
  have c0 := h.c0
  have hend := fun i hi => end_any h i hi hE
  have HE : Hid _ := hend
  have HD : Hid _ := hdf
  clear h hK0 hdf hfin hend hbx
  by_cases h0 : 0 ≤ src
  · by_cases h1 : src = t
    · have e1 : (src != t) = false := by simp [h1]
      clear HD HE h1
      go_wp2_with fail
      exact rd4 _ _ _ _ _ _ _ _ _ _ _ _ _ _ _ _ _ _ _ _ _ _ _ _ _ _ _ _ _ _ _ _ _ _ _ _ _ _ _ _ _ _ _ _ _ _ _ _ _ _ _ _ _ _ _ _ _ _ _ _ _ _ _ _ _ _ _ _ _ _ _ _ _ _ _ _ _ _ _ _ _ _ _ _ _ _ _ _ _ _ _ _ _ _ _ _ _ _ _ _ _ _ _ _ _ _ _ _ _ _ HC.out hF (by omega) hit hrl HK0.out
    · have e1 : (src != t) = true := by simp [h1]
      obtain ⟨n, rfl⟩ := toNat_of h0
      have hn : n < ends.length := by have := hsrc h0 h1; omega
      have hz : ends.getD n 0 = 99 := by
        have hd := HD.out
        unfold drt at hd
        rw [decide_eq_true h0, e1, Int.toNat_natCast] at hd
        simpa using hd
      have HZ : Hid _ := hz
      clear HD h1 hz hsrc
      go_wp2_with fail
      refine (HE.out n hn).mono ?_
      rintro e w1 ⟨rfl, hw1⟩
      have hw1 := hw1.symm
      subst hw1
      rw [HZ.out]
      go_wp2_with fail
      exact rd4 _ _ _ _ _ _ _ _ _ _ _ _ _ _ _ _ _ _ _ _ _ _ _ _ _ _ _ _ _ _ _ _ _ _ _ _ _ _ _ _ _ _ _ _ _ _ _ _ _ _ _ _ _ _ _ _ _ _ _ _ _ _ _ _ _ _ _ _ _ _ _ _ _ _ _ _ _ _ _ _ _ _ _ _ _ _ _ _ _ _ _ _ _ _ _ _ _ _ _ _ _ _ _ _ _ _ _ _ _ _ HC.out hF (by omega) hit hrl HK0.out
  · have e0 : decide (0 ≤ src) = false := by simpa using h0
    clear HD HE hsrc
    go_wp2_with fail
    exact rd4 _ _ _ _ _ _ _ _ _ _ _ _ _ _ _ _ _ _ _ _ _ _ _ _ _ _ _ _ _ _ _ _ _ _ _ _ _ _ _ _ _ _ _ _ _ _ _ _ _ _ _ _ _ _ _ _ _ _ _ _ _ _ _ _ _ _ _ _ _ _ _ _ _ _ _ _ _ _ _ _ _ _ _ _ _ _ _ _ _ _ _ _ _ _ _ _ _ _ _ _ _ _ _ _ _ _ _ _ _ _ HC.out hF (by omega) hit hrl HK0.out

set_option maxRecDepth 100000 in
set_option maxHeartbeats 1000000 in
theorem rd3d {w w0 : World} {F : Nat → Prop} {cb tb db mi N lim : Nat} {vi vr vt : Value} {f : Int → Option Value} {ends : List Int} {out : Nat → Option OpC} {items reads : List (Int × Int)} {dm : Int → Option (List Int)} (t : Int) (item : Nat) (src : Int) (bo : Nat) (kd tx : Int) (it : ByteArray) (so : Int) (hs : Bool) (u1 u5 u7 u8 u9 u10 u11 u12 u13 u14 u15 u16 u17 u18 u19 u20 u21 u22 u23 u24 u25 u26 u27 u28 u29 u30 u31 u32 u33 u34 u35 u36 u37 u38 u39 u40 u41 u42 u43 u44 u45 u46 u47 u48 u49 u50 u51 u52 u53 u54 u55 u56 u57 u58 u59 u60 u61 u62 u63 u64 u65 u66 u67 u68 u69 u70 u71 u72 u73 u74 u75 u76 u77 u78 u79 u80 u81 u82 u83 u84 u85 u86 u87 u88 u89 u90 u91 u92 u93 u94 u95 u96 u97 u98 u99 u100 u101 u102 u103 u104 u105 u106 u107 u108 u109 u110 : Value)
    (h : ClsV w F cb tb db mi N lim vi vr vt f ends out items reads dm) (hF : ∀ k, w.heap.size ≤ k → F k) (hl : lim + 1 ≤ 8000000) (hE : ends.length ≤ 1048576) (hit : item < items.length) (hrl : (items.getD item (0, 0)).2 < reads.length) (ht : (Lit.int .i32 t).wf = true) (hsrc : 0 ≤ src → src ≠ t → src < ends.length) (hbo : ¬ F bo) (hbx : w.heap[bo]? = some (.cells (opc kd tx it so hs).toArray 45 (0, 0))) (hK0 : KeepF F w0 w) (hdf : drt ends src t = true) :
    Code.wp Try.prog (tl Try.f28 3) (QR (RdQ F cb (lim + 2) ends out items reads dm item t src (opc kd tx it so hs) w0)) ⟨#[.pointer (some ⟨cb, 0, none⟩), u1, .int .i32 t, .int .i32 item, .int .i32 src, u5, .pointer (some ⟨bo, 0, none⟩), u7, u8, u9, u10, u11, u12, u13, u14, u15, u16, u17, u18, u19, u20, u21, u22, u23, u24, u25, u26, u27, u28, u29, u30, u31, u32, u33, u34, u35, u36, u37, u38, u39, u40, u41, u42, u43, u44, u45, u46, u47, u48, u49, u50, u51, u52, u53, u54, u55, u56, u57, u58, u59, u60, u61, u62, u63, u64, u65, u66, u67, u68, u69, u70, u71, u72, u73, u74, u75, u76, u77, u78, u79, u80, u81, u82, u83, u84, u85, u86, u87, u88, u89, u90, u91, u92, u93, u94, u95, u96, u97, u98, u99, u100, u101, u102, u103, u104, u105, u106, u107, u108, u109, u110], []⟩ w := by
  obtain ⟨i0, hi, hz0, hz1, hz2⟩ := info_parts Try.info21
  have hd3 : 0 ≤ src ∧ src ≠ t ∧ ends.getD src.toNat 0 ≠ 99 := by
    unfold drt at hdf
    simp only [Bool.and_eq_true, decide_eq_true_eq, bne_iff_ne] at hdf
    exact ⟨hdf.1.1, hdf.1.2, hdf.2⟩
  obtain ⟨h0, h1, hz⟩ := hd3
  obtain ⟨n, rfl⟩ := toNat_of h0
  rw [Int.toNat_natCast] at hz
  have hn : n < ends.length := by have := hsrc h0 h1; omega
  have e1 : ((n : Int) != t) = true := by simpa using h1
  have e3 : (ends.getD n 0 != 99) = true := by simpa using hz
  have HC : Hid _ := h
  have HK0 : Hid _ := hK0
  have HF : Hid _ := hF
  have HD : Hid _ := hdf
  have HBX : Hid _ := hbx
  have HBO : Hid _ := hbo
  have HT : Hid _ := ht
  have c0 := h.c0
  have k0 : w.cell? ⟨bo, 0, none⟩ = some (.int .u8 kd) := cell_blk hbx rfl
  have k1 : w.cell? ⟨bo, 1, none⟩ = some (.int .i64 tx) := cell_blk hbx rfl
  have k2 : w.cell? ⟨bo, 2, none⟩ = some (.string it) := cell_blk hbx rfl
  have k3 : w.cell? ⟨bo, 3, none⟩ = some (.int .i64 so) := cell_blk hbx rfl
  have k4 : w.cell? ⟨bo, 4, none⟩ = some (.bool hs) := cell_blk hbx rfl
  obtain ⟨y, hy⟩ : ∃ y, ends.getD n 0 = y := ⟨_, rfl⟩
  rw [hy] at e3
  have HY : Hid _ := hy
  have HH1 : Hid _ := h1
  rw [tl28_3]
  refine wp_seq_k (fun K hK => ?_)
  conv => arg 2; whnf
  clear h hK0 hdf hbx hbo hF ht hsrc h1 hz hy
  go_wp2_with fail
  refine (end_any HC.out n hn hE).mono ?_
  rintro e w1 ⟨rfl, hw1⟩
  have hw1 := hw1.symm
  subst hw1
  rw [HY.out]
  go_wp2_with fail
  refine (fail_any HC.out HF.out 1 (by omega) kd tx it so hs).mono ?_
  rintro e w1 ⟨rfl, ⟨out', hrel, hV⟩, hK1⟩
  have hF1 : ∀ k, w1.heap.size ≤ k → F k := fun k hk => HF.out k (Nat.le_trans hK1.size hk)
  have hK2 := HK0.out.trans hK1
  have hzero := fail_zero hrel
  have hco := hV.co 0 (by omega)
  simp only [Nat.add_zero] at hco
  clear HC k0 k1 k2 k3 k4 c0
  cases hoz : out 0 with
  | some x =>
    rw [hzero, hoz, optr_some] at hco
    have hfin : ∀ w', RdP F cb (lim + 1) ends out' (stepI (out' 3) items reads item t) (stepR (out' 3) items reads item t) dm w0 w' → RdQ F cb (lim + 2) ends out items reads dm item t n (opc kd tx it so hs) w0 w' := fun w' hp => ⟨out', Or.inl ⟨HD.out, hrel⟩, by rw [if_neg (by rw [hoz]; simp)]; exact hp.wide (Nat.le_succ _)⟩
    have HFIN : Hid _ := hfin
    have HV : Hid _ := hV
    have HK2 : Hid _ := hK2
    have HF1 : Hid _ := hF1
    clear hfin hV hK2 hK1 hrel hzero hoz hF1
    go_wp2_with fail
    refine wp_mono ?_ (QR_mono HFIN.out)
    exact rd4 _ _ _ _ _ _ _ _ _ _ _ _ _ _ _ _ _ _ _ _ _ _ _ _ _ _ _ _ _ _ _ _ _ _ _ _ _ _ _ _ _ _ _ _ _ _ _ _ _ _ _ _ _ _ _ _ _ _ _ _ _ _ _ _ _ _ _ _ _ _ _ _ _ _ _ _ _ _ _ _ _ _ _ _ _ _ _ _ _ _ _ _ _ _ _ _ _ _ _ _ _ _ _ _ _ _ _ _ _ _ HV.out HF1.out (by omega) hit hrl HK2.out
  | none =>
    rw [hzero, hoz, optr_none] at hco
    have c7 := hV.c7
    obtain ⟨hgu, hgl⟩ := hV.group t
    obtain ⟨o, cp, hu⟩ := row_shape hgu
    have hlook := hV.map.look HT.out false
    simp only [Bool.false_eq_true, if_false] at hlook
    rw [hu] at hlook hgu
    have hln := hV.ln
    have hlc : cb < w1.heap.size := (Array.getElem?_eq_some_iff.1 hV.blk).1
    have hb1 : Below w1.heap.size w1 (w1.alloc (.cells #[.int .i32 n] 21)) := (Below.refl _ _).alloc (Nat.le_refl _) _
    have hMa : MapIs (w1.alloc (.cells #[.int .i32 n] 21)).drew db N f := hV.map.kept (grown_of_below hb1.drew) (by simp)
    have hga := hgu.alloc (.cells #[.int .i32 n] 21)
    have q1 : (dirtyAt dm t).length + 1 ≤ maxLen := by unfold maxLen; omega
    have q2 : ((dirtyAt dm t).length + 1) * 4 ≤ 140737488355328 := by omega
    have qN : N < maxLen := by unfold maxLen; omega
    have hup : ∀ (x : World), MapIs x db N f → (∀ v, (Instr.mapUpdate 73 (.map (some db)) (.int .i32 t) v).run Try.prog x = .ok () (updW Try.prog x db t v)) ∧ (Instr.lookup 73 (.map (some db)) (.int .i32 t) false).run Try.prog x = .ok (.slice o (dirtyAt dm t).length cp) x := fun x hx => ⟨fun v => (upd_run hx HT.out qN v).1, by have := hx.look HT.out false; simp only [Bool.false_eq_true, if_false] at this; rw [hu] at this; exact this⟩
    have hnb : ∀ g', (Value.slice o (dirtyAt dm t).length cp).ownBlock = some g' → g' ≠ cb ∧ g' ≠ db := fun g' hg' => by
      obtain ⟨cur, hc⟩ := row_tag hgu g' hg'
      obtain ⟨es, cl, hmm⟩ := hV.map.isMap
      exact ⟨ne_of_tag hc hV.blk (by decide), ne_of_map hc hmm⟩
    have hcd : cb ≠ db := by
      obtain ⟨es, cl, hmm⟩ := hV.map.isMap
      exact ne_of_map hV.blk hmm
    have HCD : Hid _ := hcd
    have HU : Hid _ := hup
    have HV : Hid _ := hV
    have HK2 : Hid _ := hK2
    have HF1 : Hid _ := hF1
    have HMa : Hid _ := hMa
    have HGa : Hid _ := hga
    have HREL : Hid _ := hrel
    have HOZ : Hid _ := hoz
    have HUU : Hid _ := hu
    have HNB : Hid _ := hnb
    have hlkd : (Instr.lookup 73 (.map (some db)) (.int .i32 t) false).run Try.prog w1.drew = .ok (.slice o (dirtyAt dm t).length cp) w1.drew := (hup w1.drew hV.map).2
    have hlka : (Instr.lookup 73 (.map (some db)) (.int .i32 t) false).run Try.prog (w1.alloc (.cells #[.int .i32 n] 21)).drew = .ok (.slice o (dirtyAt dm t).length cp) (w1.alloc (.cells #[.int .i32 n] 21)).drew := (hup (w1.alloc (.cells #[.int .i32 n] 21)).drew hMa).2
    clear hup hV hK2 hF1 hMa hga hrel hoz hu hK1 hzero hgu hnb hlook hcd
    go_wp2_with fail
    go_region_held3 (fun w' => w'.cell? ⟨cb, 7, none⟩ = some (.map (some db)))
      (first
        | go_keep
        | (rw [hgrow.cell_far _ (by simp; omega) (fun hx => (HNB.out _ hx.symm).1 rfl)]; assumption)
        | (exact hc7u))
      ((refine step_append_lies _ (by rfl) _ _ _ (by rfl) 0 21 i0 (.int .i32 0) 1 4 Try.underlying51 hi hz0 hz1 hz2 rfl Nat.zero_lt_one (.slice o (dirtyAt dm t).length cp) (dirtyAt dm t).length (ints (dirtyAt dm t)) (by rfl) (World.ownsRow.drew HGa.out) ⟨w1.heap.size, 0, none⟩ 1 1 [.int .i32 n] (by rfl) (by rfl) (news_one n) (ints_oneCell .i32 [(n : Int)]) Nat.zero_lt_one q1 q2 (Nat.zero_le _) (w1.heap.size + 1) (by simp) ?_; intro g cap w2 hown1 hgrow hat hlt2; have hm2 : MapIs w2 db N f := MapIs.kept HMa.out hgrow (fun hx => (HNB.out _ hx.symm).2 rfl); have hup2 := (HU.out w2 hm2).1; have hc72 : w2.cell? ⟨cb, 7, none⟩ = some (.map (some db)) := (hgrow.cell_far _ (by simp; omega) (fun hx => (HNB.out _ hx.symm).1 rfl)).trans (cell_later hb1.drew c7); have hc7u : (updW Try.prog w2 db t (.slice (some ⟨g, 0, none⟩) ((dirtyAt dm t).length + 1) cap)).cell? ⟨cb, 7, none⟩ = some (.map (some db)) := (World.cell?_of_block ((upd_run hm2 HT.out qN _).2.2.block cb (World.block_lt_of_cell? w2 _ hc72) (fun hx => HCD.out (Option.some.inj hx)))).trans hc72))
    all_goals
      have hloc : (Value.slice (some ⟨g, 0, none⟩) ((dirtyAt dm t).length + 1) cap).ownBlock = ((f t).getD (.slice none 0 0)).ownBlock ∨ (Value.slice (some ⟨g, 0, none⟩) ((dirtyAt dm t).length + 1) cap).ownBlock = some (w1.alloc (.cells #[.int .i32 n] 21)).drew.heap.size := by
        rw [HUU.out]
        rcases hat with e | e
        · exact Or.inl e.symm
        · exact Or.inr (by rw [e]; simp [Value.ownBlock])
      have hg0 : (w1.alloc (.cells #[.int .i32 n] 21)).drew.grownBy w2 ((f t).getD (.slice none 0 0)).ownBlock := by rw [HUU.out]; exact hgrow
      have RU := upd_run hm2 HT.out qN (.slice (some ⟨g, 0, none⟩) ((dirtyAt dm t).length + 1) cap)
      have R := ClsV.appD HV.out HF1.out hb1.drew hg0 hown1 hloc RU.2.2 RU.2.1
      have hF2 : ∀ k, (updW Try.prog w2 db t (.slice (some ⟨g, 0, none⟩) ((dirtyAt dm t).length + 1) cap)).heap.size ≤ k → F k := fun k hk => HF1.out k (Nat.le_trans R.2.size hk)
      have hK3 := KeepF.trans HK2.out R.2
      have hfin : ∀ w', RdP F cb (lim + 1 + 1) ends out' (stepI (out' 3) items reads item t) (stepR (out' 3) items reads item t) (dirtyAdd dm t n) w0 w' → RdQ F cb (lim + 2) ends out items reads dm item t n (opc kd tx it so hs) w0 w' := fun w' hp => ⟨out', Or.inl ⟨HD.out, HREL.out⟩, by rw [if_pos ⟨HD.out, HOZ.out⟩]; exact hp⟩
      have HFIN : Hid _ := hfin
      have HVV : Hid _ := R.1
      have HK3 : Hid _ := hK3
      have HF2 : Hid _ := hF2
      clear hfin hK3 hF2 R RU hg0 hloc hup2 hc72 hc7u hlkd hlka hm2 hown1 hgrow hat
      go_wp2_with fail
      refine wp_mono ?_ (QR_mono HFIN.out)
      exact rd4 _ _ _ _ _ _ _ _ _ _ _ _ _ _ _ _ _ _ _ _ _ _ _ _ _ _ _ _ _ _ _ _ _ _ _ _ _ _ _ _ _ _ _ _ _ _ _ _ _ _ _ _ _ _ _ _ _ _ _ _ _ _ _ _ _ _ _ _ _ _ _ _ _ _ _ _ _ _ _ _ _ _ _ _ _ _ _ _ _ _ _ _ _ _ _ _ _ _ _ _ _ _ _ _ _ _ _ _ _ _ HVV.out HF2.out (by omega) hit hrl HK3.out

end Go.Proofs.Qxb6625890a
