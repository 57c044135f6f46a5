/-
  Seat b6626314a: a history in memory; zzBuild.
-/
import Derived.Test.Qxb6626314aN
namespace Go.Proofs.Qxb6626314a
open Go.RowKit Go.Maps Go.Sort
set_option linter.unusedVariables false
/-! ### A history in memory -/
def hCells (va : Value) (be bt bi : Nat) : Array Value := #[va, .map (some be), .map (some bt), .map (some bi)]
structure HV (B gh : Nat) (va : Value) (be bt bi : Nat) (L : List Ac) (ne nt m : Nat) (fe ft : Int → Option Value) (w : World) : Prop where
  blk : w.heap[gh]? = some (.cells (hCells va be bt bi) 63 (0, 0))
  row : w.ownsRow B 67 3 va L.length (flatA L)
  en : MapIs w be ne fe
  tx : MapIs w bt nt ft
  it : ItIs w bi m
  et : be ≠ bt
  ei : be ≠ bi
  ti : bt ≠ bi
  lh : B ≤ gh
  le : B ≤ be
  lt : B ≤ bt
  li : B ≤ bi
theorem ne_of_map' {w : World} {b g : Nat} {c : Array Value} {e : TypeId} {fr : Nat × Nat} {es : Array MapEntry} {cl : Nat} (hg : w.heap[g]? = some (.map es cl)) (hb : w.heap[b]? = some (.cells c e fr)) : g ≠ b := Ne.symm (ne_of_map hb hg)
variable {B gh be bt bi ne nt m : Nat} {va : Value} {L : List Ac} {fe ft : Int → Option Value} {w w' : World}
theorem HV.below (h : HV B gh va be bt bi L ne nt m fe ft w) (hb : Below w.heap.size w w') : HV B gh va be bt bi L ne nt m fe ft w' :=
  ⟨blk_below hb h.blk, row_below h.row hb, h.en.kept (grown_of_below hb) (by simp), h.tx.kept (grown_of_below hb) (by simp), h.it.kept (grown_of_below hb) (by simp), h.et, h.ei, h.ti, h.lh, h.le, h.lt, h.li⟩
theorem below_grown {B : Nat} {w w' : World} {g : Nat} (hs : B ≤ w.heap.size) (hg : w.grownBy w' (some g)) (hl : B ≤ g) : Below B w w' :=
  ⟨hg.os, hg.tape, hg.output, hg.size, fun k hk => hg.block k (by omega) (by simp; omega)⟩
theorem HV.size (h : HV B gh va be bt bi L ne nt m fe ft w) : B ≤ w.heap.size := Nat.le_trans h.lh (Nat.le_of_lt (Array.getElem?_eq_some_iff.1 h.blk).1)
/-- Only a map has turned. -/
theorem HV.mapped (h : HV B gh va be bt bi L ne nt m fe ft w) {b : Nat} (hb : ∃ es cl, w.heap[b]? = some (.map es cl)) (hg : w.grownBy w' (some b)) :
    w'.heap[gh]? = some (.cells (hCells va be bt bi) 63 (0, 0)) ∧ w'.ownsRow B 67 3 va L.length (flatA L) := by
  obtain ⟨es, cl, hm⟩ := hb
  refine ⟨blk_kept hg h.blk (by simpa using ne_of_map h.blk hm), row_kept h.row hg (fun g hv => ?_)⟩
  obtain ⟨_, c, hc⟩ := row_tag h.row g hv
  simpa using ne_of_map hc hm
theorem grown_setCell {w : World} (g j : Nat) (v : Value) : w.grownBy (w.setCell ⟨g, j, none⟩ v) (some g) :=
  ⟨rfl, rfl, rfl, by simp, fun k _ hk => Below.heap_setCell w ⟨g, j, none⟩ v k (fun e => hk (by rw [e]))⟩
def R64 (x : Int) : Prop := (Lit.int .i64 x).wf = true
theorem HV.setTx (h : HV B gh va be bt bi L ne nt m fe ft w) (hg : w.grownBy w' (some bt)) {f' : Int → Option Value} (hm : MapIs w' bt (nt + 1) f') : HV B gh va be bt bi L ne (nt + 1) m fe f' w' :=
  ⟨(h.mapped h.tx.isMap hg).1, (h.mapped h.tx.isMap hg).2, h.en.kept hg (by simpa using h.et), hm, h.it.kept hg (by simpa using Ne.symm h.ti), h.et, h.ei, h.ti, h.lh, h.le, h.lt, h.li⟩
theorem HV.setEn (h : HV B gh va be bt bi L ne nt m fe ft w) (hg : w.grownBy w' (some be)) {f' : Int → Option Value} (hm : MapIs w' be (ne + 1) f') : HV B gh va be bt bi L (ne + 1) nt m f' ft w' :=
  ⟨(h.mapped h.en.isMap hg).1, (h.mapped h.en.isMap hg).2, hm, h.tx.kept hg (by simpa using Ne.symm h.et), h.it.kept hg (by simpa using Ne.symm h.ei), h.et, h.ei, h.ti, h.lh, h.le, h.lt, h.li⟩
theorem HV.setIt (h : HV B gh va be bt bi L ne nt m fe ft w) (hg : w.grownBy w' (some bi)) (hm : ItIs w' bi (m + 1)) : HV B gh va be bt bi L ne nt (m + 1) fe ft w' :=
  ⟨(h.mapped h.it.isMap hg).1, (h.mapped h.it.isMap hg).2, h.en.kept hg (by simpa using h.ei), h.tx.kept hg (by simpa using h.ti), hm, h.et, h.ei, h.ti, h.lh, h.le, h.lt, h.li⟩
theorem HV.c (h : HV B gh va be bt bi L ne nt m fe ft w) (j : Nat) (v : Value) (hj : (hCells va be bt bi)[j]? = some v) : w.cell? ⟨gh, j, none⟩ = some v := cell_blk h.blk hj

set_option maxRecDepth 100000 in
theorem newHist (w : World) : Calls Try.prog 22 #[] w fun e w' => ∃ gh be bt bi, e = .returned (.pointer (some ⟨gh, 0, none⟩)) ∧ HV w.heap.size gh (.slice none 0 0) be bt bi [] 0 0 0 (fun _ => none) (fun _ => none) w' ∧ Below w.heap.size w w' := by
  have hmm := @run_makeMap Try.prog
  go_enter Try.func22, Try.ntmps22
  go_wp2_with fail
  go_ret
  obtain ⟨w1, hw1⟩ : ∃ w1, w1 = w.alloc (.map #[] 0) := ⟨_, rfl⟩
  obtain ⟨w2, hw2⟩ : ∃ w2, w2 = w1.alloc (.map #[] 0) := ⟨_, rfl⟩
  obtain ⟨w3, hw3⟩ : ∃ w3, w3 = w2.alloc (.map #[] 0) := ⟨_, rfl⟩
  have s1 : w1.heap.size = w.heap.size + 1 := by rw [hw1]; simp
  have s2 : w2.heap.size = w.heap.size + 2 := by rw [hw2]; simp [s1]
  have s3 : w3.heap.size = w.heap.size + 3 := by rw [hw3]; simp [s2]
  obtain ⟨w4, hw4⟩ : ∃ w4, w4 = w3.alloc (.cells (hCells (.slice none 0 0) w.heap.size w1.heap.size w2.heap.size) 63) := ⟨_, rfl⟩
  have b1 : Below w.heap.size w w1 := by rw [hw1]; exact (Below.refl _ _).alloc (Nat.le_refl _) _
  have b2 : Below w1.heap.size w1 w2 := by rw [hw2]; exact (Below.refl _ _).alloc (Nat.le_refl _) _
  have b3 : Below w2.heap.size w2 w3 := by rw [hw3]; exact (Below.refl _ _).alloc (Nat.le_refl _) _
  have b4 : Below w3.heap.size w3 w4 := by rw [hw4]; exact (Below.refl _ _).alloc (Nat.le_refl _) _
  have m1 : MapIs w1 w.heap.size 0 (fun _ => none) := by rw [hw1]; exact MapIs.made w
  have m2 : MapIs w2 w1.heap.size 0 (fun _ => none) := by rw [hw2]; exact MapIs.made w1
  have m3 : ItIs w3 w2.heap.size 0 := by rw [hw3]; exact ItIs.made w2
  have h4 : w4.heap[w3.heap.size]? = some (.cells (hCells (.slice none 0 0) w.heap.size w1.heap.size w2.heap.size) 63 (0, 0)) := by rw [hw4]; exact heap_alloc_new w3 _
  have hF : HV w.heap.size w3.heap.size (.slice none 0 0) w.heap.size w1.heap.size w2.heap.size [] 0 0 0 (fun _ => none) (fun _ => none) w4 :=
    ⟨h4, World.ownsRow_nil _ _ _ _, ((m1.kept (grown_of_below b2) (by simp)).kept (grown_of_below b3) (by simp)).kept (grown_of_below b4) (by simp), (m2.kept (grown_of_below b3) (by simp)).kept (grown_of_below b4) (by simp), m3.kept (grown_of_below b4) (by simp), by omega, by omega, by omega, by omega, by omega, by omega, by omega⟩
  have hB : Below w.heap.size w w4 := ((b1.trans (b2.mono (by omega))).trans (b3.mono (by omega))).trans (b4.mono (by omega))
  rw [s3, s2, s1] at hF
  have e4 : (((w.alloc (.map #[] 0)).alloc (.map #[] 0)).alloc (.map #[] 0)).alloc (.cells #[.slice none 0 0, .map (some w.heap.size), .map (some (w.heap.size + 1)), .map (some (w.heap.size + 1 + 1))] 63) = w4 := by
    rw [hw4, hw3, s2, s1]
    simp [hCells, hw2, hw1]
  exact ⟨_, w.heap.size, w.heap.size + 1, w.heap.size + 2, rfl, by rw [e4]; exact hF, by rw [e4]; exact hB⟩
set_option maxRecDepth 100000 in
theorem setTx_any (h : HV B gh va be bt bi L ne nt m fe ft w) (t : Int) (ht : R64 t) (hn : nt < 100000) : Calls Try.prog 25 #[.pointer (some ⟨gh, 0, none⟩), .int .i64 t] w fun e w' => e = .returned (.tuple #[]) ∧ HV B gh va be bt bi L ne (nt + 1) m fe (putAt ft t (.bool true)) w' ∧ Below B w w' ∧ w.grownBy w' (some bt) := by
  obtain ⟨w1, hrun, hm, hg⟩ := h.tx.store Try.underlying60 ht (by unfold maxLen; omega) (.bool true)
  have c2 := h.c 2 (.map (some bt)) rfl
  have HR : Hid (HV B gh va be bt bi L ne (nt + 1) m fe (putAt ft t (.bool true)) w1 ∧ Below B w w1 ∧ w.grownBy w1 (some bt)) := ⟨h.setTx hg hm, below_grown h.size hg h.lt, hg⟩
  clear h hm hg
  go_enter Try.func25, Try.ntmps25
  go_wp2_with fail
  go_end0
  exact ⟨rfl, HR.out⟩
set_option maxRecDepth 100000 in
theorem setEn_any (h : HV B gh va be bt bi L ne nt m fe ft w) (t k : Int) (ht : R64 t) (hn : ne < 100000) : Calls Try.prog 27 #[.pointer (some ⟨gh, 0, none⟩), .int .i64 t, .int .u8 k] w fun e w' => e = .returned (.tuple #[]) ∧ HV B gh va be bt bi L (ne + 1) nt m (putAt fe t (.int .u8 k)) ft w' ∧ Below B w w' := by
  obtain ⟨w1, hrun, hm, hg⟩ := h.en.store Try.underlying59 ht (by unfold maxLen; omega) (.int .u8 k)
  have c2 := h.c 1 (.map (some be)) rfl
  have HR : Hid (HV B gh va be bt bi L (ne + 1) nt m (putAt fe t (.int .u8 k)) ft w1 ∧ Below B w w1) := ⟨h.setEn hg hm, below_grown h.size hg h.le⟩
  clear h hm hg
  go_enter Try.func27, Try.ntmps27
  go_wp2_with fail
  go_end0
  exact ⟨rfl, HR.out⟩
set_option maxRecDepth 100000 in
theorem setIt_any (h : HV B gh va be bt bi L ne nt m fe ft w) (s : ByteArray) (i : Int) (hs : decS s = m) (hsz : s.size ≤ 100) (hn : m < 100000) : Calls Try.prog 23 #[.pointer (some ⟨gh, 0, none⟩), .string s, .int .i32 i] w fun e w' => e = .returned (.tuple #[]) ∧ HV B gh va be bt bi L ne nt (m + 1) fe ft w' ∧ Below B w w' := by
  obtain ⟨w1, hrun, hm, hg⟩ := h.it.store hs hsz (by unfold maxLen; omega) (.int .i32 i)
  have c2 := h.c 3 (.map (some bi)) rfl
  have HR : Hid (HV B gh va be bt bi L ne nt (m + 1) fe ft w1 ∧ Below B w w1) := ⟨h.setIt hg hm, below_grown h.size hg h.li⟩
  clear h hm hg
  go_enter Try.func23, Try.ntmps23
  go_wp2_with fail
  go_end0
  exact ⟨rfl, HR.out⟩
theorem Try.info67 : (Try.prog.info? 67).map (fun i => (i.zero, i.size, i.bytes)) = some (some (.agg #[.int .i64 0, .int .i32 0, .bool false]), 3, 16) := by kernel_rfl
theorem acell_oneCell (a : Ac) : ∀ u ∈ acell a, u.oneCell' = true := by
  intro u hu
  simp [acell] at hu
  rcases hu with rfl | rfl | rfl <;> rfl
theorem HV.push (h : HV B gh va be bt bi L ne nt m fe ft w) {w1 w2 : World} {v' : Value} (a : Ac) (hb : Below w.heap.size w w1) (ho : w2.ownsRow B 67 3 v' (L.length + 1) (flatA L ++ acell a)) (hg : w1.grownBy w2 va.ownBlock) (hloc : v'.ownBlock = va.ownBlock ∨ v'.ownBlock = some w1.heap.size) :
    HV B gh v' be bt bi (L ++ [a]) ne nt m fe ft (w2.setCell ⟨gh, 0, none⟩ v') ∧ Below B w (w2.setCell ⟨gh, 0, none⟩ v') := by
  have h1 := h.below hb
  have nb : ∀ {b : Nat}, (∃ es cl, w1.heap[b]? = some (.map es cl)) → some b ≠ va.ownBlock := by
    rintro b ⟨es, cl, hm⟩ e
    obtain ⟨_, c, hc⟩ := row_tag h1.row b e.symm
    rw [hm] at hc; simp at hc
  have hgh : some gh ≠ va.ownBlock := fun e => by
    obtain ⟨_, c, hc⟩ := row_tag h1.row gh e.symm
    rw [h1.blk] at hc; simp at hc
  have hblk2 := blk_kept hg h1.blk hgh
  have hs := grown_setCell (w := w2) gh 0 v'
  have kk : ∀ {b : Nat}, (∃ es cl, w1.heap[b]? = some (.map es cl)) → b ≠ gh := by
    rintro b ⟨es, cl, hm⟩ e
    rw [e, h1.blk] at hm; simp at hm
  have lgh : B ≤ gh := h.lh
  refine ⟨⟨blk_set (i := 0) v' hblk2, ?_, (h1.en.kept hg (nb h1.en.isMap)).kept hs (by simpa using kk h1.en.isMap), (h1.tx.kept hg (nb h1.tx.isMap)).kept hs (by simpa using kk h1.tx.isMap), (h1.it.kept hg (nb h1.it.isMap)).kept hs (by simpa using kk h1.it.isMap), h.et, h.ei, h.ti, h.lh, h.le, h.lt, h.li⟩, ?_⟩
  · have : flatA (L ++ [a]) = flatA L ++ acell a := by simp [flatA]
    rw [this, List.length_append]
    refine row_kept ho hs (fun g hv => ?_)
    obtain ⟨_, c, hc⟩ := row_tag ho g hv
    simpa using ne_of_tag hc hblk2 (by decide)
  · have hB1 : Below B w w1 := hb.mono h.size
    have hB2 : Below B w1 w2 := ⟨hg.os, hg.tape, hg.output, hg.size, fun k hk => hg.block k (Nat.lt_of_lt_of_le hk h1.size) (fun e => by
      have := (row_tag h1.row k e.symm).1; omega)⟩
    exact (hB1.trans hB2).setCell lgh _
set_option maxRecDepth 100000 in
theorem addAcc_any (h : HV B gh va be bt bi L ne nt m fe ft w) (a : Ac) (hn : L.length < 100000) : Calls Try.prog 26 #[.pointer (some ⟨gh, 0, none⟩), .int .i64 a.tx, .int .i32 a.item, .bool a.wr] w fun e w' => e = .returned (.tuple #[]) ∧ (∃ va', HV B gh va' be bt bi (L ++ [a]) ne nt m fe ft w') ∧ Below B w w' := by
  obtain ⟨i0, hi, hz0, hz1, hz2⟩ := info_parts Try.info67
  have hc := h.c 0 va rfl
  obtain ⟨o, cp, hv⟩ := row_shape h.row
  subst hv
  have hb1 : Below w.heap.size w (w.alloc (.cells (acell a).toArray 67)) := (Below.refl _ _).alloc (Nat.le_refl _) _
  have h1 := h.below hb1
  have q1 : L.length + 1 ≤ maxLen := by unfold maxLen; omega
  have q2 : (L.length + 1) * 16 ≤ 140737488355328 := by omega
  have HC : Hid _ := h
  have H1 : Hid _ := h1
  have hsz := h1.size
  clear h h1
  go_enter Try.func26, Try.ntmps26
  go_wp2_with (at_builtin; go_must (refine wpList_append_own_at _ rfl _ _ 58 rfl B 67 i0 (.agg #[.int .i64 0, .int .i32 0, .bool false]) 3 16 Try.underlying58 hi hz0 hz1 hz2 rfl (by decide) (.slice o L.length cp) L.length (flatA L) rfl H1.out.row ⟨w.heap.size, 0, none⟩ 1 1 (acell a) rfl rfl (fun j u hj => by rw [add_eq, Nat.zero_add]; exact cell_blk (heap_alloc_new w _) (by simpa [acell] using hj)) (acell_oneCell a) q1 q2 hsz ?_; intro v' w2 hown' hgrow hnil hloc; have hb2 := blk_kept hgrow H1.out.blk (fun e => by obtain ⟨_, c, hc⟩ := row_tag H1.out.row gh e.symm; have := H1.out.blk; rw [this] at hc; simp at hc); have k5 : w2.cell? ⟨gh, 0, none⟩ = some _ := cell_blk hb2 rfl; have f5 := frz_blk hb2 0; obtain ⟨o', cp', hv'⟩ := row_shape hown'; subst hv'))
  go_end0
  have R := HC.out.push a hb1 hown' hgrow hloc
  exact ⟨rfl, ⟨_, R.1⟩, R.2⟩

/-! ### zzBuild -/
def txF (T : List Int) (A : List Ac) (X : List Int) : Int → Option Value := fun k => if k ∈ T ∨ k ∈ A.map Ac.tx ∨ k ∈ X then some (.bool true) else none
def enF (X : List Int) : Int → Option Value := fun k => if k ∈ X then some (.int .u8 65) else none
theorem txF_T (T : List Int) (q : Nat) (hq : q < T.length) : putAt (txF (T.take q) [] []) (T.getD q 0) (.bool true) = txF (T.take (q + 1)) [] [] := by
  funext k
  have : T.take (q + 1) = T.take q ++ [T.getD q 0] := by rw [List.take_add_one]; simp [hq]
  simp only [putAt, txF, this, List.mem_append, List.mem_singleton]
  generalize T.getD q 0 = x
  by_cases e : k = x <;> simp [e]
theorem txF_A (T : List Int) (A : List Ac) (q : Nat) (hq : q < A.length) : putAt (txF T (A.take q) []) (A.getD q a0).tx (.bool true) = txF T (A.take (q + 1)) [] := by
  funext k
  have : A.take (q + 1) = A.take q ++ [A.getD q a0] := by rw [List.take_add_one]; simp [hq]
  simp only [putAt, txF, this, List.map_append, List.mem_append, List.map_cons, List.map_nil, List.mem_singleton]
  generalize (A.getD q a0).tx = x
  by_cases e : k = x <;> simp [e]
theorem txF_X (T : List Int) (A : List Ac) (X : List Int) (q : Nat) (hq : q < X.length) : putAt (txF T A (X.take q)) (X.getD q 0) (.bool true) = txF T A (X.take (q + 1)) := by
  funext k
  have : X.take (q + 1) = X.take q ++ [X.getD q 0] := by rw [List.take_add_one]; simp [hq]
  simp only [putAt, txF, this, List.mem_append, List.mem_singleton]
  generalize X.getD q 0 = x
  by_cases e : k = x <;> simp [e]
theorem enF_X (X : List Int) (q : Nat) (hq : q < X.length) : putAt (enF (X.take q)) (X.getD q 0) (.int .u8 65) = enF (X.take (q + 1)) := by
  funext k
  have : X.take (q + 1) = X.take q ++ [X.getD q 0] := by rw [List.take_add_one]; simp [hq]
  simp only [putAt, enF, this, List.mem_append, List.mem_singleton]
  generalize X.getD q 0 = x
  by_cases e : k = x <;> simp [e]
theorem take_A (A : List Ac) (q : Nat) (hq : q < A.length) : A.take q ++ [A.getD q a0] = A.take (q + 1) := by rw [List.take_add_one]; simp [hq]
/-- What zzBuild answers. -/
def BuildP (A : List Ac) (T X : List Int) (m : Nat) (w : World) (e : Ending) (w' : World) : Prop :=
  ∃ gh be bt bi va, e = .returned (.pointer (some ⟨gh, 0, none⟩)) ∧ HV w.heap.size gh va be bt bi A X.length (T.length + A.length + X.length) m (enF X) (txF T A X) w' ∧ Below w.heap.size w w'
set_option maxRecDepth 100000 in
set_option maxHeartbeats 4000000 in
theorem build_any (oa ot ox : Option Addr) (ca ct cx : Nat) (A : List Ac) (T X : List Int) (m : Nat) (w : World) (hA : Sl w oa (flatA A)) (hT : Sl w ot (int64s T)) (hX : Sl w ox (int64s X)) (lA : A.length ≤ 4096) (lT : T.length ≤ 4096) (lX : X.length ≤ 4096) (hm : m ≤ 4096)
    (rA : ∀ k, k < A.length → R64 (A.getD k a0).tx) (rT : ∀ k, k < T.length → R64 (T.getD k 0)) (rX : ∀ k, k < X.length → R64 (X.getD k 0)) :
    Calls Try.prog 7 #[.slice oa A.length ca, .slice ot T.length ct, .slice ox X.length cx, .int .i32 m] w (BuildP A T X m w) := by
  have HA : Hid (Sl w oa (flatA A)) := hA
  have HT : Hid (Sl w ot (int64s T)) := hT
  have HX : Hid (Sl w ox (int64s X)) := hX
  have HRA : Hid (∀ k, k < A.length → R64 (A.getD k a0).tx) := rA
  have HRT : Hid (∀ k, k < T.length → R64 (T.getD k 0)) := rT
  have HRX : Hid (∀ k, k < X.length → R64 (X.getD k 0)) := rX
  clear hA hT hX rA rT rX
  have HC : Hid _ := newHist w
  go_enter Try.func7, Try.ntmps7
  go_wp2_with fail
  refine Calls.mono HC.out ?_
  rintro e w1 ⟨gh, be, bt, bi, rfl, h1, b1⟩
  have H1 : Hid (HV w.heap.size gh (.slice none 0 0) be bt bi [] 0 0 0 (fun _ => none) (fun _ => none) w1 ∧ Below w.heap.size w w1) := ⟨h1, b1⟩
  clear HC h1 b1
  go_wp2_with fail
  go_loopw [10] (fun vi wr => ∃ i : Nat, vi = .int .i32 i ∧ i ≤ m ∧ Hid (HV w.heap.size gh (.slice none 0 0) be bt bi [] 0 0 i (fun _ => none) (fun _ => none) wr ∧ Below w.heap.size w wr)) (fun vi _ => m - (intOf vi).toNat)
  case atStart => exact ⟨0, rfl, by omega, H1⟩
  case round =>
    clear H1
    obtain ⟨i, rfl, hi, HO⟩ := hrel
    by_cases hlt : i < m
    · have hlt' : (i : Int) < (m : Int) := by omega
      have HI : Hid _ := itoa_any i wr (by omega)
      go_wp2_with fail
      refine Calls.mono HI.out ?_
      rintro e w2 ⟨s, rfl, hs, hsz, b2⟩
      have h2 := HO.out.1.below b2
      have HS : Hid _ := setIt_any h2 s i hs hsz (by omega)
      have HB2 : Hid (Below w.heap.size w w2) := HO.out.2.trans (b2.mono HO.out.2.size)
      clear HI b2 h2 HO
      go_wp2_with fail
      refine Calls.mono HS.out ?_
      rintro e w3 ⟨rfl, h3, b3⟩
      have H3 : Hid (HV w.heap.size gh (.slice none 0 0) be bt bi [] 0 0 (i + 1) (fun _ => none) (fun _ => none) w3 ∧ Below w.heap.size w w3) := ⟨h3, HB2.out.trans b3⟩
      clear h3 b3 HS HB2
      go_wp2_with fail
      go_roundw
      case rel => exact ⟨i + 1, by go_num, by omega, H3⟩
      case measure => simp [intOf]; omega
    · have e1 : i = m := by omega
      subst e1
      have H4 : Hid (HV w.heap.size gh (.slice none 0 0) be bt bi [] 0 0 i (fun _ => none) (txF (T.take 0) [] []) wr ∧ Below w.heap.size w wr) := by
        have : txF (T.take 0) [] [] = fun _ => none := by funext k; simp [txF]
        rw [this]; exact HO.out
      clear HO
      go_wp2_with fail
      go_loopw [30] (fun vi wr => ∃ q : Nat, vi = .int .i64 q ∧ q ≤ T.length ∧ Hid (HV w.heap.size gh (.slice none 0 0) be bt bi [] 0 q i (fun _ => none) (txF (T.take q) [] []) wr ∧ Below w.heap.size w wr)) (fun vi _ => T.length - (intOf vi).toNat)
      case atStart => exact ⟨0, rfl, by omega, H4⟩
      case round =>
        clear H4
        obtain ⟨q, rfl, hq, HO⟩ := hrel
        by_cases hlt : q < T.length
        · have hlt' : (q : Int) < (T.length : Int) := by omega
          obtain ⟨b, off, rfl, c0⟩ := i64_cell (HT.out.below (HO.out.2.mono (Nat.le_refl _))) hlt
          have HS : Hid _ := setTx_any HO.out.1 (T.getD q 0) (HRT.out q hlt) (by omega)
          rw [txF_T T q hlt] at HS
          generalize T.getD q 0 = tq at c0 HS
          go_wp2_with fail
          refine Calls.mono HS.out ?_
          rintro e w3 ⟨rfl, h3, b3, g3⟩
          have H3 : Hid (HV w.heap.size gh (.slice none 0 0) be bt bi [] 0 (q + 1) i (fun _ => none) (txF (T.take (q + 1)) [] []) w3 ∧ Below w.heap.size w w3) := ⟨h3, HO.out.2.trans b3⟩
          clear h3 b3 g3 HS HO c0
          go_wp2_with fail
          go_roundw
          case rel => exact ⟨q + 1, by go_num, by omega, H3⟩
          case measure => simp [intOf]; omega
        · have e1 : q = T.length := by omega
          have H4 : Hid (∃ va, HV w.heap.size gh va be bt bi (A.take 0) 0 (T.length + 0) i (fun _ => none) (txF T (A.take 0) []) wr ∧ Below w.heap.size w wr) := by
            have := HO.out
            rw [e1, List.take_length] at this
            exact ⟨_, this⟩
          clear HO
          subst e1
          go_wp2_with fail
          go_loopw [40] (fun vi wr => ∃ q : Nat, vi = .int .i64 q ∧ q ≤ A.length ∧ Hid (∃ va, HV w.heap.size gh va be bt bi (A.take q) 0 (T.length + q) i (fun _ => none) (txF T (A.take q) []) wr ∧ Below w.heap.size w wr)) (fun vi _ => A.length - (intOf vi).toNat)
          case atStart => exact ⟨0, rfl, by omega, H4⟩
          case round =>
            clear H4
            obtain ⟨q2, rfl, hq2, HO⟩ := hrel
            by_cases hlt2 : q2 < A.length
            · have hlt' : (q2 : Int) < (A.length : Int) := by omega
              obtain ⟨va, hV, hBl⟩ := HO.out
              obtain ⟨b, off, rfl, c0, c1, c2⟩ := acc_cell (HA.out.below (hBl.mono (Nat.le_refl _))) hlt2
              have HRq := HRA.out q2 hlt2
              have hTx := txF_A T A q2 hlt2
              have hTk := take_A A q2 hlt2
              generalize hgd : A.getD q2 a0 = gd at c0 c1 c2 HRq hTx hTk
              obtain ⟨w2, hw2⟩ : ∃ w2, w2 = wr.alloc (.cells #[.int .i64 gd.tx, .int .i32 gd.item, .bool gd.wr] 37) := ⟨_, rfl⟩
              have hb2 : Below wr.heap.size wr w2 := by rw [hw2]; exact (Below.refl _ _).alloc (Nat.le_refl _) _
              have h2 : w2.heap[wr.heap.size]? = some (.cells #[.int .i64 gd.tx, .int .i32 gd.item, .bool gd.wr] 37 (0, 0)) := by rw [hw2]; exact heap_alloc_new wr _
              have k0 : w2.cell? ⟨wr.heap.size, 0, none⟩ = some (.int .i64 gd.tx) := cell_blk h2 rfl
              have HS : Hid _ := setTx_any (hV.below hb2) gd.tx HRq (by omega)
              rw [hTx] at HS
              have HB2 : Hid (Below w.heap.size w w2 ∧ w2.heap[wr.heap.size]? = some (.cells #[.int .i64 gd.tx, .int .i32 gd.item, .bool gd.wr] 37 (0, 0))) := ⟨hBl.trans (hb2.mono hBl.size), h2⟩
              have HT2 : Hid (A.take q2 ++ [gd] = A.take (q2 + 1)) := hTk
              have HW2 : Hid _ := hw2
              have HV2 : Hid (HV w.heap.size gh va be bt bi (A.take q2) 0 (T.length + q2) i (fun _ => none) (txF T (A.take q2) []) wr) := hV
              have hlen : (A.take q2).length < 100000 := by simp; omega
              clear hb2 h2 hgd hw2 hTx hTk HRq HO hV hBl
              go_upto_region 14 with fail
              rw [← HW2.out]
              clear HW2 c0 c1 c2
              go_wp2_with fail
              refine Calls.mono HS.out ?_
              rintro e w3 ⟨rfl, h3, b3, g3⟩
              have h4 : w3.heap[wr.heap.size]? = some (.cells #[.int .i64 gd.tx, .int .i32 gd.item, .bool gd.wr] 37 (0, 0)) := by
                exact blk_kept g3 HB2.out.2 (by
                  obtain ⟨es, cl, hm⟩ := HV2.out.tx.isMap
                  have : bt < wr.heap.size := (Array.getElem?_eq_some_iff.1 hm).1
                  simp; omega)
              have k0 : w3.cell? ⟨wr.heap.size, 0, none⟩ = some (.int .i64 gd.tx) := cell_blk h4 rfl
              have k1 : w3.cell? ⟨wr.heap.size, 1, none⟩ = some (.int .i32 gd.item) := cell_blk h4 rfl
              have k2 : w3.cell? ⟨wr.heap.size, 2, none⟩ = some (.bool gd.wr) := cell_blk h4 rfl
              have HS4 : Hid _ := addAcc_any h3 gd hlen
              rw [HT2.out] at HS4
              have HB3 : Hid (Below w.heap.size w w3) := HB2.out.1.trans b3
              clear h3 b3 g3 HS h4
              go_wp2_with fail
              refine Calls.mono HS4.out ?_
              rintro e w4 ⟨rfl, ⟨va4, h5⟩, b5⟩
              have H3 : Hid (∃ va, HV w.heap.size gh va be bt bi (A.take (q2 + 1)) 0 (T.length + (q2 + 1)) i (fun _ => none) (txF T (A.take (q2 + 1)) []) w4 ∧ Below w.heap.size w w4) := ⟨va4, h5, HB3.out.trans b5⟩
              clear h5 b5 HS4 k0 k1 k2
              go_wp2_with fail
              go_roundw
              case rel => exact ⟨q2 + 1, by go_num, by omega, H3⟩
              case measure => simp [intOf]; omega
            · have e2 : q2 = A.length := by omega
              obtain ⟨va, hV, hBl⟩ := HO.out
              have H4 : Hid (HV w.heap.size gh va be bt bi A 0 (T.length + A.length + 0) i (enF (X.take 0)) (txF T A (X.take 0)) wr ∧ Below w.heap.size w wr) := by
                rw [e2, List.take_length] at hV
                have : enF (X.take 0) = fun _ => none := by funext k; simp [enF]
                rw [this]
                exact ⟨hV, hBl⟩
              clear HO hV hBl
              subst e2
              go_wp2_with fail
              go_loopw [59] (fun vi wr => ∃ q : Nat, vi = .int .i64 q ∧ q ≤ X.length ∧ Hid (HV w.heap.size gh va be bt bi A q (T.length + A.length + q) i (enF (X.take q)) (txF T A (X.take q)) wr ∧ Below w.heap.size w wr)) (fun vi _ => X.length - (intOf vi).toNat)
              case atStart => exact ⟨0, rfl, by omega, H4⟩
              case round =>
                clear H4
                obtain ⟨q3, rfl, hq3, HO⟩ := hrel
                by_cases hlt3 : q3 < X.length
                · have hlt' : (q3 : Int) < (X.length : Int) := by omega
                  obtain ⟨b, off, rfl, c0⟩ := i64_cell (HX.out.below (HO.out.2.mono (Nat.le_refl _))) hlt3
                  have HS : Hid _ := setTx_any HO.out.1 (X.getD q3 0) (HRX.out q3 hlt3) (by omega)
                  rw [txF_X T A X q3 hlt3] at HS
                  have HR3 : Hid (R64 (X.getD q3 0)) := HRX.out q3 hlt3
                  have HE3 : Hid _ := enF_X X q3 hlt3
                  generalize X.getD q3 0 = tq at c0 HS HR3 HE3
                  go_wp2_with fail
                  refine Calls.mono HS.out ?_
                  rintro e w3 ⟨rfl, h3, b3, g3⟩
                  have HS4 : Hid _ := setEn_any h3 tq 65 HR3.out (by omega)
                  rw [HE3.out] at HS4
                  have HB3 : Hid (Below w.heap.size w w3) := HO.out.2.trans b3
                  clear h3 b3 g3 HS c0
                  go_wp2_with fail
                  refine Calls.mono HS4.out ?_
                  rintro e w4 ⟨rfl, h5, b5⟩
                  have H3 : Hid (HV w.heap.size gh va be bt bi A (q3 + 1) (T.length + A.length + (q3 + 1)) i (enF (X.take (q3 + 1))) (txF T A (X.take (q3 + 1))) w4 ∧ Below w.heap.size w w4) := ⟨h5, HB3.out.trans b5⟩
                  clear h5 b5 HS4 HO
                  go_wp2_with fail
                  go_roundw
                  case rel => exact ⟨q3 + 1, by go_num, by omega, H3⟩
                  case measure => simp [intOf]; omega
                · have e3 : q3 = X.length := by omega
                  have H4 : Hid (HV w.heap.size gh va be bt bi A X.length (T.length + A.length + X.length) i (enF X) (txF T A X) wr ∧ Below w.heap.size w wr) := by
                    have := HO.out
                    rw [e3, List.take_length] at this
                    exact this
                  clear HO
                  subst e3
                  go_wp2_with fail
                  go_ret
                  exact ⟨gh, be, bt, bi, va, rfl, H4.out.1, H4.out.2⟩
end Go.Proofs.Qxb6626314a
