/-
  Seat b6625890a: what is written of a classifier: its slices; grow, ZZaddItem, ZZaddRead.
-/
import Derived.Test.Qxb6625890aC
namespace Go.Proofs.Qxb6625890a
open Go.RowKit Go.Maps
set_option linter.unusedVariables false

/-- Of what was there only blocks of the kinds 75, 80, 78 have turned. -/
structure Only (w w' : World) : Prop where
  os : w'.os = w.os
  tape : w'.tape = w.tape
  output : w'.output = w.output
  size : w.heap.size ≤ w'.heap.size
  cells : ∀ (b : Nat) (c : Array Value) (e : TypeId) (fr : Nat × Nat), w.heap[b]? = some (.cells c e fr) → e ≠ 75 → e ≠ 80 → e ≠ 78 → w'.heap[b]? = some (.cells c e fr)
  maps : ∀ (b : Nat) (es : Array MapEntry) (cl : Nat), w.heap[b]? = some (.map es cl) → w'.heap[b]? = some (.map es cl)
theorem Only.of_below {w w' : World} (h : Below w.heap.size w w') : Only w w' :=
  ⟨h.os, h.tape, h.output, h.size, fun b c e fr hb _ _ _ => (h.block b (Array.getElem?_eq_some_iff.1 hb).1).trans hb, fun b es cl hb => (h.block b (Array.getElem?_eq_some_iff.1 hb).1).trans hb⟩
theorem Only.trans {a b c : World} (h : Only a b) (k : Only b c) : Only a c :=
  ⟨k.os.trans h.os, k.tape.trans h.tape, k.output.trans h.output, Nat.le_trans h.size k.size, fun x cs e fr hb n1 n2 n3 => k.cells x cs e fr (h.cells x cs e fr hb n1 n2 n3) n1 n2 n3, fun x es cl hb => k.maps x es cl (h.maps x es cl hb)⟩
theorem Only.of_grown {w w' : World} {row : Option Nat} (h : w.grownBy w' row) (hr : ∀ g, row = some g → ∃ c e fr, w.heap[g]? = some (.cells c e fr) ∧ (e = 75 ∨ e = 80 ∨ e = 78)) : Only w w' := by
  refine ⟨h.os, h.tape, h.output, h.size, fun b c e fr hb n1 n2 n3 => blk_kept h hb (fun hx => ?_), fun b es cl hb => (h.block b (Array.getElem?_eq_some_iff.1 hb).1 (fun hx => ?_)).trans hb⟩
  · obtain ⟨c', e', fr', hg, he⟩ := hr b hx.symm
    rw [hb] at hg
    simp at hg
    obtain ⟨_, rfl, _⟩ := hg
    rcases he with h1 | h1 | h1
    · exact n1 h1
    · exact n2 h1
    · exact n3 h1
  · obtain ⟨c', e', fr', hg, he⟩ := hr b hx.symm
    rw [hb] at hg
    simp at hg
theorem Only.row {w w' : World} {base : Nat} {e : TypeId} {size : Nat} {v : Value} {n : Nat} {xs : List Value} (h : Only w w') (hr : w.ownsRow base e size v n xs) (n1 : e ≠ 75) (n2 : e ≠ 80) (n3 : e ≠ 78) : w'.ownsRow base e size v n xs := by
  refine ⟨hr.1, ?_⟩
  rcases hr.2 with h' | ⟨g, cap, cur, h1, h2, hh, h3⟩
  · exact Or.inl h'
  · exact Or.inr ⟨g, cap, cur, h1, h2, h.cells g cur e _ hh n1 n2 n3, h3⟩
theorem grown_setCell {w : World} (g j : Nat) (v : Value) : w.grownBy (w.setCell ⟨g, j, none⟩ v) (some g) :=
  ⟨rfl, rfl, rfl, by simp, fun k _ hk => Below.heap_setCell w ⟨g, j, none⟩ v k (fun e => hk (by rw [e]))⟩

section
variable {w w' : World} {F : Nat → Prop} {cb tb db mi N lim lim' : Nat} {vi vr vt vi' vr' : Value} {f : Int → Option Value} {ends : List Int} {out out' : Nat → Option OpC} {items reads items' reads' : List (Int × Int)} {dm : Int → Option (List Int)}

theorem ClsV.rebuild (h : ClsV w F cb tb db mi N lim vi vr vt f ends out items reads dm) (hO : Only w w') (hl : lim ≤ lim')
    (hblk : w'.heap[cb]? = some (.cells (cbCells tb out' vi' vr' db) 75 (0, 0))) (hits : w'.ownsRow 0 80 2 vi' items'.length (flat items')) (hrds : w'.ownsRow 0 78 2 vr' reads'.length (flat reads'))
    (hops : ∀ k b cs, out' k = some (b, cs) → w'.heap[b]? = some (.cells cs.toArray 45 (0, 0)))
    (fvi : ∀ g, vi'.ownBlock = some g → F g) (fvr : ∀ g, vr'.ownBlock = some g → F g) (li : items'.length ≤ lim') (lr : reads'.length ≤ lim') : ClsV w' F cb tb db mi N lim' vi' vr' vt f ends out' items' reads' dm := by
  obtain ⟨xs, ht, hx⟩ := h.txn
  refine ⟨hblk, hO.cells _ _ _ _ h.tbl (by decide) (by decide) (by decide), ⟨xs, hO.row ht (by decide) (by decide) (by decide), hx⟩, hits, hrds, ?_, ?_, h.non, h.dis, hops, h.fcb, h.fdb, fvi, fvr, h.fgr, li, lr, Nat.le_trans h.ln hl⟩
  · obtain ⟨es, cl, hm⟩ := h.map.isMap
    exact h.map.of_block ((hO.maps db es cl hm).trans hm.symm)
  · intro k v hv
    obtain ⟨zs, h1, h2, h3⟩ := h.grp k v hv
    exact ⟨zs, h1, hO.row h2 (by decide) (by decide) (by decide), Nat.le_trans h3 hl⟩

/-- The items' slice, pushed. -/
theorem ClsV.pushIts {w1 w2 : World} {p : Int × Int} {v' : Value} (h : ClsV w F cb tb db mi N lim vi vr vt f ends out items reads dm) (h1 : Below w.heap.size w w1) (hg : w1.grownBy w2 vi.ownBlock)
    (ho : w2.ownsRow 0 80 2 v' (items.length + 1) (flat items ++ [.int .i32 p.1, .int .i32 p.2])) (hloc : v'.ownBlock = vi.ownBlock ∨ v'.ownBlock = some w1.heap.size) (hF : ∀ k, w.heap.size ≤ k → F k) :
    ClsV (w2.setCell ⟨cb, 5, none⟩ v') F cb tb db mi N (lim + 1) v' vr vt f ends out (items ++ [p]) reads dm ∧ KeepF F w (w2.setCell ⟨cb, 5, none⟩ v') := by
  have h2 := h.grown h1
  have hO1 : Only w1 w2 := Only.of_grown hg (fun g hx => by obtain ⟨cur, hc⟩ := row_tag h2.its g hx; exact ⟨cur, 80, _, hc, Or.inr (Or.inl rfl)⟩)
  have hb2 : w2.heap[cb]? = some (.cells (cbCells tb out vi vr db) 75 (0, 0)) := blk_kept hg h2.blk (fun hx => by
    obtain ⟨cur, hc⟩ := row_tag h2.its cb hx.symm
    exact ne_of_tag h2.blk hc (by decide) rfl)
  have hr2 : w2.ownsRow 0 78 2 vr reads.length (flat reads) := row_kept h2.rds hg (fun g hx hy => by
    obtain ⟨c1, t1⟩ := row_tag h2.rds g hx
    obtain ⟨c2, t2⟩ := row_tag h2.its g hy.symm
    exact ne_of_tag t1 t2 (by decide) rfl)
  have hs := grown_setCell (w := w2) cb 5 v'
  have tg : ∀ {v : Value} {e : TypeId} {size n : Nat} {ys : List Value}, w2.ownsRow 0 e size v n ys → e ≠ 75 → (w2.setCell ⟨cb, 5, none⟩ v').ownsRow 0 e size v n ys := by
    intro v e size n ys hr hne
    refine row_kept hr hs (fun g hv => ?_)
    obtain ⟨cur, hc⟩ := row_tag hr g hv
    simpa using ne_of_tag hc hb2 hne
  have hO2 : Only w2 (w2.setCell ⟨cb, 5, none⟩ v') := Only.of_grown hs (fun g hx => by cases hx; exact ⟨_, 75, _, hb2, Or.inl rfl⟩)
  refine ⟨h2.rebuild (hO1.trans hO2) (Nat.le_succ _) ?_ ?_ (tg hr2 (by decide)) ?_ ?_ h2.fvr (by have := h.li; simp; omega) (by have := h.lr; omega), ?_⟩
  · have := blk_set (i := 5) v' hb2
    exact this
  · rw [flat_append]
    have := tg ho (by decide)
    simpa [flat] using this
  · intro k b cs hk
    exact (hO1.trans hO2).cells _ _ _ _ (h2.ops k b cs hk) (by decide) (by decide) (by decide)
  · intro g hx
    rcases hloc with e | e
    · exact h.fvi g (by rw [← e]; exact hx)
    · rw [e] at hx; cases hx; exact hF _ h1.size
  · exact ((KeepF.of_below h1).trans (KeepF.of_grown hg (fun g hx => h.fvi g hx))).trans (KeepF.of_grown hs (fun g hx => by cases hx; exact h.fcb))

/-- The reads' slice, pushed. -/
theorem ClsV.pushRds {w1 w2 : World} {p : Int × Int} {v' : Value} (h : ClsV w F cb tb db mi N lim vi vr vt f ends out items reads dm) (h1 : Below w.heap.size w w1) (hg : w1.grownBy w2 vr.ownBlock)
    (ho : w2.ownsRow 0 78 2 v' (reads.length + 1) (flat reads ++ [.int .i32 p.1, .int .i32 p.2])) (hloc : v'.ownBlock = vr.ownBlock ∨ v'.ownBlock = some w1.heap.size) (hF : ∀ k, w.heap.size ≤ k → F k) :
    ClsV (w2.setCell ⟨cb, 6, none⟩ v') F cb tb db mi N (lim + 1) vi v' vt f ends out items (reads ++ [p]) dm ∧ KeepF F w (w2.setCell ⟨cb, 6, none⟩ v') := by
  have h2 := h.grown h1
  have hO1 : Only w1 w2 := Only.of_grown hg (fun g hx => by obtain ⟨cur, hc⟩ := row_tag h2.rds g hx; exact ⟨cur, 78, _, hc, Or.inr (Or.inr rfl)⟩)
  have hb2 : w2.heap[cb]? = some (.cells (cbCells tb out vi vr db) 75 (0, 0)) := blk_kept hg h2.blk (fun hx => by
    obtain ⟨cur, hc⟩ := row_tag h2.rds cb hx.symm
    exact ne_of_tag h2.blk hc (by decide) rfl)
  have hr2 : w2.ownsRow 0 80 2 vi items.length (flat items) := row_kept h2.its hg (fun g hx hy => by
    obtain ⟨c1, t1⟩ := row_tag h2.its g hx
    obtain ⟨c2, t2⟩ := row_tag h2.rds g hy.symm
    exact ne_of_tag t1 t2 (by decide) rfl)
  have hs := grown_setCell (w := w2) cb 6 v'
  have tg : ∀ {v : Value} {e : TypeId} {size n : Nat} {ys : List Value}, w2.ownsRow 0 e size v n ys → e ≠ 75 → (w2.setCell ⟨cb, 6, none⟩ v').ownsRow 0 e size v n ys := by
    intro v e size n ys hr hne
    refine row_kept hr hs (fun g hv => ?_)
    obtain ⟨cur, hc⟩ := row_tag hr g hv
    simpa using ne_of_tag hc hb2 hne
  have hO2 : Only w2 (w2.setCell ⟨cb, 6, none⟩ v') := Only.of_grown hs (fun g hx => by cases hx; exact ⟨_, 75, _, hb2, Or.inl rfl⟩)
  refine ⟨h2.rebuild (hO1.trans hO2) (Nat.le_succ _) ?_ (tg hr2 (by decide)) ?_ ?_ h2.fvi ?_ (by have := h.li; omega) (by have := h.lr; simp; omega), ?_⟩
  · have := blk_set (i := 6) v' hb2
    exact this
  · rw [flat_append]
    have := tg ho (by decide)
    simpa [flat] using this
  · intro k b cs hk
    exact (hO1.trans hO2).cells _ _ _ _ (h2.ops k b cs hk) (by decide) (by decide) (by decide)
  · intro g hx
    rcases hloc with e | e
    · exact h.fvr g (by rw [← e]; exact hx)
    · rw [e] at hx; cases hx; exact hF _ h1.size
  · exact ((KeepF.of_below h1).trans (KeepF.of_grown hg (fun g hx => h.fvr g hx))).trans (KeepF.of_grown hs (fun g hx => by cases hx; exact h.fcb))

/-- A lastRead is set. -/
theorem ClsV.setLast {g cp i : Nat} {x : Int} (h : ClsV w F cb tb db mi N lim (.slice (some ⟨g, 0, none⟩) items.length cp) vr vt f ends out items reads dm) (hi : i < items.length) :
    ClsV (w.setCell ⟨g, i * 2 + 1, none⟩ (.int .i32 x)) F cb tb db mi N lim (.slice (some ⟨g, 0, none⟩) items.length cp) vr vt f ends out (items.set i ((items.getD i (0, 0)).1, x)) reads dm ∧ KeepF F w (w.setCell ⟨g, i * 2 + 1, none⟩ (.int .i32 x)) := by
  have hs := grown_setCell (w := w) g (i * 2 + 1) (.int .i32 x)
  obtain ⟨cur, hc⟩ := row_tag h.its g rfl
  have hO : Only w (w.setCell ⟨g, i * 2 + 1, none⟩ (.int .i32 x)) := Only.of_grown hs (fun g' hx => by cases hx; exact ⟨_, 80, _, hc, Or.inr (Or.inl rfl)⟩)
  have hst := (h.its.stored (i * 2 + 1) (.int .i32 x)).1
  rw [flat_set items i x hi] at hst
  refine ⟨h.rebuild hO (Nat.le_refl _) (blk_kept hs h.blk (by simpa using ne_of_tag h.blk hc (by decide))) (by simpa using hst) (row_kept h.rds hs (fun g' hx => ?_)) (fun k b cs hk => hO.cells _ _ _ _ (h.ops k b cs hk) (by decide) (by decide) (by decide)) h.fvi h.fvr (by simpa using h.li) h.lr, KeepF.of_grown hs (fun g' hx => by cases hx; exact h.fvi g rfl)⟩
  obtain ⟨c1, t1⟩ := row_tag h.rds g' hx
  simpa using ne_of_tag t1 hc (by decide)

theorem push_cb {w1 w2 : World} {c : Array Value} {e : TypeId} {v : Value} {n : Nat} {xs : List Value} (hb : w1.heap[cb]? = some (.cells c 75 (0, 0))) (hr : w1.ownsRow 0 e 2 v n xs) (hg : w1.grownBy w2 v.ownBlock) (hne : (75 : Nat) ≠ e) : w2.heap[cb]? = some (.cells c 75 (0, 0)) :=
  blk_kept hg hb (fun hx => by
    obtain ⟨cur, hc⟩ := row_tag hr cb hx.symm
    exact ne_of_tag hb hc hne rfl)
theorem ne75_80 : (75 : Nat) ≠ 80 := by decide
theorem ne75_78 : (75 : Nat) ≠ 78 := by decide
theorem pair_oneCell (a b : Int) : ∀ u ∈ [Value.int .i32 a, .int .i32 b], u.oneCell' = true := by
  intro u hu
  simp at hu
  rcases hu with rfl | rfl <;> rfl

/-- ZZaddItem. -/
theorem addItem_any (h : ClsV w F cb tb db mi N lim vi vr vt f ends out items reads dm) (hF : ∀ k, w.heap.size ≤ k → F k) (hl : lim ≤ 8000000) (a b : Int) :
    Calls Try.prog 25 #[.pointer (some ⟨cb, 0, none⟩), .int .i32 a, .int .i32 b] w fun e w' => e = .returned (.tuple #[]) ∧ (∃ v', ClsV w' F cb tb db mi N (lim + 1) v' vr vt f ends out (items ++ [(a, b)]) reads dm) ∧ KeepF F w w' := by
  obtain ⟨i0, hi, hz0, hz1, hz2⟩ := info_parts Try.info80
  have hc := h.c5
  have hli := h.li
  obtain ⟨o, cp, hv⟩ := row_shape h.its
  subst hv
  have hlt : cb < w.heap.size := (Array.getElem?_eq_some_iff.1 h.blk).1
  have hb1 : Below w.heap.size w (w.alloc (.cells #[.int .i32 a, .int .i32 b] 80)) := (Below.refl _ _).alloc (Nat.le_refl _) _
  have h1 := h.grown hb1
  have q1 : items.length + 1 ≤ maxLen := by unfold maxLen; omega
  have q2 : (items.length + 1) * 8 ≤ 140737488355328 := by omega
  have HC : Hid _ := h
  have H1 : Hid _ := h1
  clear h h1
  go_enter Try.func25, Try.ntmps25
  go_wp2_with (at_builtin; go_must (refine wpList_append_own_at _ rfl _ _ 71 rfl 0 80 i0 (.agg #[.int .i32 0, .int .i32 0]) 2 8 Try.underlying71 hi hz0 hz1 hz2 rfl Nat.zero_lt_two (.slice o items.length cp) items.length (flat items) rfl H1.out.its ⟨w.heap.size, 0, none⟩ 1 1 [.int .i32 a, .int .i32 b] rfl rfl (cell_two_new _ _ _ _) (pair_oneCell a b) q1 q2 (Nat.zero_le _) ?_; intro v' w2 hown' hgrow hnil hloc; have hcb := push_cb H1.out.blk H1.out.its hgrow ne75_80; have k5 : w2.cell? ⟨cb, 5, none⟩ = some _ := cell_blk hcb rfl; have f5 := frozen_of_row w2 cb 5 _ _ hcb; obtain ⟨o', cp', hv'⟩ := row_shape hown'; subst hv'))
  go_end0
  have R := HC.out.pushIts (p := (a, b)) hb1 hgrow hown' hloc hF
  exact ⟨rfl, ⟨_, R.1⟩, R.2⟩

end
end Go.Proofs.Qxb6625890a
