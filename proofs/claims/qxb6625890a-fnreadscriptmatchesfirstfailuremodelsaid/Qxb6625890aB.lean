/-
  Seat b6625890a: the classifier in memory ('ClsV'), and how it stands behind writes elsewhere.
-/
import Derived.Test.Qxb6625890aA
namespace Go.Proofs.Qxb6625890a
open Go.RowKit Go.Maps
set_option linter.unusedVariables false

abbrev OpC := Nat × List Value
def optr (o : Option OpC) : Value := .pointer (o.map (fun p => ⟨p.1, 0, none⟩))
def cbCells (tb : Nat) (out : Nat → Option OpC) (vi vr : Value) (db : Nat) : Array Value :=
  #[.pointer (some ⟨tb, 0, none⟩), optr (out 0), optr (out 1), optr (out 2), optr (out 3), vi, vr, .map (some db)]
def setOut (out : Nat → Option OpC) (k : Nat) (x : Option OpC) : Nat → Option OpC := fun j => if j = k then x else out j
theorem cb_at (tb : Nat) (out : Nat → Option OpC) (vi vr : Value) (db k : Nat) (hk : k < 4) : (cbCells tb out vi vr db)[1 + k]? = some (optr (out k)) := by
  match k, hk with
  | 0, _ => rfl
  | 1, _ => rfl
  | 2, _ => rfl
  | 3, _ => rfl
theorem cb_set (tb : Nat) (out : Nat → Option OpC) (vi vr : Value) (db k : Nat) (hk : k < 4) (x : Option OpC) : (cbCells tb out vi vr db).setIfInBounds (1 + k) (optr x) = cbCells tb (setOut out k x) vi vr db := by
  match k, hk with
  | 0, _ => rfl
  | 1, _ => rfl
  | 2, _ => rfl
  | 3, _ => rfl
def ints (zs : List Int) : List Value := zs.map (Value.int .i32)

structure ClsV (w : World) (F : Nat → Prop) (cb tb db mi N lim : Nat) (vi vr vt : Value) (f : Int → Option Value) (ends : List Int) (out : Nat → Option OpC) (items reads : List (Int × Int)) (dm : Int → Option (List Int)) : Prop where
  blk : w.heap[cb]? = some (.cells (cbCells tb out vi vr db) 75 (0, 0))
  tbl : w.heap[tb]? = some (.cells #[vt, .map (some mi), .int .i32 0, .bool false, .bool false] 84 (0, 0))
  txn : ∃ xs, w.ownsRow 0 86 2 vt ends.length xs ∧ ∀ i, i < ends.length → xs[i * 2 + 1]? = some (.int .u8 (ends.getD i 0))
  its : w.ownsRow 0 80 2 vi items.length (flat items)
  rds : w.ownsRow 0 78 2 vr reads.length (flat reads)
  map : MapIs w db N f
  grp : ∀ k v, f k = some v → ∃ zs, dm k = some zs ∧ w.ownsRow 0 21 1 v zs.length (ints zs) ∧ zs.length ≤ lim
  non : ∀ k, f k = none → dm k = none
  dis : ∀ k1 k2 v1 v2, k1 ≠ k2 → f k1 = some v1 → f k2 = some v2 → v1.ownBlock = none ∨ v1.ownBlock ≠ v2.ownBlock
  ops : ∀ k b cs, out k = some (b, cs) → w.heap[b]? = some (.cells cs.toArray 45 (0, 0))
  fcb : F cb
  fdb : F db
  fvi : ∀ g, vi.ownBlock = some g → F g
  fvr : ∀ g, vr.ownBlock = some g → F g
  fgr : ∀ k v g, f k = some v → v.ownBlock = some g → F g
  li : items.length ≤ lim
  lr : reads.length ≤ lim
  ln : N ≤ lim

/-! ### What stands behind a write to a block of another kind -/
theorem blk_kept {w w' : World} {row : Option Nat} {b : Nat} {c : Array Value} {e : TypeId} {fr : Nat × Nat} (hg : w.grownBy w' row) (hb : w.heap[b]? = some (.cells c e fr)) (hne : some b ≠ row) : w'.heap[b]? = some (.cells c e fr) :=
  (hg.block b (Array.getElem?_eq_some_iff.1 hb).1 hne).trans hb
theorem ne_of_tag {w : World} {b g : Nat} {c c' : Array Value} {e e' : TypeId} {fr fr' : Nat × Nat} (hb : w.heap[b]? = some (.cells c e fr)) (hg : w.heap[g]? = some (.cells c' e' fr')) (hne : e ≠ e') : b ≠ g := by
  intro h
  subst h
  rw [hb] at hg
  simp at hg
  exact hne hg.2.1
theorem ne_of_map {w : World} {b g : Nat} {c : Array Value} {e : TypeId} {fr : Nat × Nat} {es : Array MapEntry} {cl : Nat} (hb : w.heap[b]? = some (.cells c e fr)) (hg : w.heap[g]? = some (.map es cl)) : b ≠ g := by
  intro h
  subst h
  rw [hb] at hg
  simp at hg
theorem row_tag {w : World} {base : Nat} {e : TypeId} {size : Nat} {v : Value} {n : Nat} {xs : List Value} (h : w.ownsRow base e size v n xs) : ∀ g, v.ownBlock = some g → ∃ cur, w.heap[g]? = some (.cells cur e (0, 0)) := by
  intro g hg
  rcases h.2 with ⟨rfl, _⟩ | ⟨g', cap, cur, rfl, _, hh, _⟩
  · simp [Value.ownBlock] at hg
  · simp [Value.ownBlock] at hg
    subst hg
    exact ⟨cur, hh⟩
theorem row_kept {w w' : World} {base : Nat} {e : TypeId} {size : Nat} {v : Value} {n : Nat} {xs : List Value} {row : Option Nat} (h : w.ownsRow base e size v n xs) (hg : w.grownBy w' row) (hne : ∀ g, v.ownBlock = some g → some g ≠ row) : w'.ownsRow base e size v n xs := by
  refine h.kept hg ?_
  cases hv : v.ownBlock with
  | none => exact Or.inl rfl
  | some k => exact Or.inr (hne k hv)

/-- Nothing of the classifier's is written. -/
theorem ClsV.grown {w w' : World} {F : Nat → Prop} {cb tb db mi N lim : Nat} {vi vr vt : Value} {f : Int → Option Value} {ends : List Int} {out : Nat → Option OpC} {items reads : List (Int × Int)} {dm : Int → Option (List Int)}
    (h : ClsV w F cb tb db mi N lim vi vr vt f ends out items reads dm) (hb : Below w.heap.size w w') : ClsV w' F cb tb db mi N lim vi vr vt f ends out items reads dm := by
  have hg := grown_of_below hb
  obtain ⟨xs, ht, hx⟩ := h.txn
  refine ⟨blk_kept hg h.blk (by simp), blk_kept hg h.tbl (by simp), ⟨xs, row_below ht hb, hx⟩, row_below h.its hb, row_below h.rds hb, h.map.kept hg (by simp), ?_, h.non, h.dis, ?_, h.fcb, h.fdb, h.fvi, h.fvr, h.fgr, h.li, h.lr, h.ln⟩
  · intro k v hv
    obtain ⟨zs, h1, h2, h3⟩ := h.grp k v hv
    exact ⟨zs, h1, row_below h2 hb, h3⟩
  · intro k b cs ho
    exact blk_kept hg (h.ops k b cs ho) (by simp)
/-- Another F. -/
theorem ClsV.reF {w : World} {F F' : Nat → Prop} {cb tb db mi N lim : Nat} {vi vr vt : Value} {f : Int → Option Value} {ends : List Int} {out : Nat → Option OpC} {items reads : List (Int × Int)} {dm : Int → Option (List Int)}
    (h : ClsV w F cb tb db mi N lim vi vr vt f ends out items reads dm) (hF : ∀ g, g < w.heap.size → F g → F' g) : ClsV w F' cb tb db mi N lim vi vr vt f ends out items reads dm := by
  refine { h with fcb := hF _ (Array.getElem?_eq_some_iff.1 h.blk).1 h.fcb, fdb := ?_, fvi := fun g hg => hF g (h.its.lt g hg).2 (h.fvi g hg), fvr := fun g hg => hF g (h.rds.lt g hg).2 (h.fvr g hg), fgr := ?_ }
  · obtain ⟨es, cl, hm⟩ := h.map.isMap
    exact hF _ (Array.getElem?_eq_some_iff.1 hm).1 h.fdb
  · intro k v g hv hg
    obtain ⟨zs, _, h2, _⟩ := h.grp k v hv
    exact hF g (h2.lt g hg).2 (h.fgr k v g hv hg)
/-- A greater bound. -/
theorem ClsV.wide {w : World} {F : Nat → Prop} {cb tb db mi N lim lim' : Nat} {vi vr vt : Value} {f : Int → Option Value} {ends : List Int} {out : Nat → Option OpC} {items reads : List (Int × Int)} {dm : Int → Option (List Int)}
    (h : ClsV w F cb tb db mi N lim vi vr vt f ends out items reads dm) (hl : lim ≤ lim') : ClsV w F cb tb db mi N lim' vi vr vt f ends out items reads dm := by
  refine { h with grp := ?_, li := Nat.le_trans h.li hl, lr := Nat.le_trans h.lr hl, ln := Nat.le_trans h.ln hl }
  intro k v hv
  obtain ⟨zs, h1, h2, h3⟩ := h.grp k v hv
  exact ⟨zs, h1, h2, Nat.le_trans h3 hl⟩

/-- The classifier's own block is written: its pointers, its two slices. -/
theorem ClsV.setCb {w w' : World} {F : Nat → Prop} {cb tb db mi N lim : Nat} {vi vr vt : Value} {f : Int → Option Value} {ends : List Int} {out out' : Nat → Option OpC} {items reads : List (Int × Int)} {dm : Int → Option (List Int)}
    (h : ClsV w F cb tb db mi N lim vi vr vt f ends out items reads dm) (hg : w.grownBy w' (some cb)) (hb : w'.heap[cb]? = some (.cells (cbCells tb out' vi vr db) 75 (0, 0)))
    (ho : ∀ k b cs, out' k = some (b, cs) → w.heap[b]? = some (.cells cs.toArray 45 (0, 0))) : ClsV w' F cb tb db mi N lim vi vr vt f ends out' items reads dm := by
  obtain ⟨xs, ht, hx⟩ := h.txn
  have tg : ∀ {v : Value} {e : TypeId} {size n : Nat} {ys : List Value}, w.ownsRow 0 e size v n ys → e ≠ 75 → w'.ownsRow 0 e size v n ys := by
    intro v e size n ys hr hne
    refine row_kept hr hg (fun g hv => ?_)
    obtain ⟨cur, hc⟩ := row_tag hr g hv
    simpa using ne_of_tag hc h.blk hne
  obtain ⟨es, cl, hm⟩ := h.map.isMap
  refine ⟨hb, blk_kept hg h.tbl (by simpa using ne_of_tag h.tbl h.blk (by decide)), ⟨xs, tg ht (by decide), hx⟩, tg h.its (by decide), tg h.rds (by decide), h.map.kept hg (by simpa using (ne_of_map h.blk hm).symm), ?_, h.non, h.dis, ?_, h.fcb, h.fdb, h.fvi, h.fvr, h.fgr, h.li, h.lr, h.ln⟩
  · intro k v hv
    obtain ⟨zs, h1, h2, h3⟩ := h.grp k v hv
    exact ⟨zs, h1, tg h2 (by decide), h3⟩
  · intro k b cs hk
    exact blk_kept hg (ho k b cs hk) (by simpa using ne_of_tag (ho k b cs hk) h.blk (by decide))

structure KeepF (F : Nat → Prop) (w w' : World) : Prop where
  os : w'.os = w.os
  tape : w'.tape = w.tape
  output : w'.output = w.output
  size : w.heap.size ≤ w'.heap.size
  block : ∀ k, k < w.heap.size → ¬ F k → w'.heap[k]? = w.heap[k]?
theorem KeepF.of_below {F : Nat → Prop} {w w' : World} (h : Below w.heap.size w w') : KeepF F w w' := ⟨h.os, h.tape, h.output, h.size, fun k hk _ => h.block k hk⟩
theorem KeepF.refl (F : Nat → Prop) (w : World) : KeepF F w w := ⟨rfl, rfl, rfl, Nat.le_refl _, fun _ _ _ => rfl⟩
theorem KeepF.trans {F : Nat → Prop} {a b c : World} (h : KeepF F a b) (k : KeepF F b c) : KeepF F a c :=
  ⟨k.os.trans h.os, k.tape.trans h.tape, k.output.trans h.output, Nat.le_trans h.size k.size, fun i hi hn => (k.block i (Nat.lt_of_lt_of_le hi h.size) hn).trans (h.block i hi hn)⟩
theorem KeepF.of_grown {F : Nat → Prop} {w w' : World} {row : Option Nat} (h : w.grownBy w' row) (hF : ∀ g, row = some g → F g) : KeepF F w w' :=
  ⟨h.os, h.tape, h.output, h.size, fun k hk hn => h.block k hk (fun e => hn (hF k e.symm))⟩
theorem KeepF.below {F : Nat → Prop} {w w' : World} {B : Nat} (h : KeepF F w w') (hB : ∀ k, k < B → ¬ F k) (hs : B ≤ w.heap.size) : Below B w w' := ⟨h.os, h.tape, h.output, h.size, fun k hk => h.block k (Nat.lt_of_lt_of_le hk hs) (hB k hk)⟩

theorem cell_blk {w : World} {g j : Nat} {cs : Array Value} {t : TypeId} {fr : Nat × Nat} {v : Value} (h : w.heap[g]? = some (.cells cs t fr)) (hv : cs[j]? = some v) : w.cell? ⟨g, j, none⟩ = some v := (cell_of_row w g j cs t fr h).trans hv

end Go.Proofs.Qxb6625890a
