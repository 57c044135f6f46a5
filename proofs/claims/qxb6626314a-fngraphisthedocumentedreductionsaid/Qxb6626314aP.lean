/-
  Seat b6626314a: the graph in memory; tables of rows.
-/
import Derived.Test.Qxb6626314aO
namespace Go.Proofs.Qxb6626314a
open Go.RowKit Go.Maps Go.Sort
set_option linter.unusedVariables false

/-! ### The graph in memory -/
structure GB (B gp gg : Nat) (v1 v2 v3 : Value) (w : World) : Prop where
  p : w.heap[gp]? = some (.cells #[.pointer (some ⟨gg, 0, none⟩)] 29 (0, 0))
  g : w.heap[gg]? = some (.cells #[v1, v2, v3] 57 (0, 0))
  lp : B ≤ gp
  lg : B ≤ gg
theorem GB.below {B gp gg : Nat} {v1 v2 v3 : Value} {w w' : World} (h : GB B gp gg v1 v2 v3 w) (hb : Below w.heap.size w w') : GB B gp gg v1 v2 v3 w' := ⟨blk_below hb h.p, blk_below hb h.g, h.lp, h.lg⟩
theorem GB.kept {B gp gg : Nat} {v1 v2 v3 : Value} {w w' : World} {row : Option Nat} (h : GB B gp gg v1 v2 v3 w) (hg : w.grownBy w' row) (h1 : some gp ≠ row) (h2 : some gg ≠ row) : GB B gp gg v1 v2 v3 w' := ⟨blk_kept hg h.p h1, blk_kept hg h.g h2, h.lp, h.lg⟩
theorem GB.keptT {B gp gg : Nat} {v1 v2 v3 : Value} {w w' : World} {row : Option Nat} (h : GB B gp gg v1 v2 v3 w) (hg : w.grownBy w' row) (ht : ∀ g, row = some g → ∃ c e fr, w.heap[g]? = some (.cells c e fr) ∧ e ≠ 29 ∧ e ≠ 57) : GB B gp gg v1 v2 v3 w' :=
  h.kept hg (fun e => by obtain ⟨c, e', fr, hc, n1, n2⟩ := ht gp e.symm; exact ne_of_tag h.p hc (Ne.symm n1) rfl) (fun e => by obtain ⟨c, e', fr, hc, n1, n2⟩ := ht gg e.symm; exact ne_of_tag h.g hc (Ne.symm n2) rfl)
theorem GB.ne {B gp gg : Nat} {v1 v2 v3 : Value} {w : World} (h : GB B gp gg v1 v2 v3 w) : gp ≠ gg := ne_of_tag h.p h.g (by decide)
theorem GB.set {B gp gg : Nat} {v1 v2 v3 : Value} {w : World} (h : GB B gp gg v1 v2 v3 w) (j : Nat) (v : Value) : (w.setCell ⟨gg, j, none⟩ v).heap[gp]? = some (.cells #[.pointer (some ⟨gg, 0, none⟩)] 29 (0, 0)) ∧ (w.setCell ⟨gg, j, none⟩ v).heap[gg]? = some (.cells (#[v1, v2, v3].setIfInBounds j v) 57 (0, 0)) :=
  ⟨blk_kept (grown_setCell (w := w) gg j v) h.p (by simpa using h.ne), blk_set v h.g⟩
theorem GB.set0 {B gp gg : Nat} {v1 v2 v3 : Value} {w : World} (h : GB B gp gg v1 v2 v3 w) (v : Value) : GB B gp gg v v2 v3 (w.setCell ⟨gg, 0, none⟩ v) := ⟨(h.set 0 v).1, (h.set 0 v).2, h.lp, h.lg⟩
theorem GB.set1 {B gp gg : Nat} {v1 v2 v3 : Value} {w : World} (h : GB B gp gg v1 v2 v3 w) (v : Value) : GB B gp gg v1 v v3 (w.setCell ⟨gg, 1, none⟩ v) := ⟨(h.set 1 v).1, (h.set 1 v).2, h.lp, h.lg⟩
theorem GB.set2 {B gp gg : Nat} {v1 v2 v3 : Value} {w : World} (h : GB B gp gg v1 v2 v3 w) (v : Value) : GB B gp gg v1 v2 v (w.setCell ⟨gg, 2, none⟩ v) := ⟨(h.set 2 v).1, (h.set 2 v).2, h.lp, h.lg⟩
theorem GB.drew {B gp gg : Nat} {v1 v2 v3 : Value} {w : World} (h : GB B gp gg v1 v2 v3 w) : GB B gp gg v1 v2 v3 w.drew := ⟨h.p, h.g, h.lp, h.lg⟩
/-- The collected transactions, some of the map still to come. -/
structure Coll (X : List Int) (ft : Int → Option Value) (left : Lit → Bool) (l : List Int) : Prop where
  mem : ∀ k, k ∈ l ↔ (ft k).isSome = true ∧ left (.int .i64 k) = false ∧ k ∉ X
  nd : l.Nodup
theorem Coll.skip {X : List Int} {ft : Int → Option Value} {left : Lit → Bool} {l : List Int} (h : Coll X ft left l) {x : Int} (hx : x ∈ X) : Coll X ft (fun z => left z && !z.sameKey (.int .i64 x)) l := by
  refine ⟨fun k => ?_, h.nd⟩
  rw [h.mem k]
  by_cases e : k = x
  · subst e; simp [hx]
  · have : (Lit.int .i64 k).sameKey (.int .i64 x) = false := by simp [Lit.sameKey, e]
    simp [this]
theorem Coll.take {X : List Int} {ft : Int → Option Value} {left : Lit → Bool} {l : List Int} (h : Coll X ft left l) {x : Int} (hx : x ∉ X) (hl : left (.int .i64 x) = true) (hf : (ft x).isSome = true) : Coll X ft (fun z => left z && !z.sameKey (.int .i64 x)) (l ++ [x]) := by
  have hn : x ∉ l := fun hm => by have := ((h.mem x).1 hm).2.1; rw [hl] at this; cases this
  refine ⟨fun k => ?_, ?_⟩
  · rw [List.mem_append, h.mem k, List.mem_singleton]
    by_cases e : k = x
    · subst e
      have : (Lit.int .i64 k).sameKey (.int .i64 k) = true := by simp [Lit.sameKey]
      simp [this, hf, hx]
    · have : (Lit.int .i64 k).sameKey (.int .i64 x) = false := by simp [Lit.sameKey, e]
      simp [this, e]
  · rw [List.nodup_append]
    exact ⟨h.nd, by simp, fun a ha b hb => by simp at hb; subst hb; exact fun e => hn (e ▸ ha)⟩
theorem Coll.fin {X : List Int} {ft : Int → Option Value} {left : Lit → Bool} {l : List Int} (h : Coll X ft left l) (hl : ∀ kl, left kl = false) : l.Nodup ∧ ∀ k, k ∈ l ↔ (ft k).isSome = true ∧ k ∉ X :=
  ⟨h.nd, fun k => by rw [h.mem k]; simp [hl]⟩
theorem Coll.start {X : List Int} {ft : Int → Option Value} {left : Lit → Bool} (h : ∀ k, (ft k).isSome = true → left (.int .i64 k) = true) : Coll X ft left [] :=
  ⟨fun k => ⟨fun hm => absurd hm (by simp), fun hh => by have h2 := hh.2.1; rw [h k hh.1] at h2; cases h2⟩, List.nodup_nil⟩
def NP (K : Act → World → Prop) : Exit → Act → World → Prop
  | .normal, a, w => K a w
  | _, _, _ => False
theorem wp_shade2 {P : Program} {c : Code} {Q : Exit → Act → World → Prop} {a : Act} {w : World} (h : ∀ K : Act → World → Prop, (∀ a w, Q .normal a w → NP K .normal a w) → Code.wp P c (NP K) a w) : Code.wp P c Q a w :=
  Code.wp_mono (fun e a w hh => by cases e <;> first | exact hh | exact (hh : False).elim) (h (fun a w => Q .normal a w) (fun _ _ h => h))

/-! ### Tables of rows -/
def updV {α : Type} (V : Nat → α) (u : Nat) (v : α) : Nat → α := fun i => if i = u then v else V i
theorem updV_same {α : Type} (V : Nat → α) (u : Nat) (v : α) : updV V u v u = v := by simp [updV]
theorem updV_ne {α : Type} (V : Nat → α) {u i : Nat} (v : α) (h : i ≠ u) : updV V u v i = V i := by simp [updV, h]
structure RT (lo : Nat) (e sz tb : Nat) (Tt : TypeId) (n : Nat) (cnt : Nat → Nat) (rows : Nat → List Value) (V : Nat → Value) (w : World) : Prop where
  blk : w.heap[tb]? = some (.cells ((List.range n).map V).toArray Tt (0, 0))
  row : ∀ j, j < n → w.ownsRow lo e sz (V j) (cnt j) (rows j)
  apart : ∀ i j, i < n → j < n → i ≠ j → ∀ g, (V i).ownBlock = some g → (V j).ownBlock ≠ some g
  lt : lo ≤ tb
  ne : e ≠ Tt
section
variable {lo e sz tb n : Nat} {Tt : TypeId} {cnt : Nat → Nat} {rows : Nat → List Value} {V : Nat → Value} {w w' : World}
theorem RT.below (h : RT lo e sz tb Tt n cnt rows V w) (hb : Below w.heap.size w w') : RT lo e sz tb Tt n cnt rows V w' :=
  ⟨blk_below hb h.blk, fun j hj => row_below (h.row j hj) hb, h.apart, h.lt, h.ne⟩
theorem RT.kept {row : Option Nat} (h : RT lo e sz tb Tt n cnt rows V w) (hg : w.grownBy w' row) (h1 : some tb ≠ row) (h2 : ∀ j, j < n → ∀ g, (V j).ownBlock = some g → some g ≠ row) : RT lo e sz tb Tt n cnt rows V w' :=
  ⟨blk_kept hg h.blk h1, fun j hj => row_kept (h.row j hj) hg (h2 j hj), h.apart, h.lt, h.ne⟩
theorem RT.keptT {row : Option Nat} (h : RT lo e sz tb Tt n cnt rows V w) (hg : w.grownBy w' row) (ht : ∀ g, row = some g → ∃ c e' fr, w.heap[g]? = some (.cells c e' fr) ∧ e' ≠ Tt ∧ e' ≠ e) : RT lo e sz tb Tt n cnt rows V w' :=
  h.kept hg (fun x => by obtain ⟨c, e', fr, hc, n1, n2⟩ := ht tb x.symm; exact ne_of_tag h.blk hc (Ne.symm n1) rfl) (fun j hj g hv x => by
    obtain ⟨c, e', fr, hc, n1, n2⟩ := ht g x.symm
    obtain ⟨_, cur, hcur⟩ := row_tag (h.row j hj) g hv
    exact ne_of_tag hcur hc (Ne.symm n2) rfl)
theorem RT.cell (h : RT lo e sz tb Tt n cnt rows V w) {j : Nat} (hj : j < n) : w.cell? ⟨tb, j, none⟩ = some (V j) := cell_blk h.blk (by simp [hj])
theorem keepF_row {F : Nat → Prop} {w w' : World} {base : Nat} {e : TypeId} {size : Nat} {v : Value} {n : Nat} {xs : List Value} (h : w.ownsRow base e size v n xs) (hk : KeepF F w w') (hn : ∀ g, v.ownBlock = some g → ¬ F g) : w'.ownsRow base e size v n xs := by
  refine ⟨h.1, ?_⟩
  rcases h.2 with h' | ⟨g, cap, cur, e1, e2, h3, h4⟩
  · exact Or.inl h'
  · refine Or.inr ⟨g, cap, cur, e1, e2, (hk.block g (Array.getElem?_eq_some_iff.1 h3).1 (hn g (by rw [e1]; rfl))).trans h3, h4⟩
theorem range_map_set (V : Nat → Value) (n u : Nat) (v : Value) : ((List.range n).map V).toArray.setIfInBounds u v = ((List.range n).map (updV V u v)).toArray := by
  apply Array.ext_getElem?
  intro i
  rw [Array.getElem?_setIfInBounds]
  by_cases e : u = i
  · subst e
    by_cases hi : u < n <;> simp [hi, updV]
  · rw [if_neg e]
    by_cases hi : i < n <;> simp [hi, updV, Ne.symm e]
theorem RT.put (h : RT lo e sz tb Tt n cnt rows V w) {u : Nat} (hu : u < n) (hk : KeepF (fun k => (V u).ownBlock = some k) w w') {v' : Value} {c' : Nat} {xs' : List Value} (ho : w'.ownsRow lo e sz v' c' xs') (hloc : ∀ g, v'.ownBlock = some g → (V u).ownBlock = some g ∨ w.heap.size ≤ g) :
    RT lo e sz tb Tt n (updV cnt u c') (updV rows u xs') (updV V u v') (w'.setCell ⟨tb, u, none⟩ v') := by
  have htb : w'.heap[tb]? = some (.cells ((List.range n).map V).toArray Tt (0, 0)) := (hk.block tb (Array.getElem?_eq_some_iff.1 h.blk).1 (fun x => by
    obtain ⟨_, cur, hc⟩ := row_tag (h.row u hu) tb x
    exact ne_of_tag hc h.blk h.ne rfl)).trans h.blk
  have hs := grown_setCell (w := w') tb u v'
  have hoth : ∀ j, j < n → j ≠ u → w'.ownsRow lo e sz (V j) (cnt j) (rows j) := fun j hj hne => keepF_row (h.row j hj) hk (fun g hg x => h.apart j u hj hu hne g hg x)
  have tg : ∀ {v : Value} {c : Nat} {xs : List Value}, w'.ownsRow lo e sz v c xs → (w'.setCell ⟨tb, u, none⟩ v').ownsRow lo e sz v c xs := fun hr => row_kept hr hs (fun g hv => by
    obtain ⟨_, cur, hc⟩ := row_tag hr g hv
    simpa using ne_of_tag hc htb h.ne)
  refine ⟨?_, fun j hj => ?_, fun i j hi hj hne g hg => ?_, h.lt, h.ne⟩
  · rw [← range_map_set]; exact blk_set v' htb
  · by_cases x : j = u
    · subst x; rw [updV_same, updV_same, updV_same]; exact tg ho
    · rw [updV_ne _ _ x, updV_ne _ _ x, updV_ne _ _ x]; exact tg (hoth j hj x)
  · by_cases xi : i = u
    · subst xi
      have hj' : j ≠ i := Ne.symm hne
      rw [updV_same] at hg
      rw [updV_ne _ _ hj']
      rcases hloc g hg with a | a
      · exact h.apart i j hi hj hne g a
      · intro b
        obtain ⟨_, cur, hc⟩ := row_tag (h.row j hj) g b
        have := (Array.getElem?_eq_some_iff.1 hc).1
        omega
    · rw [updV_ne _ _ xi] at hg
      by_cases xj : j = u
      · subst xj
        rw [updV_same]
        intro b
        rcases hloc g b with a | a
        · exact h.apart i j hi hj hne g hg a
        · obtain ⟨_, cur, hc⟩ := row_tag (h.row i hi) g hg
          have := (Array.getElem?_eq_some_iff.1 hc).1
          omega
      · rw [updV_ne _ _ xj]; exact h.apart i j hi hj hne g hg
/-- A table just made. -/
theorem RT.made (hb : w.heap[tb]? = some (.cells (List.replicate n (.slice none 0 0)).toArray Tt (0, 0))) (hl : lo ≤ tb) (hne : e ≠ Tt) : RT lo e sz tb Tt n (fun _ => 0) (fun _ => []) (fun _ => .slice none 0 0) w :=
  ⟨by rw [hb]; congr 2; simp [List.map_const'], fun j hj => World.ownsRow_nil _ _ _ _, fun i j _ _ _ g hg => by simp [Value.ownBlock] at hg, hl, hne⟩
end
theorem tl8_0 : tl Try.f8 0 = Code.seq (st Try.f8 0) (tl Try.f8 1) := by kernel_rfl
theorem tl8_1 : tl Try.f8 1 = Code.seq (st Try.f8 1) (tl Try.f8 2) := by kernel_rfl
theorem tl8_2 : tl Try.f8 2 = Code.seq (st Try.f8 2) (tl Try.f8 3) := by kernel_rfl
theorem tl8_3 : tl Try.f8 3 = Code.seq (st Try.f8 3) (tl Try.f8 4) := by kernel_rfl
theorem tl8_4 : tl Try.f8 4 = Code.seq (st Try.f8 4) (tl Try.f8 5) := by kernel_rfl
theorem tl8_5 : tl Try.f8 5 = Code.seq (st Try.f8 5) (tl Try.f8 6) := by kernel_rfl
theorem tl8_6 : tl Try.f8 6 = Code.seq (st Try.f8 6) (tl Try.f8 7) := by kernel_rfl
theorem tl8_7 : tl Try.f8 7 = Code.seq (st Try.f8 7) (tl Try.f8 8) := by kernel_rfl
theorem tl8_8 : tl Try.f8 8 = Code.seq (st Try.f8 8) (tl Try.f8 9) := by kernel_rfl
theorem tl8_9 : tl Try.f8 9 = Code.seq (st Try.f8 9) (tl Try.f8 10) := by kernel_rfl
theorem tl8_10 : tl Try.f8 10 = Code.seq (st Try.f8 10) (tl Try.f8 11) := by kernel_rfl
theorem tl8_11 : tl Try.f8 11 = Code.seq (st Try.f8 11) (tl Try.f8 12) := by kernel_rfl
theorem tl8_12 : tl Try.f8 12 = Code.seq (st Try.f8 12) (tl Try.f8 13) := by kernel_rfl
theorem tl8_13 : tl Try.f8 13 = Code.seq (st Try.f8 13) (tl Try.f8 14) := by kernel_rfl
end Go.Proofs.Qxb6626314a
