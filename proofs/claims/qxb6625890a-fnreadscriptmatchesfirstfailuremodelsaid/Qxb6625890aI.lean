/-
  Seat b6625890a: 'c.dirty[t] = append(c.dirty[t], src)': what it makes of a classifier.
-/
import Derived.Test.Qxb6625890aE
namespace Go.Proofs.Qxb6625890a
open Go.RowKit Go.Maps
set_option linter.unusedVariables false

def updW (P : Program) (w : World) (b : Nat) (k : Int) (v : Value) : World :=
  match (Instr.mapUpdate 73 (.map (some b)) (.int .i32 k) v).run P w with
  | .ok _ w' => w'
  | _ => w
theorem upd_run {w : World} {b n : Nat} {f : Int → Option Value} (h : MapIs w b n f) {k : Int} (hk : (Lit.int .i32 k).wf = true) (hn : n < maxLen) (v : Value) :
    (Instr.mapUpdate 73 (.map (some b)) (.int .i32 k) v).run Try.prog w = .ok () (updW Try.prog w b k v) ∧ MapIs (updW Try.prog w b k v) b (n + 1) (putAt f k v) ∧ w.grownBy (updW Try.prog w b k v) (some b) := by
  obtain ⟨w', hrun, h1, h2⟩ := h.store hk hn v
  have e : updW Try.prog w b k v = w' := by unfold updW; rw [hrun]
  rw [e]
  exact ⟨hrun, h1, h2⟩

section
variable {w wa w1 w2 : World} {F : Nat → Prop} {cb tb db mi N lim lim' : Nat} {vi vr vt vi' vr' : Value} {f : Int → Option Value} {ends : List Int} {out out' : Nat → Option OpC} {items reads items' reads' : List (Int × Int)} {dm : Int → Option (List Int)}

def dirtyAt (dm : Int → Option (List Int)) (t : Int) : List Int := (dm t).getD []
def dirtyAdd (dm : Int → Option (List Int)) (t src : Int) : Int → Option (List Int) := fun x => if x = t then some (dirtyAt dm t ++ [src]) else dm x

/-- The slice at a key owns its numbers; nil where there is none. -/
theorem ClsV.group (h : ClsV w F cb tb db mi N lim vi vr vt f ends out items reads dm) (t : Int) : w.ownsRow 0 21 1 ((f t).getD (.slice none 0 0)) (dirtyAt dm t).length (ints (dirtyAt dm t)) ∧ (dirtyAt dm t).length ≤ lim := by
  cases hf : f t with
  | none =>
    have := h.non t hf
    simp only [dirtyAt, this, Option.getD_none]
    exact ⟨World.ownsRow_nil _ _ _ _, Nat.zero_le _⟩
  | some v =>
    obtain ⟨zs, h1, h2, h3⟩ := h.grp t v hf
    simp only [dirtyAt, h1, Option.getD_some]
    exact ⟨h2, h3⟩

theorem ClsV.appD {t src : Int} {v' : Value} (h : ClsV w F cb tb db mi N lim vi vr vt f ends out items reads dm) (hF : ∀ k, w.heap.size ≤ k → F k) (h1 : Below w.heap.size w wa) (hg : wa.grownBy w1 ((f t).getD (.slice none 0 0)).ownBlock)
    (ho : w1.ownsRow 0 21 1 v' ((dirtyAt dm t).length + 1) (ints (dirtyAt dm t) ++ [.int .i32 src])) (hloc : v'.ownBlock = ((f t).getD (.slice none 0 0)).ownBlock ∨ v'.ownBlock = some wa.heap.size)
    (hg2 : w1.grownBy w2 (some db)) (hm : MapIs w2 db (N + 1) (putAt f t v')) :
    ClsV w2 F cb tb db mi (N + 1) (lim + 1) vi vr vt (putAt f t v') ends out items reads (dirtyAdd dm t src) ∧ KeepF F w w2 := by
  have ha := h.grown h1
  obtain ⟨gu, gl⟩ := ha.group t
  obtain ⟨es, cl, hmm⟩ := ha.map.isMap
  have hmb : w1.heap[db]? = some (.map es cl) := by
    refine (hg.block db (Array.getElem?_eq_some_iff.1 hmm).1 (fun hx => ?_)).trans hmm
    obtain ⟨cur, hc⟩ := row_tag gu db hx.symm
    exact ne_of_map hc hmm rfl
  have bk : ∀ {b : Nat} {c : Array Value} {e : TypeId}, wa.heap[b]? = some (.cells c e (0, 0)) → e ≠ 21 → w2.heap[b]? = some (.cells c e (0, 0)) := by
    intro b c e hb hne
    have hb1 : w1.heap[b]? = some (.cells c e (0, 0)) := blk_kept hg hb (fun hx => by
      obtain ⟨cur, hc⟩ := row_tag gu b hx.symm
      exact ne_of_tag hb hc hne rfl)
    exact blk_kept hg2 hb1 (by simpa using ne_of_map hb1 hmb)
  have tg : ∀ {v : Value} {e : TypeId} {size n : Nat} {ys : List Value}, wa.ownsRow 0 e size v n ys → e ≠ 21 → w2.ownsRow 0 e size v n ys := by
    intro v e size n ys hr hne
    refine ⟨hr.1, ?_⟩
    rcases hr.2 with h' | ⟨g, cap, cur, h1, h2, hh, h3⟩
    · exact Or.inl h'
    · exact Or.inr ⟨g, cap, cur, h1, h2, bk hh hne, h3⟩
  have to2 : ∀ {v : Value} {n : Nat} {ys : List Value}, w1.ownsRow 0 21 1 v n ys → w2.ownsRow 0 21 1 v n ys := by
    intro v n ys hr
    refine row_kept hr hg2 (fun g hv => ?_)
    obtain ⟨cur, hc⟩ := row_tag hr g hv
    simpa using ne_of_map hc hmb
  have apart : ∀ x v, x ≠ t → f x = some v → v.ownBlock = none ∨ v.ownBlock ≠ ((f t).getD (.slice none 0 0)).ownBlock := by
    intro x v hx hv
    cases ht : f t with
    | none => 
      cases hb : v.ownBlock with
      | none => exact Or.inl rfl
      | some g => exact Or.inr (by simp [Value.ownBlock])
    | some u => exact h.dis x t v u hx hv ht
  obtain ⟨xs, htx, hx⟩ := ha.txn
  have hFu : ∀ g, ((f t).getD (.slice none 0 0)).ownBlock = some g → F g := by
    intro g hgu
    cases ht : f t with
    | none => rw [ht] at hgu; simp [Value.ownBlock] at hgu
    | some u => rw [ht] at hgu; exact h.fgr t u g ht hgu
  have hFv : ∀ g, v'.ownBlock = some g → F g := by
    intro g hgv
    rcases hloc with e | e
    · exact hFu g (by rw [← e]; exact hgv)
    · rw [e] at hgv; cases hgv; exact hF _ h1.size
  have apart' : ∀ x v, x ≠ t → f x = some v → v.ownBlock = none ∨ v.ownBlock ≠ v'.ownBlock := by
    intro x v hx hv
    rcases hloc with e | e
    · rw [e]; exact apart x v hx hv
    · cases hb : v.ownBlock with
      | none => exact Or.inl rfl
      | some g =>
        refine Or.inr ?_
        rw [e]
        obtain ⟨zs, _, h2, _⟩ := ha.grp x v hv
        have := (h2.lt g hb).2
        simp; omega
  refine ⟨⟨bk ha.blk (by decide), bk ha.tbl (by decide), ⟨xs, tg htx (by decide), hx⟩, tg ha.its (by decide), tg ha.rds (by decide), hm, ?_, ?_, ?_, ?_, h.fcb, h.fdb, h.fvi, h.fvr, ?_, Nat.le_succ_of_le h.li, Nat.le_succ_of_le h.lr, Nat.succ_le_succ h.ln⟩, ?_⟩
  · intro x v hv
    by_cases e : x = t
    · subst e
      simp [putAt] at hv
      subst hv
      refine ⟨dirtyAt dm x ++ [src], by simp [dirtyAdd], ?_, by simp; omega⟩
      have := to2 ho
      simpa [ints] using this
    · simp [putAt, e] at hv
      obtain ⟨zs, p1, p2, p3⟩ := ha.grp x v hv
      refine ⟨zs, by simp [dirtyAdd, e, p1], to2 (row_kept p2 hg (fun g hb => ?_)), Nat.le_succ_of_le p3⟩
      rcases apart x v e hv with hh | hh
      · rw [hh] at hb; cases hb
      · rw [← hb]; exact hh
  · intro x hv
    by_cases e : x = t
    · subst e; simp [putAt] at hv
    · simp [putAt, e] at hv
      simp [dirtyAdd, e, h.non x hv]
  · intro k1 k2 v1 v2 hne e1 e2
    by_cases q1 : k1 = t
    · subst q1
      simp [putAt] at e1
      subst e1
      simp [putAt, hne.symm] at e2
      rcases apart' k2 v2 hne.symm e2 with hh | hh
      · cases hb : v'.ownBlock with
        | none => exact Or.inl rfl
        | some g => exact Or.inr (by rw [hh]; simp)
      · exact Or.inr hh.symm
    · simp [putAt, q1] at e1
      by_cases q2 : k2 = t
      · subst q2
        simp [putAt] at e2
        subst e2
        exact apart' k1 v1 q1 e1
      · simp [putAt, q2] at e2
        exact h.dis k1 k2 v1 v2 hne e1 e2
  · intro x b cs hk
    exact bk (ha.ops x b cs hk) (by decide)
  · intro x u g hu hb
    by_cases e : x = t
    · subst e
      simp [putAt] at hu
      subst hu
      exact hFv g hb
    · simp [putAt, e] at hu
      exact h.fgr x u g hu hb
  · exact ((KeepF.of_below h1).trans (KeepF.of_grown hg hFu)).trans (KeepF.of_grown hg2 (fun g hx => by cases hx; exact h.fdb))

end
end Go.Proofs.Qxb6625890a
