/-
  Seat b6625890a: the law FnReadScriptMatchesFirstFailureModel: what n reads do to the plain state (no Go in sight).
-/
import Derived.Test.Qxb6625890aAD
namespace Go.Proofs.Qxb6625890a
open Go.RowKit Go.Maps
set_option linter.unusedVariables false

/-- A ZStep. -/
structure Step where
  kd : Int
  tx : Int
  it : ByteArray
  so : Int
  hs : Bool
  t : Int
  item : Int
  src : Int
def scell (s : Step) : List Value := [.int .u8 s.kd, .int .i64 s.tx, .string s.it, .int .i64 s.so, .bool s.hs, .int .i32 s.t, .int .i32 s.item, .int .i32 s.src]
def flatS (l : List Step) : List Value := l.flatMap scell
def e0 : Step := ⟨0, 0, ByteArray.empty, 0, false, 0, 0, 0⟩
def sopc (s : Step) : List Value := opc s.kd s.tx s.it s.so s.hs

/-- How many items there are behind i steps. -/
def clen (n0 : Nat) (S : List Step) : Nat → Nat
  | 0 => n0
  | i + 1 => if (S.getD i e0).item = (clen n0 S i : Int) then clen n0 S i + 1 else clen n0 S i
def o3of (lim i : Nat) : Option OpC := if i < lim then none else some (0, [])
/-- Items and reads behind i steps. -/
def PS (lim : Nat) (I0 R0 : List (Int × Int)) (S : List Step) : Nat → List (Int × Int) × List (Int × Int)
  | 0 => (I0, R0)
  | i + 1 => (stepI (o3of lim i) (growL (PS lim I0 R0 S i).1 (S.getD i e0).item.toNat) (PS lim I0 R0 S i).2 (S.getD i e0).item.toNat (S.getD i e0).t,
      stepR (o3of lim i) (growL (PS lim I0 R0 S i).1 (S.getD i e0).item.toNat) (PS lim I0 R0 S i).2 (S.getD i e0).item.toNat (S.getD i e0).t)

theorem step_congr {o3 o3' : Option OpC} (h : o3 = none ↔ o3' = none) (g R : List (Int × Int)) (it : Nat) (t : Int) : stepI o3 g R it t = stepI o3' g R it t ∧ stepR o3 g R it t = stepR o3' g R it t := by
  unfold stepI stepR
  by_cases e : o3 = none
  · have e' := h.1 e
    subst e
    subst e'
    exact ⟨rfl, rfl⟩
  · have e' : ¬ o3' = none := fun hh => e (h.2 hh)
    rw [if_neg (fun hh => e hh.1), if_neg (fun hh => e' hh.1), if_neg (fun hh => e hh.1), if_neg (fun hh => e' hh.1)]
    exact ⟨rfl, rfl⟩

/-- The steps name items that are there, or the next one. -/
def StepsOK (n0 : Nat) (S : List Step) : Prop := ∀ i, i < S.length → 0 ≤ (S.getD i e0).item ∧ (S.getD i e0).item ≤ clen n0 S i

section
variable {lim : Nat} {I0 R0 : List (Int × Int)} {S : List Step}

theorem growL_len (I : List (Int × Int)) (k : Nat) : (growL I k).length = if k = I.length then I.length + 1 else I.length := by
  unfold growL; split <;> simp
theorem growL_getD (I : List (Int × Int)) (k j : Nat) : (growL I k).getD j (-1, -1) = I.getD j (-1, -1) := by
  unfold growL
  split
  · rw [List.getD_eq_getElem?_getD, List.getD_eq_getElem?_getD]
    by_cases e : j < I.length
    · rw [List.getElem?_append_left e]
    · rw [List.getElem?_append_right (by omega), List.getElem?_eq_none (by omega : I.length ≤ j)]
      by_cases e2 : j - I.length = 0
      · rw [e2]; rfl
      · rw [List.getElem?_eq_none (by simp; omega)]
  · rfl
theorem getD_any {l : List (Int × Int)} {k : Nat} (h : k < l.length) (a b : Int × Int) : l.getD k a = l.getD k b := by
  rw [List.getD_eq_getElem?_getD, List.getD_eq_getElem?_getD, List.getElem?_eq_getElem h]; rfl
theorem PS_len (h : StepsOK I0.length S) : ∀ i, i ≤ S.length → (PS lim I0 R0 S i).1.length = clen I0.length S i := by
  intro i
  induction i with
  | zero => intro _; rfl
  | succ i ih =>
    intro hi
    have := ih (by omega)
    obtain ⟨h1, h2⟩ := h i (by omega)
    show (stepI _ _ _ _ _).length = _
    rw [stepI_len, growL_len, this]
    show _ = if _ then _ else _
    by_cases e : (S.getD i e0).item = (clen I0.length S i : Int)
    · rw [if_pos e, if_pos (by omega)]
    · rw [if_neg e, if_neg (by omega)]
theorem item_le (h : StepsOK I0.length S) {i : Nat} (hi : i < S.length) : (S.getD i e0).item.toNat ≤ (PS lim I0 R0 S i).1.length := by
  rw [PS_len h i (by omega)]
  have := h i hi
  omega
/-- The item's pair (writer, newest read), (-1, -1) where it is not there. -/
def G (lim : Nat) (I0 R0 : List (Int × Int)) (S : List Step) (i k : Nat) : Int × Int := (PS lim I0 R0 S i).1.getD k (-1, -1)
def fr (lim : Nat) (I0 R0 : List (Int × Int)) (S : List Step) (i : Nat) : Bool := fresh (growL (PS lim I0 R0 S i).1 (S.getD i e0).item.toNat) (PS lim I0 R0 S i).2 (S.getD i e0).item.toNat (S.getD i e0).t
theorem grow_G (h : StepsOK I0.length S) {i : Nat} (hi : i < S.length) : (growL (PS lim I0 R0 S i).1 (S.getD i e0).item.toNat).getD (S.getD i e0).item.toNat (0, 0) = G lim I0 R0 S i (S.getD i e0).item.toNat := by
  have hl := grow_len _ _ (item_le (lim := lim) (R0 := R0) h hi)
  rw [getD_any hl (0, 0) (-1, -1), growL_getD]
  rfl
theorem G_succ (h : StepsOK I0.length S) {i : Nat} (hi : i < S.length) (k : Nat) : G lim I0 R0 S (i + 1) k = if i < lim ∧ fr lim I0 R0 S i = true ∧ k = (S.getD i e0).item.toNat then ((G lim I0 R0 S i k).1, ((PS lim I0 R0 S i).2.length : Int)) else G lim I0 R0 S i k := by
  have hl := grow_len _ _ (item_le (lim := lim) (R0 := R0) h hi)
  show (stepI (o3of lim i) _ _ _ _).getD k (-1, -1) = _
  unfold stepI o3of
  by_cases e1 : i < lim
  · rw [if_pos e1]
    by_cases e2 : fr lim I0 R0 S i = true
    · rw [if_pos ⟨rfl, e2⟩]
      by_cases e3 : k = (S.getD i e0).item.toNat
      · rw [if_pos ⟨e1, e2, e3⟩]
        subst e3
        rw [List.getD_eq_getElem?_getD, List.getElem?_set_self hl, grow_G h hi]
        rfl
      · rw [if_neg (fun hh => e3 hh.2.2), List.getD_eq_getElem?_getD, List.getElem?_set_ne (Ne.symm e3), ← List.getD_eq_getElem?_getD, growL_getD]
        rfl
    · rw [if_neg (fun hh => e2 hh.2), if_neg (fun hh => e2 hh.2.1), growL_getD]
      rfl
  · rw [if_neg e1, if_neg (fun hh => by cases hh.1), if_neg (fun hh => e1 hh.1), growL_getD]
    rfl
theorem PR_succ (h : StepsOK I0.length S) {i : Nat} (hi : i < S.length) : (PS lim I0 R0 S (i + 1)).2 = if i < lim ∧ fr lim I0 R0 S i = true then (PS lim I0 R0 S i).2 ++ [((S.getD i e0).t, (G lim I0 R0 S i (S.getD i e0).item.toNat).2)] else (PS lim I0 R0 S i).2 := by
  show stepR (o3of lim i) _ _ _ _ = _
  unfold stepR o3of
  by_cases e1 : i < lim
  · rw [if_pos e1]
    by_cases e2 : fr lim I0 R0 S i = true
    · rw [if_pos ⟨rfl, e2⟩, if_pos ⟨e1, e2⟩, grow_G h hi]
    · rw [if_neg (fun hh => e2 hh.2), if_neg (fun hh => e2 hh.2)]
  · rw [if_neg e1, if_neg (fun hh => by cases hh.1), if_neg (fun hh => e1 hh.1)]
/-- Writers stay. -/
theorem G_fst (h : StepsOK I0.length S) : ∀ i, i ≤ S.length → ∀ k, (G lim I0 R0 S i k).1 = (I0.getD k (-1, -1)).1 := by
  intro i
  induction i with
  | zero => intro _ k; rfl
  | succ i ih =>
    intro hi k
    rw [G_succ h (by omega)]
    split
    · exact ih (by omega) k
    · exact ih (by omega) k
/-- Past lim nothing of the reads turns. -/
theorem stab (h : StepsOK I0.length S) : ∀ i, lim ≤ i → i ≤ S.length → (PS lim I0 R0 S i).2 = (PS lim I0 R0 S lim).2 ∧ ∀ k, G lim I0 R0 S i k = G lim I0 R0 S lim k := by
  intro i h1
  induction i with
  | zero => intro h2; have : lim = 0 := by omega
            subst this; exact ⟨rfl, fun k => rfl⟩
  | succ i ih =>
    intro h2
    by_cases e : lim = i + 1
    · subst e; exact ⟨rfl, fun k => rfl⟩
    · obtain ⟨i1, i2⟩ := ih (by omega) (by omega)
      refine ⟨?_, fun k => ?_⟩
      · rw [PR_succ h (by omega), if_neg (fun hh => by omega), i1]
      · rw [G_succ h (by omega), if_neg (fun hh => by omega), i2]
theorem PR_pre (h : StepsOK I0.length S) : ∀ d i, i + d ≤ S.length → (PS lim I0 R0 S i).2.length ≤ (PS lim I0 R0 S (i + d)).2.length ∧ ∀ j, j < (PS lim I0 R0 S i).2.length → (PS lim I0 R0 S (i + d)).2.getD j (0, 0) = (PS lim I0 R0 S i).2.getD j (0, 0) := by
  intro d
  induction d with
  | zero => intro i _; exact ⟨Nat.le_refl _, fun j _ => rfl⟩
  | succ d ih =>
    intro i hi
    obtain ⟨i1, i2⟩ := ih i (by omega)
    rw [show i + (d + 1) = (i + d) + 1 by omega, PR_succ h (by omega)]
    split
    · refine ⟨by simp; omega, fun j hj => ?_⟩
      rw [getD_left (by omega)]; exact i2 j hj
    · exact ⟨i1, i2⟩
theorem PR_len_le (h : StepsOK I0.length S) : ∀ i, i ≤ S.length → (PS lim I0 R0 S i).2.length ≤ R0.length + i := by
  intro i
  induction i with
  | zero => intro _; exact Nat.le_refl _
  | succ i ih =>
    intro hi
    have := ih (by omega)
    rw [PR_succ h (by omega)]
    split
    · simp; omega
    · omega
theorem clen_le (n0 : Nat) (S : List Step) : ∀ i, n0 ≤ clen n0 S i ∧ clen n0 S i ≤ n0 + i := by
  intro i
  induction i with
  | zero => exact ⟨Nat.le_refl _, Nat.le_refl _⟩
  | succ i ih => unfold clen; split <;> omega
theorem clen_mono (n0 : Nat) (S : List Step) (i d : Nat) : clen n0 S i ≤ clen n0 S (i + d) := by
  induction d with
  | zero => exact Nat.le_refl _
  | succ d ih =>
    rw [show i + (d + 1) = (i + d) + 1 by omega]
    have h2 : clen n0 S (i + d + 1) = if (S.getD (i + d) e0).item = (clen n0 S (i + d) : Int) then clen n0 S (i + d) + 1 else clen n0 S (i + d) := rfl
    split at h2 <;> omega
/-- An item that a step names lies below the last length. -/
theorem item_lt (h : StepsOK I0.length S) {i : Nat} (hi : i < S.length) : (S.getD i e0).item.toNat < clen I0.length S S.length := by
  obtain ⟨h1, h2⟩ := h i hi
  have h3 := clen_mono I0.length S (i + 1) (S.length - (i + 1))
  rw [show i + 1 + (S.length - (i + 1)) = S.length by omega] at h3
  have h4 : clen I0.length S (i + 1) = if (S.getD i e0).item = (clen I0.length S i : Int) then clen I0.length S i + 1 else clen I0.length S i := rfl
  split at h4 <;> omega
/-- Bounds that the table keeps. -/
theorem PS_WR {ne : Nat} (h : StepsOK I0.length S) (hW : ∀ i, i < I0.length → (I0.getD i (0, 0)).1 < (ne : Int)) (hR : ∀ i, i < I0.length → (I0.getD i (0, 0)).2 < R0.length) : ∀ i, i ≤ S.length → ∀ k, (G lim I0 R0 S i k).1 < (ne : Int) ∧ (G lim I0 R0 S i k).2 < (PS lim I0 R0 S i).2.length := by
  intro i
  induction i with
  | zero =>
    intro _ k
    show (I0.getD k (-1, -1)).1 < _ ∧ (I0.getD k (-1, -1)).2 < (R0.length : Int)
    by_cases e : k < I0.length
    · rw [getD_any e (-1, -1) (0, 0)]; exact ⟨hW k e, hR k e⟩
    · rw [List.getD_eq_getElem?_getD, List.getElem?_eq_none (by omega : I0.length ≤ k)]
      show (-1 : Int) < _ ∧ (-1 : Int) < _
      omega
  | succ i ih =>
    intro hi k
    obtain ⟨i1, i2⟩ := ih (by omega) k
    have hp := (PR_pre (lim := lim) (R0 := R0) h 1 i (by omega)).1
    rw [G_succ h (by omega)]
    split
    · rename_i hc
      refine ⟨i1, ?_⟩
      rw [PR_succ h (by omega), if_pos ⟨hc.1, hc.2.1⟩]
      simp
      omega
    · exact ⟨i1, by omega⟩

/-! ### the last step that named an item -/
def lastJ (S : List Step) (k : Nat) : Nat → Option Nat
  | 0 => none
  | i + 1 => if (S.getD i e0).item.toNat = k then some i else lastJ S k i
theorem lastJ_skip {k q : Nat} : ∀ i, q ≤ i → (∀ m, q ≤ m → m < i → (S.getD m e0).item.toNat ≠ k) → lastJ S k i = lastJ S k q := by
  intro i
  induction i with
  | zero => intro h _; have : q = 0 := by omega
            subst this; rfl
  | succ i ih =>
    intro h1 h2
    by_cases e : q = i + 1
    · subst e; rfl
    · show (if _ then _ else _) = _
      rw [if_neg (h2 i (by omega) (by omega))]
      exact ih (by omega) (fun m a b => h2 m a (by omega))
theorem lastJ_lt {k : Nat} : ∀ i j, lastJ S k i = some j → j < i ∧ (S.getD j e0).item.toNat = k := by
  intro i
  induction i with
  | zero => intro j h; cases h
  | succ i ih =>
    intro j h
    have h' : (if (S.getD i e0).item.toNat = k then some i else lastJ S k i) = some j := h
    split at h'
    · cases h'; exact ⟨by omega, by assumption⟩
    · have := ih j h'; exact ⟨by omega, this.2⟩
/-- The newest read of an item is the last reader's. -/
theorem newest {ne : Nat} (h : StepsOK I0.length S) (hW : ∀ i, i < I0.length → (I0.getD i (0, 0)).1 < (ne : Int)) (hR : ∀ i, i < I0.length → (I0.getD i (0, 0)).2 < R0.length) : ∀ i, i ≤ lim → i ≤ S.length → ∀ k,
    (∀ j, lastJ S k i = some j → 0 ≤ (G lim I0 R0 S i k).2 ∧ ((PS lim I0 R0 S i).2.getD (G lim I0 R0 S i k).2.toNat (0, 0)).1 = (S.getD j e0).t) ∧
    (lastJ S k i = none → (G lim I0 R0 S i k).2 = (I0.getD k (-1, -1)).2) := by
  intro i
  induction i with
  | zero => intro _ _ k; exact ⟨fun j hj => (by cases hj), fun _ => rfl⟩
  | succ i ih =>
    intro hl hi k
    obtain ⟨i1, i2⟩ := ih (by omega) (by omega) k
    have hWR := PS_WR (lim := lim) h hW hR i (by omega) k
    have hfr : (if (S.getD i e0).item.toNat = k then some i else lastJ S k i) = lastJ S k (i + 1) := rfl
    by_cases e : (S.getD i e0).item.toNat = k
    · rw [if_pos e] at hfr
      rw [← hfr]
      refine ⟨fun j hj => ?_, fun hj => by cases hj⟩
      cases hj
      rw [G_succ h (by omega), PR_succ h (by omega)]
      by_cases e2 : fr lim I0 R0 S i = true
      · rw [if_pos ⟨by omega, e2, e.symm⟩, if_pos ⟨by omega, e2⟩]
        refine ⟨by show (0 : Int) ≤ ((PS lim I0 R0 S i).2.length : Int); omega, ?_⟩
        show (List.getD (_ ++ _) ((PS lim I0 R0 S i).2.length : Int).toNat (0, 0)).1 = _
        rw [Int.toNat_natCast, getD_push]
      · rw [if_neg (fun hh => e2 hh.2.1), if_neg (fun hh => e2 hh.2)]
        have e3 : fr lim I0 R0 S i = false := by simpa using e2
        have := fresh_false e3
        rw [grow_G h (by omega), e] at this
        exact this
    · rw [if_neg e] at hfr
      rw [← hfr, G_succ h (by omega), if_neg (fun hh => e hh.2.2.symm)]
      refine ⟨fun j hj => ?_, i2⟩
      obtain ⟨a1, a2⟩ := i1 j hj
      refine ⟨a1, ?_⟩
      have hp := (PR_pre (lim := lim) (R0 := R0) h 1 i (by omega)).2
      rw [hp _ (by omega)]
      exact a2
/-- Whether a read is fresh, as the law finds it. -/
theorem fr_law {ne : Nat} (h : StepsOK I0.length S) (hW : ∀ i, i < I0.length → (I0.getD i (0, 0)).1 < (ne : Int)) (hR : ∀ i, i < I0.length → (I0.getD i (0, 0)).2 < R0.length) {i : Nat} (hl : i ≤ lim) (hi : i < S.length) :
    (∀ j, lastJ S (S.getD i e0).item.toNat i = some j → fr lim I0 R0 S i = ((S.getD j e0).t != (S.getD i e0).t)) ∧
    (lastJ S (S.getD i e0).item.toNat i = none → fr lim I0 R0 S i = (decide ((I0.getD (S.getD i e0).item.toNat (-1, -1)).2 < 0) || ((R0.getD (I0.getD (S.getD i e0).item.toNat (-1, -1)).2.toNat (0, 0)).1 != (S.getD i e0).t))) := by
  obtain ⟨n1, n2⟩ := newest h hW hR i hl (by omega) (S.getD i e0).item.toNat
  have hf : fr lim I0 R0 S i = (decide ((G lim I0 R0 S i (S.getD i e0).item.toNat).2 < 0) || (((PS lim I0 R0 S i).2.getD (G lim I0 R0 S i (S.getD i e0).item.toNat).2.toNat (0, 0)).1 != (S.getD i e0).t)) := by
    unfold fr fresh
    rw [grow_G h hi]
  refine ⟨fun j hj => ?_, fun hj => ?_⟩
  · obtain ⟨a1, a2⟩ := n1 j hj
    rw [hf, a2, decide_eq_false (by omega)]
    rfl
  · rw [hf, n2 hj]
    by_cases e : (I0.getD (S.getD i e0).item.toNat (-1, -1)).2 < 0
    · rw [decide_eq_true e]; rfl
    · rw [decide_eq_false e]
      have hk : (S.getD i e0).item.toNat < I0.length := by
        by_cases e2 : (S.getD i e0).item.toNat < I0.length
        · exact e2
        · rw [List.getD_eq_getElem?_getD, List.getElem?_eq_none (by omega : I0.length ≤ _)] at e
          exact absurd (show (-1 : Int) < 0 by omega) e
      have h1 := hR _ hk
      rw [getD_any hk (0, 0) (-1, -1)] at h1
      have hp := (PR_pre (lim := lim) (R0 := R0) h i 0 (by omega)).2
      rw [Nat.zero_add] at hp
      rw [hp _ (by show _ < R0.length; omega)]
      rfl

/-! ### the last kept step that named an item -/
def lastK (lim : Nat) (I0 R0 : List (Int × Int)) (S : List Step) (k : Nat) : Nat → Option Nat
  | 0 => none
  | i + 1 => if fr lim I0 R0 S i = true ∧ (S.getD i e0).item.toNat = k then some i else lastK lim I0 R0 S k i
theorem lastK_skip {k q : Nat} : ∀ i, q ≤ i → (∀ m, q ≤ m → m < i → ¬ (fr lim I0 R0 S m = true ∧ (S.getD m e0).item.toNat = k)) → lastK lim I0 R0 S k i = lastK lim I0 R0 S k q := by
  intro i
  induction i with
  | zero => intro h _; have : q = 0 := by omega
            subst this; rfl
  | succ i ih =>
    intro h1 h2
    by_cases e : q = i + 1
    · subst e; rfl
    · show (if _ then _ else _) = _
      rw [if_neg (h2 i (by omega) (by omega))]
      exact ih (by omega) (fun m a b => h2 m a (by omega))
theorem prev_law (h : StepsOK I0.length S) : ∀ i, i ≤ lim → i ≤ S.length → ∀ k,
    (∀ m, lastK lim I0 R0 S k i = some m → (G lim I0 R0 S i k).2 = (PS lim I0 R0 S m).2.length) ∧ (lastK lim I0 R0 S k i = none → (G lim I0 R0 S i k).2 = (I0.getD k (-1, -1)).2) := by
  intro i
  induction i with
  | zero => intro _ _ k; exact ⟨fun j hj => (by cases hj), fun _ => rfl⟩
  | succ i ih =>
    intro hl hi k
    obtain ⟨i1, i2⟩ := ih (by omega) (by omega) k
    have hfr : (if fr lim I0 R0 S i = true ∧ (S.getD i e0).item.toNat = k then some i else lastK lim I0 R0 S k i) = lastK lim I0 R0 S k (i + 1) := rfl
    by_cases e : fr lim I0 R0 S i = true ∧ (S.getD i e0).item.toNat = k
    · rw [if_pos e] at hfr
      rw [← hfr]
      refine ⟨fun j hj => ?_, fun hj => by cases hj⟩
      cases hj
      rw [G_succ h (by omega), if_pos ⟨by omega, e.1, e.2.symm⟩]
    · rw [if_neg e] at hfr
      rw [← hfr, G_succ h (by omega), if_neg (fun hh => e ⟨hh.2.1, hh.2.2.symm⟩)]
      exact ⟨i1, i2⟩
/-- A kept read stands in the chain. -/
theorem kept_at (h : StepsOK I0.length S) {i : Nat} (hl : i < lim) (hi : i < S.length) (hf : fr lim I0 R0 S i = true) :
    (PS lim I0 R0 S i).2.length < (PS lim I0 R0 S S.length).2.length ∧ (PS lim I0 R0 S S.length).2.getD (PS lim I0 R0 S i).2.length (0, 0) = ((S.getD i e0).t, (G lim I0 R0 S i (S.getD i e0).item.toNat).2) := by
  have h1 := PR_succ (lim := lim) (R0 := R0) h hi
  rw [if_pos ⟨hl, hf⟩] at h1
  have hp := PR_pre (lim := lim) (R0 := R0) h (S.length - (i + 1)) (i + 1) (by omega)
  rw [show i + 1 + (S.length - (i + 1)) = S.length by omega, h1] at hp
  refine ⟨by have := hp.1; simp at this; omega, ?_⟩
  rw [hp.2 _ (by simp), getD_push]

/-! ### the first step that fails a test -/
def ffw (p : Nat → Bool) (n : Nat) : Nat → Nat
  | 0 => n
  | i + 1 => if p i = true ∧ ffw p n i = n then i else ffw p n i
theorem ffw_char (p : Nat → Bool) (n : Nat) : ∀ i, i ≤ n → (ffw p n i = n ∧ ∀ j, j < i → p j = false) ∨ (ffw p n i < i ∧ p (ffw p n i) = true ∧ ∀ j, j < ffw p n i → p j = false) := by
  intro i
  induction i with
  | zero => intro _; exact Or.inl ⟨rfl, fun j hj => by omega⟩
  | succ i ih =>
    intro hi
    have e : ffw p n (i + 1) = if p i = true ∧ ffw p n i = n then i else ffw p n i := rfl
    rcases ih (by omega) with ⟨h1, h2⟩ | ⟨h1, h2, h3⟩
    · by_cases hp : p i = true
      · rw [if_pos ⟨hp, h1⟩] at e
        rw [e]
        exact Or.inr ⟨by omega, hp, h2⟩
      · rw [if_neg (fun hh => hp hh.1)] at e
        rw [e]
        refine Or.inl ⟨h1, fun j hj => ?_⟩
        by_cases ej : j = i
        · subst ej; simpa using hp
        · exact h2 j (by omega)
    · rw [if_neg (fun hh => by omega)] at e
      rw [e]
      exact Or.inr ⟨by omega, h2, h3⟩
theorem ffw_none_iff (p : Nat → Bool) (n i : Nat) (hi : i < n) : ffw p n (i + 1) = n ↔ i < ffw p n n := by
  rcases ffw_char p n (i + 1) (by omega) with ⟨h1, h2⟩ | ⟨h1, h2, h3⟩
  · rcases ffw_char p n n (by omega) with ⟨g1, g2⟩ | ⟨g1, g2, g3⟩
    · constructor <;> intro _ <;> omega
    · refine ⟨fun _ => ?_, fun _ => h1⟩
      by_cases e : i < ffw p n n
      · exact e
      · rw [h2 _ (by omega)] at g2; cases g2
  · rcases ffw_char p n n (by omega) with ⟨g1, g2⟩ | ⟨g1, g2, g3⟩
    · rw [g2 _ (by omega)] at h2; cases h2
    · have : ¬ (ffw p n (i + 1) < ffw p n n) := fun hh => by rw [g3 _ hh] at h2; cases h2
      constructor <;> intro _ <;> omega
theorem ffw_le (p : Nat → Bool) (n : Nat) : ∀ i, i ≤ n → ffw p n i ≤ n := by
  intro i hi
  rcases ffw_char p n i hi with ⟨h1, _⟩ | ⟨h1, _⟩ <;> omega
end

/-! ### the four pointers -/
def cfS (ends : List Int) (I0 : List (Int × Int)) (S : List Step) (i : Nat) : Bool := conf ends (I0.getD (S.getD i e0).item.toNat (-1, -1)).1 (S.getD i e0).t
def drS (ends : List Int) (S : List Step) (i : Nat) : Bool := drt ends (S.getD i e0).src (S.getD i e0).t
def wS (ends : List Int) (I0 : List (Int × Int)) (S : List Step) (k i : Nat) : Bool := wantB (cfS ends I0 S i) (drS ends S i) k
def OutI (b0 b1 b2 b3 : Bool) (ends : List Int) (I0 : List (Int × Int)) (S : List Step) (o0 : Nat → Option OpC) (i : Nat) (out : Nat → Option OpC) : Prop :=
  ∀ k, k < 4 → (c4 b0 b1 b2 b3 k = true → out k = o0 k ∧ out k ≠ none) ∧ (c4 b0 b1 b2 b3 k = false → (ffw (wS ends I0 S k) S.length i = S.length → out k = none) ∧ (ffw (wS ends I0 S k) S.length i ≠ S.length → ∃ b, out k = some (b, sopc (S.getD (ffw (wS ends I0 S k) S.length i) e0))))
theorem OutI.start {b0 b1 b2 b3 : Bool} {ends : List Int} {I0 : List (Int × Int)} {S : List Step} {o0 : Nat → Option OpC} (h : ∀ k, k < 4 → (o0 k).isSome = c4 b0 b1 b2 b3 k) : OutI b0 b1 b2 b3 ends I0 S o0 0 o0 := by
  intro k hk
  obtain ⟨c1, c2⟩ := c4_some (h k hk)
  exact ⟨fun hc => ⟨rfl, c1 hc⟩, fun hc => ⟨fun _ => c2 hc, fun hh => absurd rfl hh⟩⟩
theorem OutI.step {b0 b1 b2 b3 : Bool} {ends : List Int} {I0 : List (Int × Int)} {S : List Step} {o0 out out1 out' : Nat → Option OpC} {i : Nat} (hi : i < S.length) (h : OutI b0 b1 b2 b3 ends I0 S o0 i out) (hn : Nest out)
    (hm : MeetRel out (cfS ends I0 S i) (sopc (S.getD i e0)) out1) (hd : DirtyRel (drS ends S i) out1 (sopc (S.getD i e0)) out') : OutI b0 b1 b2 b3 ends I0 S o0 (i + 1) out' := by
  intro k hk
  obtain ⟨s1, s2⟩ := (step_out hn hm hd).1 k hk
  obtain ⟨c1, c2⟩ := h k hk
  refine ⟨fun hc => ?_, fun hc => ?_⟩
  · obtain ⟨a1, a2⟩ := c1 hc
    rw [s1 a2]; exact ⟨a1, a2⟩
  · obtain ⟨a1, a2⟩ := c2 hc
    have e : ffw (wS ends I0 S k) S.length (i + 1) = if wS ends I0 S k i = true ∧ ffw (wS ends I0 S k) S.length i = S.length then i else ffw (wS ends I0 S k) S.length i := rfl
    by_cases hf : ffw (wS ends I0 S k) S.length i = S.length
    · have hnone := a1 hf
      obtain ⟨t1, t2⟩ := s2 hnone
      by_cases hw : wS ends I0 S k i = true
      · rw [if_pos ⟨hw, hf⟩] at e
        rw [e]
        exact ⟨fun hh => by omega, fun _ => t2 hw⟩
      · rw [if_neg (fun hh => hw hh.1), hf] at e
        rw [e]
        exact ⟨fun _ => t1 (by unfold wS at hw; simpa using hw), fun hh => absurd rfl hh⟩
    · rw [if_neg (fun hh => hf hh.2)] at e
      rw [e]
      obtain ⟨b, hb⟩ := a2 hf
      exact ⟨fun hh => absurd hh hf, fun _ => ⟨b, by rw [s1 (by rw [hb]; simp)]; exact hb⟩⟩
def limS (b3 : Bool) (ends : List Int) (I0 : List (Int × Int)) (S : List Step) : Nat := if b3 = true then 0 else ffw (wS ends I0 S 3) S.length S.length
theorem OutI.lim {b0 b1 b2 b3 : Bool} {ends : List Int} {I0 : List (Int × Int)} {S : List Step} {o0 out : Nat → Option OpC} {i : Nat} (hi : i < S.length) (h : OutI b0 b1 b2 b3 ends I0 S o0 (i + 1) out) : out 3 = none ↔ o3of (limS b3 ends I0 S) i = none := by
  obtain ⟨c1, c2⟩ := h 3 (by omega)
  have hc : c4 b0 b1 b2 b3 3 = b3 := rfl
  rw [hc] at c1 c2
  have ho : o3of (limS b3 ends I0 S) i = none ↔ i < limS b3 ends I0 S := by
    unfold o3of; split <;> simp_all
  rw [ho]
  unfold limS
  cases b3 with
  | true => rw [if_pos rfl]; exact ⟨fun hh => absurd hh (c1 rfl).2, fun hh => by omega⟩
  | false =>
    rw [if_neg (by simp), ← ffw_none_iff _ _ _ hi]
    obtain ⟨a1, a2⟩ := c2 rfl
    refine ⟨fun hh => Classical.byContradiction fun hne => ?_, a1⟩
    obtain ⟨b, hb⟩ := a2 hne
    rw [hh] at hb; cases hb
theorem OutI.zero {b0 b1 b2 b3 : Bool} {ends : List Int} {I0 : List (Int × Int)} {S : List Step} {o0 out : Nat → Option OpC} {i : Nat} (hi : i ≤ S.length) (h : OutI b0 b1 b2 b3 ends I0 S o0 i out) : out 0 = none ↔ b0 = false := by
  obtain ⟨c1, c2⟩ := h 0 (by omega)
  have hc : c4 b0 b1 b2 b3 0 = b0 := rfl
  rw [hc] at c1 c2
  cases b0 with
  | true => exact ⟨fun hh => absurd hh (c1 rfl).2, fun hh => by cases hh⟩
  | false =>
    refine ⟨fun _ => rfl, fun _ => (c2 rfl).1 ?_⟩
    rcases ffw_char (wS ends I0 S 0) S.length i hi with ⟨h1, _⟩ | ⟨_, h2, _⟩
    · exact h1
    · unfold wS wantB at h2; simp at h2

/-! ### dirty at the probe -/
def DL (ends : List Int) (S : List Step) (probe : Int) : Nat → List Int
  | 0 => []
  | i + 1 => if (S.getD i e0).t = probe ∧ drS ends S i = true then DL ends S probe i ++ [(S.getD i e0).src] else DL ends S probe i
def DmI (b0 : Bool) (ends : List Int) (S : List Step) (probe : Int) (dm0 : Int → Option (List Int)) (i : Nat) (dm : Int → Option (List Int)) : Prop :=
  (b0 = true ∧ dm probe = dm0 probe) ∨ (b0 = false ∧ (dm probe).getD [] = (dm0 probe).getD [] ++ DL ends S probe i ∧ (dm probe).isSome = ((dm0 probe).isSome || decide (0 < (DL ends S probe i).length)))
theorem DmI.start {b0 : Bool} {ends : List Int} {S : List Step} {probe : Int} {dm0 : Int → Option (List Int)} : DmI b0 ends S probe dm0 0 dm0 := by
  cases b0 with
  | true => exact Or.inl ⟨rfl, rfl⟩
  | false => exact Or.inr ⟨rfl, by show _ = _ ++ []; simp, by show _ = (_ || decide (0 < ([] : List Int).length)); simp⟩
theorem DmI.step {b0 : Bool} {ends : List Int} {S : List Step} {probe : Int} {dm0 dm : Int → Option (List Int)} {i : Nat} {o : Option OpC} (h : DmI b0 ends S probe dm0 i dm) (ho : o = none ↔ b0 = false) :
    DmI b0 ends S probe dm0 (i + 1) (if drS ends S i = true ∧ o = none then dirtyAdd dm (S.getD i e0).t (S.getD i e0).src else dm) := by
  rcases h with ⟨hb, h⟩ | ⟨hb, h1, h2⟩
  · rw [if_neg (fun hh => by rw [hb] at ho; exact absurd (ho.1 hh.2) (by simp))]
    exact Or.inl ⟨hb, h⟩
  · refine Or.inr ⟨hb, ?_⟩
    have hn := ho.2 hb
    have e : DL ends S probe (i + 1) = if (S.getD i e0).t = probe ∧ drS ends S i = true then DL ends S probe i ++ [(S.getD i e0).src] else DL ends S probe i := rfl
    by_cases hd : drS ends S i = true
    · rw [if_pos ⟨hd, hn⟩]
      by_cases ht : (S.getD i e0).t = probe
      · rw [if_pos ⟨ht, hd⟩] at e
        rw [e]
        unfold dirtyAdd dirtyAt
        rw [if_pos ht.symm, ht]
        refine ⟨?_, by simp⟩
        show (dm probe).getD [] ++ _ = _
        rw [h1, List.append_assoc]
      · rw [if_neg (fun hh => ht hh.1)] at e
        rw [e]
        unfold dirtyAdd
        rw [if_neg (Ne.symm ht)]
        exact ⟨h1, h2⟩
    · rw [if_neg (fun hh => hd hh.1)]
      rw [if_neg (fun hh => hd hh.2)] at e
      rw [e]
      exact ⟨h1, h2⟩
theorem DL_len (ends : List Int) (S : List Step) (probe : Int) : ∀ i, (DL ends S probe i).length ≤ i := by
  intro i
  induction i with
  | zero => exact Nat.le_refl _
  | succ i ih =>
    have h2 : DL ends S probe (i + 1) = if (S.getD i e0).t = probe ∧ drS ends S i = true then DL ends S probe i ++ [(S.getD i e0).src] else DL ends S probe i := rfl
    rw [h2]
    split
    · simp; omega
    · omega

end Go.Proofs.Qxb6625890a
