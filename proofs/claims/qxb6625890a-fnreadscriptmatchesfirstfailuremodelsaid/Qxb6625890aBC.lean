/-
  Seat b6625890a: the law FnReadScriptMatchesFirstFailureModel: what stands in memory behind the reads.
-/
import Derived.Test.Qxb6625890aBB
import Derived.Test.Qxb6625890aAG
namespace Go.Proofs.Qxb6625890a
open Go.RowKit Go.Maps
set_option linter.unusedVariables false

/-- The law's data. -/
structure SP where
  bst : Nat
  bf : Nat
  cb : Nat
  sa : Option Addr
  sc : Nat
  S : List Step
  probe : Int
  ends : List Int
  I0 : List (Int × Int)
  R0 : List (Int × Int)
  des : List DEnt
  a0 : Option Addr
  a1 : Option Addr
  a2 : Option Addr
  a4 : Option Addr
  q0 : Nat
  q1 : Nat
  q2 : Nat
  q4 : Nat
  b0 : Bool
  b1 : Bool
  b2 : Bool
  b3 : Bool
  o0 : Nat → Option OpC
  out : Nat → Option OpC
  dm : Int → Option (List Int)
def SP.lim (p : SP) : Nat := limS p.b3 p.ends p.I0 p.S
def SP.I (p : SP) (i : Nat) : List (Int × Int) := (PS p.lim p.I0 p.R0 p.S i).1
def SP.R (p : SP) (i : Nat) : List (Int × Int) := (PS p.lim p.I0 p.R0 p.S i).2
def SP.fr (p : SP) (i : Nat) : Bool := Go.Proofs.Qxb6625890a.fr p.lim p.I0 p.R0 p.S i
def SP.G (p : SP) (i k : Nat) : Int × Int := Go.Proofs.Qxb6625890a.G p.lim p.I0 p.R0 p.S i k
def SP.s (p : SP) (i : Nat) : Step := p.S.getD i e0
def SP.dr (p : SP) (i : Nat) : Bool := drS p.ends p.S i
def SP.cf (p : SP) (i : Nat) : Bool := cfS p.ends p.I0 p.S i
def SP.f (p : SP) (k : Nat) : Nat := ffw (wS p.ends p.I0 p.S k) p.S.length p.S.length
def SP.z (p : SP) : List Int := (dmOf p.des p.probe).getD []
def SP.h (p : SP) : Bool := (dmOf p.des p.probe).isSome
def SP.D (p : SP) (i : Nat) : List Int := DL p.ends p.S p.probe i

/-- The state as the law keeps it, and the steps. -/
structure Base (w : World) (p : SP) : Prop where
  k0 : w.cell? ⟨p.bst, 0, none⟩ = some (.slice p.a0 p.ends.length p.q0)
  k1 : w.cell? ⟨p.bst, 1, none⟩ = some (.slice p.a1 p.I0.length p.q1)
  k2 : w.cell? ⟨p.bst, 2, none⟩ = some (.slice p.a2 p.R0.length p.q2)
  k7 : w.cell? ⟨p.bst, 7, none⟩ = some (.slice p.a4 p.des.length p.q4)
  kb : ∀ k, k < 4 → w.cell? ⟨p.bst, 3 + k, none⟩ = some (.bool (c4 p.b0 p.b1 p.b2 p.b3 k))
  s0 : Sl w p.a0 (bytes p.ends)
  s1 : Sl w p.a1 (flat p.I0)
  s2 : Sl w p.a2 (flat p.R0)
  s4 : Sl w p.a4 (flatD p.des)
  sd : ∀ i, i < p.des.length → Sl w (p.des.getD i d0).ad (ints (p.des.getD i d0).zs)
  ss : Sl w p.sa (flatS p.S)
  hbf : ∀ k, k < 4 → w.cell? ⟨p.bf, k, none⟩ = some (optr (p.o0 k))
theorem Base.grown {w w' : World} {p : SP} (h : Base w p) (b : Below w.heap.size w w') : Base w' p :=
  ⟨cell_later b h.k0, cell_later b h.k1, cell_later b h.k2, cell_later b h.k7, fun k hk => cell_later b (h.kb k hk), h.s0.below b, h.s1.below b, h.s2.below b, h.s4.below b, fun i hi => (h.sd i hi).below b, h.ss.below b, fun k hk => cell_later b (h.hbf k hk)⟩
/-- The plain facts. -/
structure Plain (p : SP) : Prop where
  dom : SDom p.b0 p.b1 p.b2 p.b3 p.ends p.I0 p.R0 p.des p.S
  pw : (Lit.int .i32 p.probe).wf = true
  tw : ∀ i, i < p.S.length → (Lit.int .i32 (p.S.getD i e0).t).wf = true
  rg : ∀ i, i < p.S.length → I32 (p.S.getD i e0).item ∧ I32 (p.S.getD i e0).src
structure Env (w0 : World) (B : Nat) (w : World) (p : SP) : Prop where
  cls : ∃ F tb db mi N vi vr vt f, ClsV w F p.cb tb db mi N 5000000 vi vr vt f p.ends p.out (p.I p.S.length) (p.R p.S.length) p.dm
  base : Base w p
  pl : Plain p
  oi : OutI p.b0 p.b1 p.b2 p.b3 p.ends p.I0 p.S p.o0 p.S.length p.out
  di : DmI p.b0 p.ends p.S p.probe (dmOf p.des) p.S.length p.dm
  bel : Below B w0 w
  Bw : B ≤ w.heap.size
theorem Env.grown {w0 w w' : World} {B : Nat} {p : SP} (h : Env w0 B w p) (b : Below w.heap.size w w') : Env w0 B w' p := by
  obtain ⟨F, tb, db, mi, N, vi, vr, vt, f, hV⟩ := h.cls
  exact ⟨⟨F, tb, db, mi, N, vi, vr, vt, f, hV.grown b⟩, h.base.grown b, h.pl, h.oi, h.di, h.bel.trans (b.mono h.Bw), Nat.le_trans h.Bw b.size⟩
/-- .. and nothing of it lies at or past M. -/
def EnvF (w0 : World) (B : Nat) (w : World) (p : SP) (M : Nat) : Prop := ∃ wE, Env w0 B wE p ∧ wE.heap.size = M ∧ Below M wE w
theorem EnvF.env {w0 w : World} {B M : Nat} {p : SP} (h : EnvF w0 B w p M) : Env w0 B w p := by
  obtain ⟨wE, h1, rfl, h2⟩ := h
  exact h1.grown h2
theorem EnvF.le {w0 w : World} {B M : Nat} {p : SP} (h : EnvF w0 B w p M) : M ≤ w.heap.size := by
  obtain ⟨wE, h1, rfl, h2⟩ := h
  exact h2.size
theorem EnvF.grown {w0 w w' : World} {B M : Nat} {p : SP} (h : EnvF w0 B w p M) (b : Below M w w') : EnvF w0 B w' p M := by
  obtain ⟨wE, h1, e, h2⟩ := h
  exact ⟨wE, h1, e, h2.trans b⟩
theorem EnvF.grown' {w0 w w' : World} {B M : Nat} {p : SP} (h : EnvF w0 B w p M) (b : Below w.heap.size w w') : EnvF w0 B w' p M := h.grown (b.mono h.le)
theorem Env.toF {w0 w : World} {B : Nat} {p : SP} (h : Env w0 B w p) : EnvF w0 B w p w.heap.size := ⟨w, h, rfl, Below.refl _ _⟩
/-- The slice that dirty holds at the probe. -/
theorem Env.got {w0 w : World} {B : Nat} {p : SP} (h : Env w0 B w p) : ∃ o cp, Calls Try.prog 17 #[.pointer (some ⟨p.cb, 0, none⟩), .int .i32 p.probe] w (fun e w' => e = .returned (.tuple #[.slice o ((p.dm p.probe).getD []).length cp, .bool (p.dm p.probe).isSome]) ∧ w' = w) ∧ Sl w o (ints ((p.dm p.probe).getD [])) ∧ ((p.dm p.probe).getD []).length ≤ 5000000 := by
  obtain ⟨F, tb, db, mi, N, vi, vr, vt, f, hV⟩ := h.cls
  have hc := dirtyAt_any hV p.probe h.pl.pw
  cases hf : f p.probe with
  | none =>
    have := hV.non p.probe hf
    rw [hf] at hc
    rw [this]
    exact ⟨none, 0, hc, Sl.nil _ _, Nat.zero_le _⟩
  | some v =>
    obtain ⟨zs, h1, h2, h3⟩ := hV.grp p.probe v hf
    obtain ⟨o, cp, rfl⟩ := row_shape h2
    rw [hf] at hc
    rw [h1]
    exact ⟨o, cp, hc, sl_of_row h2, h3⟩
theorem Env.outOf {w0 w : World} {B : Nat} {p : SP} (h : Env w0 B w p) (k : Nat) (hk : k < 4) : Calls Try.prog 9 #[.pointer (some ⟨p.cb, 0, none⟩), .int .i64 k] w (fun e w' => e = .returned (optr (p.out k)) ∧ w' = w) := by
  obtain ⟨F, tb, db, mi, N, vi, vr, vt, f, hV⟩ := h.cls
  exact outOf_any hV k hk
theorem Env.ops {w0 w : World} {B : Nat} {p : SP} (h : Env w0 B w p) (k b : Nat) (cs : List Value) (ho : p.out k = some (b, cs)) : w.heap[b]? = some (.cells cs.toArray 45 (0, 0)) := by
  obtain ⟨F, tb, db, mi, N, vi, vr, vt, f, hV⟩ := h.cls
  exact hV.ops k b cs ho
/-- Facts on the state with its plain name. -/
theorem SP.Ilen {p : SP} (h : Plain p) : (p.I p.S.length).length = clen p.I0.length p.S p.S.length := PS_len h.dom.ok _ (Nat.le_refl _)
theorem SP.lim_le {p : SP} : p.lim ≤ p.S.length := by
  unfold SP.lim limS
  split
  · exact Nat.zero_le _
  · exact ffw_le _ _ _ (Nat.le_refl _)
theorem SP.Rlen {p : SP} (h : Plain p) (i : Nat) (hi : i ≤ p.S.length) : (p.R i).length ≤ 1049088 := by
  have h1 := PR_len_le (lim := p.lim) (R0 := p.R0) h.dom.ok i hi
  have h2 := h.dom.len.r
  have h3 := h.dom.n
  exact Nat.le_trans h1 (by omega)
theorem SP.clen_le {p : SP} (h : Plain p) (i : Nat) (hi : i ≤ p.S.length) : clen p.I0.length p.S i ≤ 1049088 := by
  have h1 := Qxb6625890a.clen_le p.I0.length p.S i
  have h2 := h.dom.len.i
  have h3 := h.dom.n
  omega
theorem DL_at (ends : List Int) (S : List Step) (probe : Int) (i : Nat) (hc : (S.getD i e0).t = probe ∧ drS ends S i = true) : ∀ d, (DL ends S probe i).length < (DL ends S probe (i + 1 + d)).length ∧ (DL ends S probe (i + 1 + d)).getD (DL ends S probe i).length 0 = (S.getD i e0).src := by
  intro d
  induction d with
  | zero =>
    have h2 : DL ends S probe (i + 1 + 0) = if (S.getD i e0).t = probe ∧ drS ends S i = true then DL ends S probe i ++ [(S.getD i e0).src] else DL ends S probe i := rfl
    rw [if_pos hc] at h2
    rw [h2]
    refine ⟨by simp, ?_⟩
    rw [List.getD_eq_getElem?_getD, List.getElem?_append_right (by omega)]
    simp
  | succ d ih =>
    have h2 : DL ends S probe (i + 1 + (d + 1)) = if (S.getD (i + 1 + d) e0).t = probe ∧ drS ends S (i + 1 + d) = true then DL ends S probe (i + 1 + d) ++ [(S.getD (i + 1 + d) e0).src] else DL ends S probe (i + 1 + d) := rfl
    rw [h2]
    split
    · refine ⟨by simp; omega, ?_⟩
      rw [List.getD_eq_getElem?_getD, List.getElem?_append_left ih.1, ← List.getD_eq_getElem?_getD]
      exact ih.2
    · exact ih
theorem SP.D_at {p : SP} {i : Nat} (hi : i < p.S.length) (hc : (p.S.getD i e0).t = p.probe ∧ p.dr i = true) : (p.D i).length < (p.D p.S.length).length ∧ (p.D p.S.length).getD (p.D i).length 0 = (p.S.getD i e0).src := by
  have := DL_at p.ends p.S p.probe i hc (p.S.length - (i + 1))
  rw [show i + 1 + (p.S.length - (i + 1)) = p.S.length by omega] at this
  exact this
theorem SP.D_succ {p : SP} (i : Nat) : p.D (i + 1) = if (p.S.getD i e0).t = p.probe ∧ p.dr i = true then p.D i ++ [(p.S.getD i e0).src] else p.D i := rfl
theorem SP.D_len {p : SP} (i : Nat) : (p.D i).length ≤ i := DL_len _ _ _ i

end Go.Proofs.Qxb6625890a
