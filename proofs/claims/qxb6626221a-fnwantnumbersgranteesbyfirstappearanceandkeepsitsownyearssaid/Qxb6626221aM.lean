/-
  Seat b6626221a: FnWantNumbersGranteesByFirstAppearanceAndKeepsItsOwnYears, walked statement by statement ('tl Try.f3 j': the function's text from statement j on). Frames written by program.
-/
import Derived.Test.Qxb6626221aE
namespace Go.Proofs.Qxb6626221a.N3
open Go.RowKit Go.Maps
set_option linter.unusedVariables false
attribute [local go_sem] eqNil23 neNil23 neNil22

/-- What lies in memory behind the call of Want. -/
structure Env (w : World) (o : Option Addr) (ss : List ByteArray) (c : Option Addr) (zs : List Int) (b : Nat) (D : DataW Unit) (oy : Option Addr) (cpy bw : Nat) : Prop where
  strs : Strs w o ss
  ints : IntsO w c zs
  m : w.ownsMap Try.prog 9 (plainElem Try.prog 3) b ss.length D
  nn : Num D (Pl.dst (keys ss))
  ys : IntsO w oy zs
  c1 : w.cell? ⟨bw, 0, none⟩ = some (.map (some b))
  c2 : w.cell? ⟨bw, 1, none⟩ = some (.slice oy zs.length cpy)
theorem Env.below {w w' : World} {o : Option Addr} {ss : List ByteArray} {c : Option Addr} {zs : List Int} {b : Nat} {D : DataW Unit} {oy : Option Addr} {cpy bw : Nat}
    (h : Env w o ss c zs b D oy cpy bw) (hb : Below w.heap.size w w') : Env w' o ss c zs b D oy cpy bw :=
  ⟨h.strs.below hb, h.ints.below hb, map_below h.m hb, h.nn, h.ys.below hb, cell_later hb h.c1, cell_later hb h.c2⟩
/-- Block g is none of those. -/
structure Off (g : Nat) (o : Option Addr) (ss : List ByteArray) (c : Option Addr) (zs : List Int) (b : Nat) (oy : Option Addr) (bw : Nat) : Prop where
  strs : ss ≠ [] → ∀ ad, o = some ad → ad.block ≠ g
  ints : zs ≠ [] → ∀ ad, c = some ad → ad.block ≠ g
  m : b ≠ g
  ys : zs ≠ [] → ∀ ad, oy = some ad → ad.block ≠ g
  w : bw ≠ g
theorem cell_setCell_other {w : World} {a p : Addr} {u v : Value} (h : w.cell? p = some v) (hne : p.block ≠ a.block) : (w.setCell a u).cell? p = some v :=
  (World.cell?_of_block (w := w) (Below.heap_setCell w a u p.block hne)).trans h
theorem Env.setCell {w : World} {o : Option Addr} {ss : List ByteArray} {c : Option Addr} {zs : List Int} {b : Nat} {D : DataW Unit} {oy : Option Addr} {cpy bw : Nat} {a : Addr}
    (h : Env w o ss c zs b D oy cpy bw) (hf : Off a.block o ss c zs b oy bw) (u : Value) : Env (w.setCell a u) o ss c zs b D oy cpy bw := by
  refine ⟨?_, ⟨h.ints.1, ?_⟩, h.m.setCell hf.m u, h.nn, ⟨h.ys.1, ?_⟩, cell_setCell_other h.c1 hf.w, cell_setCell_other h.c2 hf.w⟩
  · intro hne
    obtain ⟨x, off, e, hc⟩ := h.strs hne
    exact ⟨x, off, e, fun i hi => cell_setCell_other (hc i hi) (show x ≠ a.block from hf.strs hne ⟨x, off, none⟩ e)⟩
  · intro ad e hne
    obtain ⟨x, off, e', hc⟩ := h.ints.2 ad e hne
    subst e'
    exact ⟨x, off, rfl, fun i hi => cell_setCell_other (hc i hi) (show x ≠ a.block from hf.ints hne ⟨x, off, none⟩ e)⟩
  · intro ad e hne
    obtain ⟨x, off, e', hc⟩ := h.ys.2 ad e hne
    subst e'
    exact ⟨x, off, rfl, fun i hi => cell_setCell_other (hc i hi) (show x ≠ a.block from hf.ys hne ⟨x, off, none⟩ e)⟩

theorem cloneInts_any (c : Option Addr) (cap : Nat) (zs : List Int) (w : World) (hs : IntsO w c zs) (hl : zs.length ≤ 65536) :
    Calls Try.prog 6 #[.slice c zs.length cap] w fun e w' => ∃ o cp, e = .returned (.slice o zs.length cp) ∧ o.isNone = c.isNone ∧
      w'.ownsRow w.heap.size 3 1 (.slice o zs.length cp) zs.length (zs.map (Value.int .i64)) ∧ Below w.heap.size w w' := by
  cases c with
  | none =>
    obtain rfl := hs.1 rfl
    refine (cloneInts_nil cap w).mono ?_
    rintro e w' ⟨rfl, hw⟩
    subst hw
    exact ⟨none, 0, rfl, rfl, World.ownsRow_nil _ _ _ _, Below.refl _ _⟩
  | some ad =>
    refine (cloneInts_some ad cap zs w (hs.2 ad rfl) hl).mono ?_
    rintro e w' ⟨rfl, ho, hb⟩
    exact ⟨_, _, rfl, rfl, ho, hb⟩
/-- Where an owned row lies. -/
theorem row_at {w : World} {base : Nat} {e : TypeId} {size : Nat} {o : Option Addr} {n cp : Nat} {xs : List Value} (h : w.ownsRow base e size (.slice o n cp) n xs) : ∀ ad, o = some ad → ∃ g, ad = ⟨g, 0, none⟩ ∧ base ≤ g ∧ g < w.heap.size := by
  intro ad e
  subst e
  have hl := h.lt
  rcases h.2 with ⟨h', h''⟩ | ⟨g, cap, cur, h', hb, _⟩
  · simp at h'
  · simp only [Value.slice.injEq, Option.some.injEq, true_and] at h'
    obtain ⟨rfl, rfl⟩ := h'
    exact ⟨g, rfl, hb, (hl g rfl).2⟩

/-- Place j is the first at which the name of place i stands. -/
def IsFst (ks : List Pl.Ky) (i j : Nat) : Prop := j ≤ i ∧ ks.getD j [] = ks.getD i [] ∧ ∀ t, t < j → ks.getD t [] ≠ ks.getD i []
/-- The slice 'first', filled up to place q. -/
def First (w : World) (B g n : Nat) (ks : List Pl.Ky) (q : Nat) : Prop :=
  ∃ xs, w.ownsRow B 3 1 (.slice (some ⟨g, 0, none⟩) n n) n xs ∧ ∀ t, t < q → ∃ j : Nat, xs[t]? = some (.int .i64 j) ∧ IsFst ks t j
/-- The slice 'rank', filled up to place q. -/
def Rank (w : World) (B g n : Nat) (ks : List Pl.Ky) (q : Nat) : Prop :=
  ∃ xs, w.ownsRow B 3 1 (.slice (some ⟨g, 0, none⟩) n n) n xs ∧ ∀ t, t < q → xs[t]? = some (.int .i64 (Pl.dst (ks.take t)).length)
theorem First.below {w w' : World} {B g n : Nat} {ks : List Pl.Ky} {q : Nat} (h : First w B g n ks q) (hb : Below w.heap.size w w') : First w' B g n ks q := by
  obtain ⟨xs, ho, hx⟩ := h
  exact ⟨xs, row_below ho hb, hx⟩
theorem Rank.below {w w' : World} {B g n : Nat} {ks : List Pl.Ky} {q : Nat} (h : Rank w B g n ks q) (hb : Below w.heap.size w w') : Rank w' B g n ks q := by
  obtain ⟨xs, ho, hx⟩ := h
  exact ⟨xs, row_below ho hb, hx⟩
theorem First.at {w : World} {B g n : Nat} {ks : List Pl.Ky} {q t : Nat} (h : First w B g n ks q) (ht : t < q) (hn : t < n) : ∃ j : Nat, w.cell? ⟨g, t, none⟩ = some (.int .i64 j) ∧ IsFst ks t j := by
  obtain ⟨xs, ho, hx⟩ := h
  obtain ⟨j, e, hj⟩ := hx t ht
  exact ⟨j, by rw [ho.cellAt t (by omega), e], hj⟩
theorem Rank.at {w : World} {B g n : Nat} {ks : List Pl.Ky} {q t : Nat} (h : Rank w B g n ks q) (ht : t < q) (hn : t < n) : w.cell? ⟨g, t, none⟩ = some (.int .i64 (Pl.dst (ks.take t)).length) := by
  obtain ⟨xs, ho, hx⟩ := h
  rw [ho.cellAt t (by omega), hx t ht]
theorem First.set {w : World} {B g n : Nat} {ks : List Pl.Ky} {q j : Nat} (h : First w B g n ks q) (hq : q < n) (hj : IsFst ks q j) :
    (∃ x, w.cell? ⟨g, q, none⟩ = some x) ∧ w.frozen? ⟨g, q, none⟩ = false ∧ First (w.setCell ⟨g, q, none⟩ (.int .i64 j)) B g n ks (q + 1) := by
  obtain ⟨xs, ho, hx⟩ := h
  have hl : xs.length = n := by have := ho.1; omega
  refine ⟨⟨xs[q], by rw [ho.cellAt q (by omega), List.getElem?_eq_getElem]⟩, ho.frozenAt q, xs.set q (.int .i64 j), (ho.stored q _).1, fun t ht => ?_⟩
  by_cases e : q = t
  · subst e; exact ⟨j, by simp [hl, hq], hj⟩
  · obtain ⟨j', e', hj'⟩ := hx t (by omega)
    exact ⟨j', by rw [List.getElem?_set, if_neg e]; exact e', hj'⟩
theorem Rank.set {w : World} {B g n : Nat} {ks : List Pl.Ky} {q : Nat} (h : Rank w B g n ks q) (hq : q < n) :
    (∃ x, w.cell? ⟨g, q, none⟩ = some x) ∧ w.frozen? ⟨g, q, none⟩ = false ∧ Rank (w.setCell ⟨g, q, none⟩ (.int .i64 (Pl.dst (ks.take q)).length)) B g n ks (q + 1) := by
  obtain ⟨xs, ho, hx⟩ := h
  have hl : xs.length = n := by have := ho.1; omega
  refine ⟨⟨xs[q], by rw [ho.cellAt q (by omega), List.getElem?_eq_getElem]⟩, ho.frozenAt q, _, (ho.stored q _).1, fun t ht => ?_⟩
  by_cases e : q = t
  · subst e; simp [hl, hq]
  · rw [List.getElem?_set, if_neg e]; exact hx t (by omega)

theorem tl3_0 : tl Try.f3 0 = Code.seq (st Try.f3 0) (tl Try.f3 1) := by kernel_rfl
theorem tl3_1 : tl Try.f3 1 = Code.seq (st Try.f3 1) (tl Try.f3 2) := by kernel_rfl
theorem tl3_2 : tl Try.f3 2 = Code.seq (st Try.f3 2) (tl Try.f3 3) := by kernel_rfl
theorem tl3_3 : tl Try.f3 3 = Code.seq (st Try.f3 3) (tl Try.f3 4) := by kernel_rfl
theorem tl3_4 : tl Try.f3 4 = Code.seq (st Try.f3 4) (tl Try.f3 5) := by kernel_rfl
theorem tl3_5 : tl Try.f3 5 = Code.seq (st Try.f3 5) (tl Try.f3 6) := by kernel_rfl
theorem tl3_6 : tl Try.f3 6 = Code.seq (st Try.f3 6) (tl Try.f3 7) := by kernel_rfl
theorem tl3_7 : tl Try.f3 7 = Code.seq (st Try.f3 7) (tl Try.f3 8) := by kernel_rfl
theorem tl3_8 : tl Try.f3 8 = Code.seq (st Try.f3 8) (tl Try.f3 9) := by kernel_rfl
theorem tl3_9 : tl Try.f3 9 = Code.seq (st Try.f3 9) (tl Try.f3 10) := by kernel_rfl
theorem tl3_10 : tl Try.f3 10 = Code.seq (st Try.f3 10) (tl Try.f3 11) := by kernel_rfl
theorem tl3_11 : tl Try.f3 11 = Code.seq (st Try.f3 11) (tl Try.f3 12) := by kernel_rfl
theorem tl3_12 : tl Try.f3 12 = Code.seq (st Try.f3 12) (tl Try.f3 13) := by kernel_rfl
theorem tl3_13 : tl Try.f3 13 = Code.seq (st Try.f3 13) (tl Try.f3 14) := by kernel_rfl
theorem tl3_14 : tl Try.f3 14 = Code.seq (st Try.f3 14) (tl Try.f3 15) := by kernel_rfl
theorem tl3_15 : tl Try.f3 15 = Code.seq (st Try.f3 15) (tl Try.f3 16) := by kernel_rfl
theorem tl3_16 : tl Try.f3 16 = Code.seq (st Try.f3 16) (tl Try.f3 17) := by kernel_rfl
theorem tl3_17 : tl Try.f3 17 = Code.seq (st Try.f3 17) (tl Try.f3 18) := by kernel_rfl
theorem tl3_18 : tl Try.f3 18 = Code.seq (st Try.f3 18) (tl Try.f3 19) := by kernel_rfl
theorem tl3_19 : tl Try.f3 19 = Code.seq (st Try.f3 19) (tl Try.f3 20) := by kernel_rfl
theorem tl3_20 : tl Try.f3 20 = Code.seq (st Try.f3 20) (tl Try.f3 21) := by kernel_rfl
theorem tl3_21 : tl Try.f3 21 = Code.seq (st Try.f3 21) (tl Try.f3 22) := by kernel_rfl

set_option maxRecDepth 100000 in
set_option maxHeartbeats 1000000 in
theorem t21  (w w0 : World) (u0 u1 u2 u3 u4 u5 u6 u7 u8 u9 u10 u11 u12 u13 u14 u15 u16 u17 u18 u19 u20 u21 u22 u23 u24 u25 u26 u27 u28 u29 u30 u31 u32 u33 u34 u35 u36 u37 u38 u39 u40 u41 u42 u43 u44 u45 u46 u47 u48 u49 u50 u51 u52 u53 u54 u55 u56 u57 u58 u59 u60 u61 u62 u63 u64 u65 u66 u67 u68 u69 u70 u71 u72 u73 u74 u75 u76 u77 u78 u79 u80 u81 u82 u83 u84 u85 u86 u87 u88 u89 u90 u91 u92 u93 u94 u95 u96 u97 u98 u99 u100 u101 u102 u103 u104 u105 u106 u107 u108 u109 u110 u111 u112 u113 u114 u115 u116 u117 u118 u119 u120 u121 u122 u123 u124 u125 u126 u127 u128 u129 u130 u131 u132 u133 u134 u135 u136 u137 u138 u139 u140 u141 u142 u143 u144 u145 u146 u147 u148 u149 u150 u151 u152 u153 u154 u155 u156 u157 u158 u159 u160 u161 u162 u163 u164 u165 u166 u167 u168 u169 u170 u171 u172 u173 u174 u175 u176 u177 u178 u179 u180 u181 u182 u183 u184 u185 u186 u187 u188 u189 u190 u191 u192 : Value)
    (hb : Below w0.heap.size w0 w) :
    Code.wp Try.prog (tl Try.f3 21) (QT Try.f3 w0.heap.size w0) ⟨#[u0, u1, u2, u3, u4, u5, u6, u7, u8, u9, u10, u11, u12, u13, u14, u15, u16, u17, u18, u19, u20, u21, u22, u23, u24, u25, u26, u27, u28, u29, u30, u31, u32, u33, u34, u35, u36, u37, u38, u39, u40, u41, u42, u43, u44, u45, u46, u47, u48, u49, u50, u51, u52, u53, u54, u55, u56, u57, u58, u59, u60, u61, u62, u63, u64, u65, u66, u67, u68, u69, u70, u71, u72, u73, u74, u75, u76, u77, u78, u79, u80, u81, u82, u83, u84, u85, u86, u87, u88, u89, u90, u91, u92, u93, u94, u95, u96, u97, u98, u99, u100, u101, u102, u103, u104, u105, u106, u107, u108, u109, u110, u111, u112, u113, u114, u115, u116, u117, u118, u119, u120, u121, u122, u123, u124, u125, u126, u127, u128, u129, u130, u131, u132, u133, u134, u135, u136, u137, u138, u139, u140, u141, u142, u143, u144, u145, u146, u147, u148, u149, u150, u151, u152, u153, u154, u155, u156, u157, u158, u159, u160, u161, u162, u163, u164, u165, u166, u167, u168, u169, u170, u171, u172, u173, u174, u175, u176, u177, u178, u179, u180, u181, u182, u183, u184, u185, u186, u187, u188, u189, u190, u191, u192], []⟩ w := by
  conv => arg 2; whnf
  unfold QT
  go_wp2_with fail
  go_ret
  exact ⟨rfl, hb⟩

set_option maxRecDepth 100000 in
set_option maxHeartbeats 1000000 in
theorem t20 (o : Option Addr) (cp : Nat) (ss : List ByteArray) (c : Option Addr) (cp2 : Nat) (zs : List Int) (oy : Option Addr) (cpy : Nat) (w w0 : World) (u2 u3 u4 u5 u6 u7 u8 u9 u10 u11 u13 u14 u15 u16 u17 u18 u19 u20 u21 u22 u23 u24 u25 u26 u27 u28 u29 u30 u31 u32 u33 u34 u35 u36 u37 u38 u39 u40 u41 u42 u43 u44 u45 u46 u47 u48 u49 u50 u51 u52 u53 u54 u55 u56 u57 u58 u59 u60 u61 u62 u63 u64 u65 u66 u67 u68 u69 u70 u71 u72 u73 u74 u75 u76 u77 u78 u79 u80 u81 u82 u83 u84 u85 u86 u87 u88 u89 u90 u91 u92 u93 u94 u95 u96 u97 u98 u99 u100 u101 u102 u103 u104 u105 u106 u107 u108 u109 u110 u111 u112 u113 u114 u115 u116 u117 u118 u119 u120 u121 u122 u123 u124 u125 u126 u127 u128 u129 u130 u131 u132 u133 u134 u135 u136 u137 u138 u139 u140 u141 u142 u143 u144 u145 u146 u147 u148 u149 u150 u151 u152 u153 u154 u155 u156 u157 u158 u159 u160 u161 u162 u163 u164 u165 u166 u167 u168 u169 u170 u171 u172 u173 u174 u175 u176 u177 u178 u179 u180 u181 u182 u183 u184 u185 u186 u187 u188 u189 u190 u191 u192 : Value)
    (hc : IntsO w c zs) (hy : IntsO w oy zs) (hz : zs.length ≤ 65536) (hb : Below w0.heap.size w0 w) :
    Code.wp Try.prog (tl Try.f3 20) (QT Try.f3 w0.heap.size w0) ⟨#[.slice o ss.length cp, .slice c zs.length cp2, u2, u3, u4, u5, u6, u7, u8, u9, u10, u11, .slice oy zs.length cpy, u13, u14, u15, u16, u17, u18, u19, u20, u21, u22, u23, u24, u25, u26, u27, u28, u29, u30, u31, u32, u33, u34, u35, u36, u37, u38, u39, u40, u41, u42, u43, u44, u45, u46, u47, u48, u49, u50, u51, u52, u53, u54, u55, u56, u57, u58, u59, u60, u61, u62, u63, u64, u65, u66, u67, u68, u69, u70, u71, u72, u73, u74, u75, u76, u77, u78, u79, u80, u81, u82, u83, u84, u85, u86, u87, u88, u89, u90, u91, u92, u93, u94, u95, u96, u97, u98, u99, u100, u101, u102, u103, u104, u105, u106, u107, u108, u109, u110, u111, u112, u113, u114, u115, u116, u117, u118, u119, u120, u121, u122, u123, u124, u125, u126, u127, u128, u129, u130, u131, u132, u133, u134, u135, u136, u137, u138, u139, u140, u141, u142, u143, u144, u145, u146, u147, u148, u149, u150, u151, u152, u153, u154, u155, u156, u157, u158, u159, u160, u161, u162, u163, u164, u165, u166, u167, u168, u169, u170, u171, u172, u173, u174, u175, u176, u177, u178, u179, u180, u181, u182, u183, u184, u185, u186, u187, u188, u189, u190, u191, u192], []⟩ w := by
  rw [tl3_20]
  refine wp_seq_k (fun K hK => ?_)
  conv => arg 2; whnf
  go_wp2_with fail
  go_loopw [23] (fun i wr => ∃ q : Nat, q ≤ zs.length ∧ i = .int .i64 q ∧ Below w.heap.size w wr) (fun i _ => zs.length - (intOf i).toNat)
  case atStart => exact ⟨0, Nat.zero_le _, rfl, Below.refl _ _⟩
  case round =>
    obtain ⟨q, hq, rfl, hbr⟩ := hrel
    by_cases hlt : q < zs.length
    · obtain ⟨x1, f1, rfl, e1⟩ := (hc.below hbr).at hlt
      obtain ⟨x2, f2, rfl, e2⟩ := (hy.below hbr).at hlt
      generalize zs.getD q 0 = z at e1 e2
      have hne : (z != z) = false := by simp
      have hlt' : (q : Int) < (zs.length : Int) := by omega
      clear hc hy
      go_wp2_with fail
      go_quiet (fail)
      go_wp2_with fail
      go_roundw
      case rel => exact ⟨q + 1, by omega, by go_num, below_drewN hbr _⟩
      case measure => simp [intOf]; omega
    · have hb' := hb.trans (hbr.mono hb.size)
      clear hc hy hbr hb
      go_wp2_with fail
      exact t21 _ _ _ _ _ _ _ _ _ _ _ _ _ _ _ _ _ _ _ _ _ _ _ _ _ _ _ _ _ _ _ _ _ _ _ _ _ _ _ _ _ _ _ _ _ _ _ _ _ _ _ _ _ _ _ _ _ _ _ _ _ _ _ _ _ _ _ _ _ _ _ _ _ _ _ _ _ _ _ _ _ _ _ _ _ _ _ _ _ _ _ _ _ _ _ _ _ _ _ _ _ _ _ _ _ _ _ _ _ _ _ _ _ _ _ _ _ _ _ _ _ _ _ _ _ _ _ _ _ _ _ _ _ _ _ _ _ _ _ _ _ _ _ _ _ _ _ _ _ _ _ _ _ _ _ _ _ _ _ _ _ _ _ _ _ _ _ _ _ _ _ _ _ _ _ _ _ _ _ _ _ _ _ _ _ _ _ _ _ _ _ _ _ _ _ hb'

set_option maxRecDepth 100000 in
set_option maxHeartbeats 1000000 in
theorem t19 (o : Option Addr) (cp : Nat) (ss : List ByteArray) (c : Option Addr) (cp2 : Nat) (zs : List Int) (oy : Option Addr) (cpy : Nat) (w w0 : World) (u2 u3 u4 u5 u6 u7 u8 u9 u10 u11 u13 u14 u15 u16 u17 u18 u19 u20 u21 u22 u23 u24 u25 u26 u27 u28 u29 u30 u31 u32 u33 u34 u35 u36 u37 u38 u39 u40 u41 u42 u43 u44 u45 u46 u47 u48 u49 u50 u51 u52 u53 u54 u55 u56 u57 u58 u59 u60 u61 u62 u63 u64 u65 u66 u67 u68 u69 u70 u71 u72 u73 u74 u75 u76 u77 u78 u79 u80 u81 u82 u83 u84 u85 u86 u87 u88 u89 u90 u91 u92 u93 u94 u95 u96 u97 u98 u99 u100 u101 u102 u103 u104 u105 u106 u107 u108 u109 u110 u111 u112 u113 u114 u115 u116 u117 u118 u119 u120 u121 u122 u123 u124 u125 u126 u127 u128 u129 u130 u131 u132 u133 u134 u135 u136 u137 u138 u139 u140 u141 u142 u143 u144 u145 u146 u147 u148 u149 u150 u151 u152 u153 u154 u155 u156 u157 u158 u159 u160 u161 u162 u163 u164 u165 u166 u167 u168 u169 u170 u171 u172 u173 u174 u175 u176 u177 u178 u179 u180 u181 u182 u183 u184 u185 u186 u187 u188 u189 u190 u191 u192 : Value)
    (hn : oy.isNone = c.isNone) (hc : IntsO w c zs) (hy : IntsO w oy zs) (hz : zs.length ≤ 65536) (hb : Below w0.heap.size w0 w) :
    Code.wp Try.prog (tl Try.f3 19) (QT Try.f3 w0.heap.size w0) ⟨#[.slice o ss.length cp, .slice c zs.length cp2, u2, u3, u4, u5, u6, u7, u8, u9, u10, u11, .slice oy zs.length cpy, u13, u14, u15, u16, u17, u18, u19, u20, u21, u22, u23, u24, u25, u26, u27, u28, u29, u30, u31, u32, u33, u34, u35, u36, u37, u38, u39, u40, u41, u42, u43, u44, u45, u46, u47, u48, u49, u50, u51, u52, u53, u54, u55, u56, u57, u58, u59, u60, u61, u62, u63, u64, u65, u66, u67, u68, u69, u70, u71, u72, u73, u74, u75, u76, u77, u78, u79, u80, u81, u82, u83, u84, u85, u86, u87, u88, u89, u90, u91, u92, u93, u94, u95, u96, u97, u98, u99, u100, u101, u102, u103, u104, u105, u106, u107, u108, u109, u110, u111, u112, u113, u114, u115, u116, u117, u118, u119, u120, u121, u122, u123, u124, u125, u126, u127, u128, u129, u130, u131, u132, u133, u134, u135, u136, u137, u138, u139, u140, u141, u142, u143, u144, u145, u146, u147, u148, u149, u150, u151, u152, u153, u154, u155, u156, u157, u158, u159, u160, u161, u162, u163, u164, u165, u166, u167, u168, u169, u170, u171, u172, u173, u174, u175, u176, u177, u178, u179, u180, u181, u182, u183, u184, u185, u186, u187, u188, u189, u190, u191, u192], []⟩ w := by
  rw [tl3_19]
  refine wp_seq_k (fun K hK => ?_)
  conv => arg 2; whnf
  cases c with
  | none =>
    cases oy with
    | none =>
      clear hn
      go_wp2_with fail
      exact t20 _ _ _ _ _ _ _ _ _ _ _ _ _ _ _ _ _ _ _ _ _ _ _ _ _ _ _ _ _ _ _ _ _ _ _ _ _ _ _ _ _ _ _ _ _ _ _ _ _ _ _ _ _ _ _ _ _ _ _ _ _ _ _ _ _ _ _ _ _ _ _ _ _ _ _ _ _ _ _ _ _ _ _ _ _ _ _ _ _ _ _ _ _ _ _ _ _ _ _ _ _ _ _ _ _ _ _ _ _ _ _ _ _ _ _ _ _ _ _ _ _ _ _ _ _ _ _ _ _ _ _ _ _ _ _ _ _ _ _ _ _ _ _ _ _ _ _ _ _ _ _ _ _ _ _ _ _ _ _ _ _ _ _ _ _ _ _ _ _ _ _ _ _ _ _ _ _ _ _ _ _ _ _ _ _ _ _ _ _ _ _ _ _ _ _ _ _ _ _ _ hc hy hz hb
    | some y => simp at hn
  | some x =>
    cases oy with
    | none => simp at hn
    | some y =>
      clear hn
      go_wp2_with fail
      exact t20 _ _ _ _ _ _ _ _ _ _ _ _ _ _ _ _ _ _ _ _ _ _ _ _ _ _ _ _ _ _ _ _ _ _ _ _ _ _ _ _ _ _ _ _ _ _ _ _ _ _ _ _ _ _ _ _ _ _ _ _ _ _ _ _ _ _ _ _ _ _ _ _ _ _ _ _ _ _ _ _ _ _ _ _ _ _ _ _ _ _ _ _ _ _ _ _ _ _ _ _ _ _ _ _ _ _ _ _ _ _ _ _ _ _ _ _ _ _ _ _ _ _ _ _ _ _ _ _ _ _ _ _ _ _ _ _ _ _ _ _ _ _ _ _ _ _ _ _ _ _ _ _ _ _ _ _ _ _ _ _ _ _ _ _ _ _ _ _ _ _ _ _ _ _ _ _ _ _ _ _ _ _ _ _ _ _ _ _ _ _ _ _ _ _ _ _ _ _ _ _ hc hy hz hb

set_option maxRecDepth 100000 in
set_option maxHeartbeats 1000000 in
theorem t18 (o : Option Addr) (cp : Nat) (ss : List ByteArray) (c : Option Addr) (cp2 : Nat) (zs : List Int) (b : Nat) (D : DataW Unit) (oy : Option Addr) (cpy bw : Nat) (gf gr : Nat) (w w0 : World) (u2 u3 u4 u5 u6 u7 u8 u9 u10 u15 u16 u18 u19 u20 u21 u22 u23 u24 u25 u26 u27 u28 u29 u30 u31 u32 u33 u34 u35 u36 u37 u38 u39 u40 u41 u42 u43 u44 u45 u46 u47 u48 u49 u50 u51 u52 u53 u54 u55 u56 u57 u58 u59 u60 u61 u62 u63 u64 u65 u66 u67 u68 u69 u70 u71 u72 u73 u74 u75 u76 u77 u78 u79 u80 u81 u82 u83 u84 u85 u86 u87 u88 u89 u90 u91 u92 u93 u94 u95 u96 u97 u98 u99 u100 u101 u102 u103 u104 u105 u106 u107 u108 u109 u110 u111 u112 u113 u114 u115 u116 u117 u118 u119 u120 u121 u122 u123 u124 u125 u126 u127 u128 u129 u130 u131 u132 u133 u134 u135 u136 u137 u138 u139 u140 u141 u142 u143 u144 u145 u146 u147 u148 u149 u150 u151 u152 u153 u154 u155 u156 u157 u158 u159 u160 u161 u162 u163 u164 u165 u166 u167 u168 u169 u170 u171 u172 u173 u174 u175 u176 u177 u178 u179 u180 u181 u182 u183 u184 u185 u186 u187 u188 u189 u190 u191 u192 : Value)
    (hE : Env w o ss c zs b D oy cpy bw) (hn : oy.isNone = c.isNone) (hw : ∀ i, (ss.getD i ByteArray.empty).size ≤ 1048576) (hl : ss.length ≤ 4096) (hz : zs.length ≤ 65536) (hb : Below w0.heap.size w0 w) (hF : First w w0.heap.size gf ss.length (keys ss) ss.length) (hR : Rank w w0.heap.size gr ss.length (keys ss) ss.length) :
    Code.wp Try.prog (tl Try.f3 18) (QT Try.f3 w0.heap.size w0) ⟨#[.slice o ss.length cp, .slice c zs.length cp2, u2, u3, u4, u5, u6, u7, u8, u9, u10, .map (some b), .slice oy zs.length cpy, .int .i64 ss.length, .slice (some ⟨gf, 0, none⟩) ss.length ss.length, u15, u16, .slice (some ⟨gr, 0, none⟩) ss.length ss.length, u18, u19, u20, u21, u22, u23, u24, u25, u26, u27, u28, u29, u30, u31, u32, u33, u34, u35, u36, u37, u38, u39, u40, u41, u42, u43, u44, u45, u46, u47, u48, u49, u50, u51, u52, u53, u54, u55, u56, u57, u58, u59, u60, u61, u62, u63, u64, u65, u66, u67, u68, u69, u70, u71, u72, u73, u74, u75, u76, u77, u78, u79, u80, u81, u82, u83, u84, u85, u86, u87, u88, u89, u90, u91, u92, u93, u94, u95, u96, u97, u98, u99, u100, u101, u102, u103, u104, u105, u106, u107, u108, u109, u110, u111, u112, u113, u114, u115, u116, u117, u118, u119, u120, u121, u122, u123, u124, u125, u126, u127, u128, u129, u130, u131, u132, u133, u134, u135, u136, u137, u138, u139, u140, u141, u142, u143, u144, u145, u146, u147, u148, u149, u150, u151, u152, u153, u154, u155, u156, u157, u158, u159, u160, u161, u162, u163, u164, u165, u166, u167, u168, u169, u170, u171, u172, u173, u174, u175, u176, u177, u178, u179, u180, u181, u182, u183, u184, u185, u186, u187, u188, u189, u190, u191, u192], []⟩ w := by
  rw [tl3_18]
  refine wp_seq_k (fun K hK => ?_)
  conv => arg 2; whnf
  go_wp2_with fail
  go_loop [20] (fun i => ∃ q : Nat, q ≤ ss.length ∧ i = .int .i64 q) (fun i => ss.length - (intOf i).toNat)
  case atStart => exact ⟨0, Nat.zero_le _, rfl⟩
  case round =>
    obtain ⟨q, hq, rfl⟩ := hrel
    by_cases hlt : q < ss.length
    · obtain ⟨x, off, rfl, hcs⟩ := hE.strs.at hlt
      have e2 := hcs q hlt
      have hkey := key_at hlt hw
      have hkl : q < (keys ss).length := by rw [keys_len]; exact hlt
      obtain ⟨j, ej, hj1, hj2, hj3⟩ := hF.at hlt hlt
      have er := hR.at (t := j) (by omega) (by omega)
      have hin : (keys ss).getD q [] ∈ Pl.dst (keys ss) := (Pl.mem_dst _ _).2 (List.mem_of_mem_take (i := q + 1) (Pl.mem_take (Nat.lt_succ_self q) hkl))
      have hidx : (Pl.dst (keys ss)).idxOf ((keys ss).getD q []) = (Pl.dst ((keys ss).take j)).length := by
        rw [← hj2]; exact Pl.idx_new (keys ss) j (by omega) (Pl.not_mem_take (fun t ht _ => by rw [hj2]; exact hj3 t ht))
      generalize (Pl.dst ((keys ss).take j)).length = M at er hidx
      have HI : Hid _ := hidx
      have HN : Hid _ := hin
      have m2 := hE.m
      have n2 := hE.nn
      have hne : ((M : Int) != (M : Int)) = false := by simp
      have hjn : (j : Int) < (ss.length : Int) := by omega
      have hlt3 : (q : Int) < (ss.length : Int) := by omega
      generalize hg : ss.getD q ByteArray.empty = g at e2 hkey
      clear hg hin hidx hcs hj1 hj2 hj3
      go_wp2_with (at_lookup; refine wpList_lookup_in rfl (.tmp 145) (.tmp 149) rfl b _ D _ ((keys ss).getD q []) M rfl m2 n2 _ rfl hkey HN.out HI.out ?_)
      go_round
      case rel => exact ⟨q + 1, by omega, by go_num⟩
      case measure => simp [intOf]; omega
    · go_wp2_with fail
      exact t19 _ _ _ _ _ _ _ _ _ _ _ _ _ _ _ _ _ _ _ _ _ _ _ _ _ _ _ _ _ _ _ _ _ _ _ _ _ _ _ _ _ _ _ _ _ _ _ _ _ _ _ _ _ _ _ _ _ _ _ _ _ _ _ _ _ _ _ _ _ _ _ _ _ _ _ _ _ _ _ _ _ _ _ _ _ _ _ _ _ _ _ _ _ _ _ _ _ _ _ _ _ _ _ _ _ _ _ _ _ _ _ _ _ _ _ _ _ _ _ _ _ _ _ _ _ _ _ _ _ _ _ _ _ _ _ _ _ _ _ _ _ _ _ _ _ _ _ _ _ _ _ _ _ _ _ _ _ _ _ _ _ _ _ _ _ _ _ _ _ _ _ _ _ _ _ _ _ _ _ _ _ _ _ _ _ _ _ _ _ _ _ _ _ _ _ _ _ _ _ _ hn hE.ints hE.ys hz hb

set_option maxRecDepth 100000 in
set_option maxHeartbeats 1000000 in
theorem t17 (o : Option Addr) (cp : Nat) (ss : List ByteArray) (c : Option Addr) (cp2 : Nat) (zs : List Int) (b : Nat) (D : DataW Unit) (oy : Option Addr) (cpy bw : Nat) (gf gr : Nat) (w w0 : World) (u2 u3 u4 u5 u6 u7 u8 u9 u10 u15 u16 u19 u20 u21 u22 u23 u24 u25 u26 u27 u28 u29 u30 u31 u32 u33 u34 u35 u36 u37 u38 u39 u40 u41 u42 u43 u44 u45 u46 u47 u48 u49 u50 u51 u52 u53 u54 u55 u56 u57 u58 u59 u60 u61 u62 u63 u64 u65 u66 u67 u68 u69 u70 u71 u72 u73 u74 u75 u76 u77 u78 u79 u80 u81 u82 u83 u84 u85 u86 u87 u88 u89 u90 u91 u92 u93 u94 u95 u96 u97 u98 u99 u100 u101 u102 u103 u104 u105 u106 u107 u108 u109 u110 u111 u112 u113 u114 u115 u116 u117 u118 u119 u120 u121 u122 u123 u124 u125 u126 u127 u128 u129 u130 u131 u132 u133 u134 u135 u136 u137 u138 u139 u140 u141 u142 u143 u144 u145 u146 u147 u148 u149 u150 u151 u152 u153 u154 u155 u156 u157 u158 u159 u160 u161 u162 u163 u164 u165 u166 u167 u168 u169 u170 u171 u172 u173 u174 u175 u176 u177 u178 u179 u180 u181 u182 u183 u184 u185 u186 u187 u188 u189 u190 u191 u192 : Value)
    (hE : Env w o ss c zs b D oy cpy bw) (hn : oy.isNone = c.isNone) (hw : ∀ i, (ss.getD i ByteArray.empty).size ≤ 1048576) (hl : ss.length ≤ 4096) (hz : zs.length ≤ 65536) (hb : Below w0.heap.size w0 w) (hF : First w w0.heap.size gf ss.length (keys ss) ss.length) (hR : Rank w w0.heap.size gr ss.length (keys ss) ss.length) :
    Code.wp Try.prog (tl Try.f3 17) (QT Try.f3 w0.heap.size w0) ⟨#[.slice o ss.length cp, .slice c zs.length cp2, u2, u3, u4, u5, u6, u7, u8, u9, u10, .map (some b), .slice oy zs.length cpy, .int .i64 ss.length, .slice (some ⟨gf, 0, none⟩) ss.length ss.length, u15, u16, .slice (some ⟨gr, 0, none⟩) ss.length ss.length, .int .i64 (Pl.dst (keys ss)).length, u19, u20, u21, u22, u23, u24, u25, u26, u27, u28, u29, u30, u31, u32, u33, u34, u35, u36, u37, u38, u39, u40, u41, u42, u43, u44, u45, u46, u47, u48, u49, u50, u51, u52, u53, u54, u55, u56, u57, u58, u59, u60, u61, u62, u63, u64, u65, u66, u67, u68, u69, u70, u71, u72, u73, u74, u75, u76, u77, u78, u79, u80, u81, u82, u83, u84, u85, u86, u87, u88, u89, u90, u91, u92, u93, u94, u95, u96, u97, u98, u99, u100, u101, u102, u103, u104, u105, u106, u107, u108, u109, u110, u111, u112, u113, u114, u115, u116, u117, u118, u119, u120, u121, u122, u123, u124, u125, u126, u127, u128, u129, u130, u131, u132, u133, u134, u135, u136, u137, u138, u139, u140, u141, u142, u143, u144, u145, u146, u147, u148, u149, u150, u151, u152, u153, u154, u155, u156, u157, u158, u159, u160, u161, u162, u163, u164, u165, u166, u167, u168, u169, u170, u171, u172, u173, u174, u175, u176, u177, u178, u179, u180, u181, u182, u183, u184, u185, u186, u187, u188, u189, u190, u191, u192], []⟩ w := by
  rw [tl3_17]
  refine wp_seq_k (fun K hK => ?_)
  conv => arg 2; whnf
  have m2 := hE.m
  have n2 := hE.nn
  generalize hM : (Pl.dst (keys ss)).length = M
  have HM : Hid _ := hM
  have hne : ((M : Int) != (M : Int)) = false := by simp
  clear hM
  go_wp2_with (at_len; refine wpList_len_num rfl (.tmp 135) rfl b _ D _ M rfl m2 n2 HM.out ?_)
  exact t18 _ _ _ _ _ _ _ _ _ _ _ _ _ _ _ _ _ _ _ _ _ _ _ _ _ _ _ _ _ _ _ _ _ _ _ _ _ _ _ _ _ _ _ _ _ _ _ _ _ _ _ _ _ _ _ _ _ _ _ _ _ _ _ _ _ _ _ _ _ _ _ _ _ _ _ _ _ _ _ _ _ _ _ _ _ _ _ _ _ _ _ _ _ _ _ _ _ _ _ _ _ _ _ _ _ _ _ _ _ _ _ _ _ _ _ _ _ _ _ _ _ _ _ _ _ _ _ _ _ _ _ _ _ _ _ _ _ _ _ _ _ _ _ _ _ _ _ _ _ _ _ _ _ _ _ _ _ _ _ _ _ _ _ _ _ _ _ _ _ _ _ _ _ _ _ _ _ _ _ _ _ _ _ _ _ _ _ _ _ _ _ _ _ _ _ _ _ _ _ _ _ hE hn hw hl hz hb hF hR

set_option maxRecDepth 100000 in
set_option maxHeartbeats 1000000 in
theorem t16 (o : Option Addr) (cp : Nat) (ss : List ByteArray) (c : Option Addr) (cp2 : Nat) (zs : List Int) (b : Nat) (D : DataW Unit) (oy : Option Addr) (cpy bw : Nat) (gf gr : Nat) (w w0 : World) (u2 u3 u4 u5 u6 u7 u8 u9 u10 u15 u16 u19 u20 u21 u22 u23 u24 u25 u26 u27 u28 u29 u30 u31 u32 u33 u34 u35 u36 u37 u38 u39 u40 u41 u42 u43 u44 u45 u46 u47 u48 u49 u50 u51 u52 u53 u54 u55 u56 u57 u58 u59 u60 u61 u62 u63 u64 u65 u66 u67 u68 u69 u70 u71 u72 u73 u74 u75 u76 u77 u78 u79 u80 u81 u82 u83 u84 u85 u86 u87 u88 u89 u90 u91 u92 u93 u94 u95 u96 u97 u98 u99 u100 u101 u102 u103 u104 u105 u106 u107 u108 u109 u110 u111 u112 u113 u114 u115 u116 u117 u118 u119 u120 u121 u122 u123 u124 u125 u126 u127 u128 u129 u130 u131 u132 u133 u134 u135 u136 u137 u138 u139 u140 u141 u142 u143 u144 u145 u146 u147 u148 u149 u150 u151 u152 u153 u154 u155 u156 u157 u158 u159 u160 u161 u162 u163 u164 u165 u166 u167 u168 u169 u170 u171 u172 u173 u174 u175 u176 u177 u178 u179 u180 u181 u182 u183 u184 u185 u186 u187 u188 u189 u190 u191 u192 : Value)
    (hw : ∀ i, (ss.getD i ByteArray.empty).size ≤ 1048576) (hl : ss.length ≤ 4096) (hz : zs.length ≤ 65536) (hb : Below w0.heap.size w0 w) (hn : oy.isNone = c.isNone) (hR : Rank w w0.heap.size gr ss.length (keys ss) 0) (w1 : World) (hE1 : Env w1 o ss c zs b D oy cpy bw) (hF1 : First w1 w0.heap.size gf ss.length (keys ss) ss.length) (hb1 : Below w1.heap.size w1 w) (hg1 : w1.heap.size ≤ gr) (hb0 : Below w0.heap.size w0 w1) :
    Code.wp Try.prog (tl Try.f3 16) (QT Try.f3 w0.heap.size w0) ⟨#[.slice o ss.length cp, .slice c zs.length cp2, u2, u3, u4, u5, u6, u7, u8, u9, u10, .map (some b), .slice oy zs.length cpy, .int .i64 ss.length, .slice (some ⟨gf, 0, none⟩) ss.length ss.length, u15, u16, .slice (some ⟨gr, 0, none⟩) ss.length ss.length, .int .i64 0, u19, u20, u21, u22, u23, u24, u25, u26, u27, u28, u29, u30, u31, u32, u33, u34, u35, u36, u37, u38, u39, u40, u41, u42, u43, u44, u45, u46, u47, u48, u49, u50, u51, u52, u53, u54, u55, u56, u57, u58, u59, u60, u61, u62, u63, u64, u65, u66, u67, u68, u69, u70, u71, u72, u73, u74, u75, u76, u77, u78, u79, u80, u81, u82, u83, u84, u85, u86, u87, u88, u89, u90, u91, u92, u93, u94, u95, u96, u97, u98, u99, u100, u101, u102, u103, u104, u105, u106, u107, u108, u109, u110, u111, u112, u113, u114, u115, u116, u117, u118, u119, u120, u121, u122, u123, u124, u125, u126, u127, u128, u129, u130, u131, u132, u133, u134, u135, u136, u137, u138, u139, u140, u141, u142, u143, u144, u145, u146, u147, u148, u149, u150, u151, u152, u153, u154, u155, u156, u157, u158, u159, u160, u161, u162, u163, u164, u165, u166, u167, u168, u169, u170, u171, u172, u173, u174, u175, u176, u177, u178, u179, u180, u181, u182, u183, u184, u185, u186, u187, u188, u189, u190, u191, u192], []⟩ w := by
  rw [tl3_16]
  refine wp_seq_k (fun K hK => ?_)
  conv => arg 2; whnf
  go_wp2_with fail
  go_loopw [18, 19] (fun z i wr => ∃ q : Nat, q ≤ ss.length ∧ i = .int .i64 q ∧ z = .int .i64 (Pl.dst ((keys ss).take q)).length ∧ Rank wr w0.heap.size gr ss.length (keys ss) q ∧ Below w1.heap.size w1 wr) (fun _ i _ => ss.length - (intOf i).toNat)
  case atStart => exact ⟨0, Nat.zero_le _, rfl, rfl, hR, hb1⟩
  case round =>
    obtain ⟨q, hq, rfl, rfl, hRr, hbr⟩ := hrel
    clear hR hb1
    by_cases hlt : q < ss.length
    · have hkl : q < (keys ss).length := by rw [keys_len]; exact hlt
      obtain ⟨j, ej, hj1, hj2, hj3⟩ := hF1.at hlt hlt
      obtain ⟨⟨x, ex⟩, fx, hRs⟩ := hRr.set hlt
      have hbs : Below w1.heap.size w1 (wr.setCell ⟨gr, q, none⟩ (.int .i64 (Pl.dst ((keys ss).take q)).length)) := hbr.setCell hg1 _
      have ej2 := cell_later hbs ej
      have ld := Pl.dst_len_le ((keys ss).take q)
      rw [List.length_take, keys_len] at ld
      have HRs : Hid _ := hRs
      have HBs : Hid _ := hbs
      have hlt3 : (q : Int) < (ss.length : Int) := by omega
      by_cases hnew : (keys ss).getD q [] ∈ Pl.dst ((keys ss).take q)
      · have hjq : j ≠ q := by
          intro e
          subst e
          exact Pl.not_mem_take (ks := keys ss) (k := j) (g := (keys ss).getD j []) (fun t ht _ => hj3 t ht) ((Pl.mem_dst _ _).1 hnew)
        have hjb : ((j : Int) == (q : Int)) = false := by simp; omega
        have HD : Hid ((Pl.dst ((keys ss).take (q + 1))).length = (Pl.dst ((keys ss).take q)).length) := congrArg List.length (Pl.dst_take_old (keys ss) q hkl hnew)
        generalize (Pl.dst ((keys ss).take q)).length = M at *
        clear hRs hbs hj1 hj2 hj3 hnew hjq ej hRr hbr hE1 hF1 hkl
        go_wp2_with fail
        go_roundw
        case rel => exact ⟨q + 1, by omega, by go_num, by rw [HD.out], HRs.out, HBs.out⟩
        case measure => simp [intOf]; omega
      · have hjq : j = q := by
          by_cases e : j = q
          · exact e
          · exact absurd ((Pl.mem_dst _ _).2 (by rw [← hj2]; exact Pl.mem_take (show j < q by omega) (by omega))) hnew
        have hjb : ((j : Int) == (q : Int)) = true := by simp; omega
        have HD : Hid ((Pl.dst ((keys ss).take (q + 1))).length = (Pl.dst ((keys ss).take q)).length + 1) := by rw [Pl.dst_take_new (keys ss) q hkl hnew]; exact List.length_append
        generalize (Pl.dst ((keys ss).take q)).length = M at *
        clear hRs hbs hj1 hj2 hj3 hnew hjq ej hRr hbr hE1 hF1 hkl
        go_wp2_with fail
        go_roundw
        case rel => exact ⟨q + 1, by omega, by go_num, by rw [HD.out]; go_num, HRs.out, HBs.out⟩
        case measure => simp [intOf]; omega
    · obtain rfl : q = ss.length := by omega
      rw [List.take_of_length_le (show (keys ss).length ≤ ss.length by rw [keys_len]; exact Nat.le_refl _)]
      have hb2 := hb0.trans (hbr.mono hb0.size)
      go_wp2_with fail
      exact t17 _ _ _ _ _ _ _ _ _ _ _ _ _ _ _ _ _ _ _ _ _ _ _ _ _ _ _ _ _ _ _ _ _ _ _ _ _ _ _ _ _ _ _ _ _ _ _ _ _ _ _ _ _ _ _ _ _ _ _ _ _ _ _ _ _ _ _ _ _ _ _ _ _ _ _ _ _ _ _ _ _ _ _ _ _ _ _ _ _ _ _ _ _ _ _ _ _ _ _ _ _ _ _ _ _ _ _ _ _ _ _ _ _ _ _ _ _ _ _ _ _ _ _ _ _ _ _ _ _ _ _ _ _ _ _ _ _ _ _ _ _ _ _ _ _ _ _ _ _ _ _ _ _ _ _ _ _ _ _ _ _ _ _ _ _ _ _ _ _ _ _ _ _ _ _ _ _ _ _ _ _ _ _ _ _ _ _ _ _ _ _ _ _ _ _ _ _ _ _ _ (hE1.below hbr) hn hw hl hz hb2 (hF1.below hbr) hRr

set_option maxRecDepth 100000 in
set_option maxHeartbeats 1000000 in
theorem t14 (o : Option Addr) (cp : Nat) (ss : List ByteArray) (c : Option Addr) (cp2 : Nat) (zs : List Int) (b : Nat) (D : DataW Unit) (oy : Option Addr) (cpy bw : Nat) (gf : Nat) (w w0 : World) (u2 u3 u4 u5 u6 u7 u8 u9 u10 u15 u16 u17 u18 u19 u20 u21 u22 u23 u24 u25 u26 u27 u28 u29 u30 u31 u32 u33 u34 u35 u36 u37 u38 u39 u40 u41 u42 u43 u44 u45 u46 u47 u48 u49 u50 u51 u52 u53 u54 u55 u56 u57 u58 u59 u60 u61 u62 u63 u64 u65 u66 u67 u68 u69 u70 u71 u72 u73 u74 u75 u76 u77 u78 u79 u80 u81 u82 u83 u84 u85 u86 u87 u88 u89 u90 u91 u92 u93 u94 u95 u96 u97 u98 u99 u100 u101 u102 u103 u104 u105 u106 u107 u108 u109 u110 u111 u112 u113 u114 u115 u116 u117 u118 u119 u120 u121 u122 u123 u124 u125 u126 u127 u128 u129 u130 u131 u132 u133 u134 u135 u136 u137 u138 u139 u140 u141 u142 u143 u144 u145 u146 u147 u148 u149 u150 u151 u152 u153 u154 u155 u156 u157 u158 u159 u160 u161 u162 u163 u164 u165 u166 u167 u168 u169 u170 u171 u172 u173 u174 u175 u176 u177 u178 u179 u180 u181 u182 u183 u184 u185 u186 u187 u188 u189 u190 u191 u192 : Value)
    (hE : Env w o ss c zs b D oy cpy bw) (hn : oy.isNone = c.isNone) (hw : ∀ i, (ss.getD i ByteArray.empty).size ≤ 1048576) (hl : ss.length ≤ 4096) (hz : zs.length ≤ 65536) (hb : Below w0.heap.size w0 w) (hF : First w w0.heap.size gf ss.length (keys ss) ss.length) :
    Code.wp Try.prog (tl Try.f3 14) (QT Try.f3 w0.heap.size w0) ⟨#[.slice o ss.length cp, .slice c zs.length cp2, u2, u3, u4, u5, u6, u7, u8, u9, u10, .map (some b), .slice oy zs.length cpy, .int .i64 ss.length, .slice (some ⟨gf, 0, none⟩) ss.length ss.length, u15, u16, u17, u18, u19, u20, u21, u22, u23, u24, u25, u26, u27, u28, u29, u30, u31, u32, u33, u34, u35, u36, u37, u38, u39, u40, u41, u42, u43, u44, u45, u46, u47, u48, u49, u50, u51, u52, u53, u54, u55, u56, u57, u58, u59, u60, u61, u62, u63, u64, u65, u66, u67, u68, u69, u70, u71, u72, u73, u74, u75, u76, u77, u78, u79, u80, u81, u82, u83, u84, u85, u86, u87, u88, u89, u90, u91, u92, u93, u94, u95, u96, u97, u98, u99, u100, u101, u102, u103, u104, u105, u106, u107, u108, u109, u110, u111, u112, u113, u114, u115, u116, u117, u118, u119, u120, u121, u122, u123, u124, u125, u126, u127, u128, u129, u130, u131, u132, u133, u134, u135, u136, u137, u138, u139, u140, u141, u142, u143, u144, u145, u146, u147, u148, u149, u150, u151, u152, u153, u154, u155, u156, u157, u158, u159, u160, u161, u162, u163, u164, u165, u166, u167, u168, u169, u170, u171, u172, u173, u174, u175, u176, u177, u178, u179, u180, u181, u182, u183, u184, u185, u186, u187, u188, u189, u190, u191, u192], []⟩ w := by
  obtain ⟨i0, hi, hz0, hz1, hz2⟩ := info_parts Try.info3
  rw [tl3_14]
  refine wp_seq_k (fun K hK => ?_)
  conv => arg 2; whnf
  go_wp2_with (at_make; go_must (refine wpList_make_full _ rfl _ _ 23 rfl w.heap.size 3 i0 (.int .i64 0) 1 Try.underlying23 hi hz0 hz1 .i64 .i64 _ _ ss.length rfl rfl rfl rfl (by rw [hz2]; omega) (by unfold maxLen; omega) (Nat.le_refl _) ?_; intro w1 hown1 hgrow1))
  have hb1 : Below w.heap.size w w1 := (Below.refl _ _).grown hgrow1 (Nat.le_refl _) (fun j hj => by cases hj)
  have hR : Rank w1 w0.heap.size w.heap.size ss.length (keys ss) 0 := ⟨_, row_mono hb.size hown1, fun t ht => by omega⟩
  clear hown1 hgrow1 hi hz0 hz1 hz2
  rw [tl3_15]
  refine wp_seq_k (fun K hK => ?_)
  conv => arg 2; whnf
  go_wp2_with fail
  exact t16 _ _ _ _ _ _ _ _ _ _ _ _ _ _ _ _ _ _ _ _ _ _ _ _ _ _ _ _ _ _ _ _ _ _ _ _ _ _ _ _ _ _ _ _ _ _ _ _ _ _ _ _ _ _ _ _ _ _ _ _ _ _ _ _ _ _ _ _ _ _ _ _ _ _ _ _ _ _ _ _ _ _ _ _ _ _ _ _ _ _ _ _ _ _ _ _ _ _ _ _ _ _ _ _ _ _ _ _ _ _ _ _ _ _ _ _ _ _ _ _ _ _ _ _ _ _ _ _ _ _ _ _ _ _ _ _ _ _ _ _ _ _ _ _ _ _ _ _ _ _ _ _ _ _ _ _ _ _ _ _ _ _ _ _ _ _ _ _ _ _ _ _ _ _ _ _ _ _ _ _ _ _ _ _ _ _ _ _ _ _ _ _ _ _ _ _ _ _ _ _ hw hl hz (hb.trans (hb1.mono hb.size)) hn hR w hE hF hb1 (Nat.le_refl _) hb

end Go.Proofs.Qxb6626221a.N3
