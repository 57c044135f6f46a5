/-
  Seat b6626221a: FnWantKeepsPrefixNumbersWhenMoreGranteesFollow, walked statement by statement ('tl Try.f4 j': the function's text from statement j on). Frames written by program.
-/
import Derived.Test.Qxb6626221aT
namespace Go.Proofs.Qxb6626221a
open Go.RowKit Go.Maps
open Go.WideMaps (keyOf_string_mk)
set_option linter.unusedVariables false
attribute [local go_sem] eqNil23 neNil23 neNil22

theorem ints_of_row {w : World} {base : Nat} {o : Option Addr} {n cp : Nat} {zs : List Int} (h : w.ownsRow base 3 1 (.slice o n cp) n (zs.map (Value.int .i64))) : IntsO w o zs := by
  have hl : zs.length = n := by have := h.1; simpa using this
  refine ⟨fun e => ?_, fun ad e hne => ?_⟩
  · subst e
    rcases h.2 with ⟨h', h''⟩ | ⟨g, cap, cur, h', _⟩
    · exact List.eq_nil_of_length_eq_zero (by omega)
    · simp at h'
  · subst e
    rcases h.2 with ⟨h', h''⟩ | ⟨g, cap, cur, h', _⟩
    · simp at h'
    · have h2 := h
      simp only [Value.slice.injEq, Option.some.injEq, true_and] at h'
      obtain ⟨rfl, rfl⟩ := h'
      refine ⟨g, 0, rfl, fun i hi => ?_⟩
      have := h2.cellAt i (by omega)
      rw [Nat.zero_add, this]
      simp [hi]

theorem keys_take (ss : List ByteArray) (k : Nat) : keys (ss.take k) = (keys ss).take k := by simp [keys, List.map_take]

/-- What lies in memory behind the two calls of Want. -/
structure Env (w : World) (o : Option Addr) (ss : List ByteArray) (o2 : Option Addr) (zs : List Int) (k : Nat) (b1 : Nat) (D1 : DataW Unit) (b2 : Nat) (D2 : DataW Unit) (oa ob : Option Addr) (cpa cpb ba bb : Nat) : Prop where
  strs : Strs w o ss
  ints : IntsO w o2 zs
  m1 : w.ownsMap Try.prog 9 (plainElem Try.prog 3) b1 k D1
  n1 : Num D1 (Pl.dst ((keys ss).take k))
  m2 : w.ownsMap Try.prog 9 (plainElem Try.prog 3) b2 ss.length D2
  n2 : Num D2 (Pl.dst (keys ss))
  ya : IntsO w oa zs
  yb : IntsO w ob zs
  c1 : w.cell? ⟨ba, 0, none⟩ = some (.map (some b1))
  c2 : w.cell? ⟨ba, 1, none⟩ = some (.slice oa zs.length cpa)
  c3 : w.cell? ⟨bb, 0, none⟩ = some (.map (some b2))
  c4 : w.cell? ⟨bb, 1, none⟩ = some (.slice ob zs.length cpb)
theorem Env.below {w w' : World} {o : Option Addr} {ss : List ByteArray} {o2 : Option Addr} {zs : List Int} {k b1 : Nat} {D1 : DataW Unit} {b2 : Nat} {D2 : DataW Unit} {oa ob : Option Addr} {cpa cpb ba bb : Nat}
    (h : Env w o ss o2 zs k b1 D1 b2 D2 oa ob cpa cpb ba bb) (hb : Below w.heap.size w w') : Env w' o ss o2 zs k b1 D1 b2 D2 oa ob cpa cpb ba bb :=
  ⟨h.strs.below hb, h.ints.below hb, map_below h.m1 hb, h.n1, map_below h.m2 hb, h.n2, h.ya.below hb, h.yb.below hb, cell_later hb h.c1, cell_later hb h.c2, cell_later hb h.c3, cell_later hb h.c4⟩

/-- The cell of an element. -/
theorem IntsO.at {w : World} {c : Option Addr} {zs : List Int} (h : IntsO w c zs) {q : Nat} (hq : q < zs.length) : ∃ b off, c = some ⟨b, off, none⟩ ∧ w.cell? ⟨b, off + q, none⟩ = some (.int .i64 (zs.getD q 0)) := by
  cases c with
  | none => rw [h.1 rfl] at hq; simp at hq
  | some ad =>
    obtain ⟨b, off, rfl, hc⟩ := h.2 ad rfl (ne_of_lt hq)
    exact ⟨b, off, rfl, hc q hq⟩
theorem Strs.at {w : World} {c : Option Addr} {ss : List ByteArray} (h : Strs w c ss) {q : Nat} (hq : q < ss.length) : ∃ b off, c = some ⟨b, off, none⟩ ∧ ∀ i, i < ss.length → w.cell? ⟨b, off + i, none⟩ = some (.string (ss.getD i ByteArray.empty)) := h (ne_of_lt hq)
theorem key_at {ss : List ByteArray} {q : Nat} (hq : q < ss.length) (hw : ∀ i, (ss.getD i ByteArray.empty).size ≤ 1048576) : keyOf Try.prog 9 (.string (ss.getD q ByteArray.empty)) = some (.string ((keys ss).getD q [])) := by
  rw [keys_getD ss q hq]
  exact keyOf_string_mk Try.underlying9 (Nat.le_trans (hw q) (by unfold maxLen; omega))
theorem str_beq (s t : ByteArray) : (s.toList == t.toList) = (s.data.toList == t.data.toList) := by rw [ByteArray.toList_eq, ByteArray.toList_eq]

theorem tl4_0 : tl Try.f4 0 = Code.seq (st Try.f4 0) (tl Try.f4 1) := by kernel_rfl
theorem tl4_1 : tl Try.f4 1 = Code.seq (st Try.f4 1) (tl Try.f4 2) := by kernel_rfl
theorem tl4_2 : tl Try.f4 2 = Code.seq (st Try.f4 2) (tl Try.f4 3) := by kernel_rfl
theorem tl4_3 : tl Try.f4 3 = Code.seq (st Try.f4 3) (tl Try.f4 4) := by kernel_rfl
theorem tl4_4 : tl Try.f4 4 = Code.seq (st Try.f4 4) (tl Try.f4 5) := by kernel_rfl
theorem tl4_5 : tl Try.f4 5 = Code.seq (st Try.f4 5) (tl Try.f4 6) := by kernel_rfl
theorem tl4_6 : tl Try.f4 6 = Code.seq (st Try.f4 6) (tl Try.f4 7) := by kernel_rfl
theorem tl4_7 : tl Try.f4 7 = Code.seq (st Try.f4 7) (tl Try.f4 8) := by kernel_rfl
theorem tl4_8 : tl Try.f4 8 = Code.seq (st Try.f4 8) (tl Try.f4 9) := by kernel_rfl
theorem tl4_9 : tl Try.f4 9 = Code.seq (st Try.f4 9) (tl Try.f4 10) := by kernel_rfl
theorem tl4_10 : tl Try.f4 10 = Code.seq (st Try.f4 10) (tl Try.f4 11) := by kernel_rfl
theorem tl4_11 : tl Try.f4 11 = Code.seq (st Try.f4 11) (tl Try.f4 12) := by kernel_rfl
theorem tl4_12 : tl Try.f4 12 = Code.seq (st Try.f4 12) (tl Try.f4 13) := by kernel_rfl
theorem tl4_13 : tl Try.f4 13 = Code.seq (st Try.f4 13) (tl Try.f4 14) := by kernel_rfl
theorem tl4_14 : tl Try.f4 14 = Code.seq (st Try.f4 14) (tl Try.f4 15) := by kernel_rfl
theorem tl4_15 : tl Try.f4 15 = Code.seq (st Try.f4 15) (tl Try.f4 16) := by kernel_rfl
theorem tl4_16 : tl Try.f4 16 = Code.seq (st Try.f4 16) (tl Try.f4 17) := by kernel_rfl
theorem tl4_17 : tl Try.f4 17 = Code.seq (st Try.f4 17) (tl Try.f4 18) := by kernel_rfl
theorem tl4_18 : tl Try.f4 18 = Code.seq (st Try.f4 18) (tl Try.f4 19) := by kernel_rfl
theorem tl4_19 : tl Try.f4 19 = Code.seq (st Try.f4 19) (tl Try.f4 20) := by kernel_rfl
theorem tl4_20 : tl Try.f4 20 = Code.seq (st Try.f4 20) (tl Try.f4 21) := by kernel_rfl

set_option maxRecDepth 100000 in
set_option maxHeartbeats 1000000 in
theorem t20  (w w0 : World) (u0 u1 u2 u3 u4 u5 u6 u7 u8 u9 u10 u11 u12 u13 u14 u15 u16 u17 u18 u19 u20 u21 u22 u23 u24 u25 u26 u27 u28 u29 u30 u31 u32 u33 u34 u35 u36 u37 u38 u39 u40 u41 u42 u43 u44 u45 u46 u47 u48 u49 u50 u51 u52 u53 u54 u55 u56 u57 u58 u59 u60 u61 u62 u63 u64 u65 u66 u67 u68 u69 u70 u71 u72 u73 u74 u75 u76 u77 u78 u79 u80 u81 u82 u83 u84 u85 u86 u87 u88 u89 u90 u91 u92 u93 u94 u95 u96 u97 u98 u99 u100 u101 u102 u103 u104 u105 u106 u107 u108 u109 u110 u111 u112 u113 u114 u115 u116 u117 u118 u119 u120 u121 u122 u123 u124 u125 u126 u127 u128 u129 u130 u131 u132 u133 u134 u135 u136 u137 u138 u139 u140 u141 u142 u143 u144 u145 u146 u147 u148 u149 u150 u151 u152 u153 u154 u155 u156 u157 u158 u159 u160 u161 u162 u163 u164 u165 u166 u167 u168 u169 u170 u171 u172 u173 u174 u175 u176 u177 u178 u179 u180 u181 u182 u183 u184 u185 u186 u187 u188 u189 u190 u191 u192 u193 u194 u195 u196 u197 u198 u199 u200 u201 u202 u203 u204 u205 u206 u207 u208 u209 u210 u211 u212 u213 u214 u215 u216 u217 u218 u219 u220 u221 u222 u223 u224 u225 u226 u227 u228 u229 u230 u231 u232 u233 u234 u235 : Value)
    (hb : Below w0.heap.size w0 w) :
    Code.wp Try.prog (tl Try.f4 20) (QT Try.f4 w0.heap.size w0) ⟨#[u0, u1, u2, u3, u4, u5, u6, u7, u8, u9, u10, u11, u12, u13, u14, u15, u16, u17, u18, u19, u20, u21, u22, u23, u24, u25, u26, u27, u28, u29, u30, u31, u32, u33, u34, u35, u36, u37, u38, u39, u40, u41, u42, u43, u44, u45, u46, u47, u48, u49, u50, u51, u52, u53, u54, u55, u56, u57, u58, u59, u60, u61, u62, u63, u64, u65, u66, u67, u68, u69, u70, u71, u72, u73, u74, u75, u76, u77, u78, u79, u80, u81, u82, u83, u84, u85, u86, u87, u88, u89, u90, u91, u92, u93, u94, u95, u96, u97, u98, u99, u100, u101, u102, u103, u104, u105, u106, u107, u108, u109, u110, u111, u112, u113, u114, u115, u116, u117, u118, u119, u120, u121, u122, u123, u124, u125, u126, u127, u128, u129, u130, u131, u132, u133, u134, u135, u136, u137, u138, u139, u140, u141, u142, u143, u144, u145, u146, u147, u148, u149, u150, u151, u152, u153, u154, u155, u156, u157, u158, u159, u160, u161, u162, u163, u164, u165, u166, u167, u168, u169, u170, u171, u172, u173, u174, u175, u176, u177, u178, u179, u180, u181, u182, u183, u184, u185, u186, u187, u188, u189, u190, u191, u192, u193, u194, u195, u196, u197, u198, u199, u200, u201, u202, u203, u204, u205, u206, u207, u208, u209, u210, u211, u212, u213, u214, u215, u216, u217, u218, u219, u220, u221, u222, u223, u224, u225, u226, u227, u228, u229, u230, u231, u232, u233, u234, u235], []⟩ w := by
  conv => arg 2; whnf
  unfold QT
  go_wp2_with fail
  go_ret
  exact ⟨rfl, hb⟩

set_option maxRecDepth 100000 in
set_option maxHeartbeats 1000000 in
theorem t19 (o : Option Addr) (cp : Nat) (ss : List ByteArray) (o2 : Option Addr) (cp2 : Nat) (zs : List Int) (oa ob : Option Addr) (cpa cpb : Nat) (w w0 : World) (u2 u3 u4 u5 u6 u7 u8 u9 u10 u11 u12 u13 u14 u15 u16 u17 u18 u19 u20 u21 u22 u23 u24 u25 u26 u27 u30 u31 u32 u33 u34 u35 u36 u37 u38 u39 u40 u41 u42 u43 u44 u45 u46 u47 u48 u49 u50 u51 u52 u53 u54 u55 u56 u57 u58 u59 u60 u61 u62 u63 u64 u65 u66 u67 u68 u69 u70 u71 u72 u73 u74 u75 u76 u77 u78 u79 u80 u81 u82 u83 u84 u85 u86 u87 u88 u89 u90 u91 u92 u93 u94 u95 u96 u97 u98 u99 u100 u101 u102 u103 u104 u105 u106 u107 u108 u109 u110 u111 u112 u113 u114 u115 u116 u117 u118 u119 u120 u121 u122 u123 u124 u125 u126 u127 u128 u129 u130 u131 u132 u133 u134 u135 u136 u137 u138 u139 u140 u141 u142 u143 u144 u145 u146 u147 u148 u149 u150 u151 u152 u153 u154 u155 u156 u157 u158 u159 u160 u161 u162 u163 u164 u165 u166 u167 u168 u169 u170 u171 u172 u173 u174 u175 u176 u177 u178 u179 u180 u181 u182 u183 u184 u185 u186 u187 u188 u189 u190 u191 u192 u193 u194 u195 u196 u197 u198 u199 u200 u201 u202 u203 u204 u205 u206 u207 u208 u209 u210 u211 u212 u213 u214 u215 u216 u217 u218 u219 u220 u221 u222 u223 u224 u225 u226 u227 u228 u229 u230 u231 u232 u233 u234 u235 : Value)
    (hc : IntsO w o2 zs) (ha : IntsO w oa zs) (hd : IntsO w ob zs) (hz : zs.length ≤ 65536) (hb : Below w0.heap.size w0 w) :
    Code.wp Try.prog (tl Try.f4 19) (QT Try.f4 w0.heap.size w0) ⟨#[.slice o ss.length cp, .slice o2 zs.length cp2, u2, u3, u4, u5, u6, u7, u8, u9, u10, u11, u12, u13, u14, u15, u16, u17, u18, u19, u20, u21, u22, u23, u24, u25, u26, u27, .slice oa zs.length cpa, .slice ob zs.length cpb, u30, u31, u32, u33, u34, u35, u36, u37, u38, u39, u40, u41, u42, u43, u44, u45, u46, u47, u48, u49, u50, u51, u52, u53, u54, u55, u56, u57, u58, u59, u60, u61, u62, u63, u64, u65, u66, u67, u68, u69, u70, u71, u72, u73, u74, u75, u76, u77, u78, u79, u80, u81, u82, u83, u84, u85, u86, u87, u88, u89, u90, u91, u92, u93, u94, u95, u96, u97, u98, u99, u100, u101, u102, u103, u104, u105, u106, u107, u108, u109, u110, u111, u112, u113, u114, u115, u116, u117, u118, u119, u120, u121, u122, u123, u124, u125, u126, u127, u128, u129, u130, u131, u132, u133, u134, u135, u136, u137, u138, u139, u140, u141, u142, u143, u144, u145, u146, u147, u148, u149, u150, u151, u152, u153, u154, u155, u156, u157, u158, u159, u160, u161, u162, u163, u164, u165, u166, u167, u168, u169, u170, u171, u172, u173, u174, u175, u176, u177, u178, u179, u180, u181, u182, u183, u184, u185, u186, u187, u188, u189, u190, u191, u192, u193, u194, u195, u196, u197, u198, u199, u200, u201, u202, u203, u204, u205, u206, u207, u208, u209, u210, u211, u212, u213, u214, u215, u216, u217, u218, u219, u220, u221, u222, u223, u224, u225, u226, u227, u228, u229, u230, u231, u232, u233, u234, u235], []⟩ w := by
  rw [tl4_19]
  refine wp_seq_k (fun K hK => ?_)
  conv => arg 2; whnf
  go_wp2_with fail
  go_loopw [30] (fun i wr => ∃ q : Nat, q ≤ zs.length ∧ i = .int .i64 q ∧ Below w.heap.size w wr) (fun i _ => zs.length - (intOf i).toNat)
  case atStart => exact ⟨0, Nat.zero_le _, rfl, Below.refl _ _⟩
  case round =>
    obtain ⟨q, hq, rfl, hbr⟩ := hrel
    by_cases hlt : q < zs.length
    · obtain ⟨x1, f1, rfl, e1⟩ := (hc.below hbr).at hlt
      obtain ⟨x2, f2, rfl, e2⟩ := (ha.below hbr).at hlt
      obtain ⟨x3, f3, rfl, e3⟩ := (hd.below hbr).at hlt
      generalize zs.getD q 0 = z at e1 e2 e3
      have hne : (z != z) = false := by simp
      have hlt' : (q : Int) < (zs.length : Int) := by omega
      clear hc ha hd
      go_wp2_with fail
      go_quiet (fail)
      go_wp2_with fail
      go_roundw
      case rel => exact ⟨q + 1, by omega, by go_num, below_drewN hbr _⟩
      case measure => simp [intOf]; omega
    · have hb' := hb.trans (hbr.mono hb.size)
      clear hc ha hd hbr hb
      go_wp2_with fail
      exact t20 _ _ _ _ _ _ _ _ _ _ _ _ _ _ _ _ _ _ _ _ _ _ _ _ _ _ _ _ _ _ _ _ _ _ _ _ _ _ _ _ _ _ _ _ _ _ _ _ _ _ _ _ _ _ _ _ _ _ _ _ _ _ _ _ _ _ _ _ _ _ _ _ _ _ _ _ _ _ _ _ _ _ _ _ _ _ _ _ _ _ _ _ _ _ _ _ _ _ _ _ _ _ _ _ _ _ _ _ _ _ _ _ _ _ _ _ _ _ _ _ _ _ _ _ _ _ _ _ _ _ _ _ _ _ _ _ _ _ _ _ _ _ _ _ _ _ _ _ _ _ _ _ _ _ _ _ _ _ _ _ _ _ _ _ _ _ _ _ _ _ _ _ _ _ _ _ _ _ _ _ _ _ _ _ _ _ _ _ _ _ _ _ _ _ _ _ _ _ _ _ _ _ _ _ _ _ _ _ _ _ _ _ _ _ _ _ _ _ _ _ _ _ _ _ _ _ _ _ _ _ _ _ _ _ _ _ _ _ hb'

set_option maxRecDepth 100000 in
set_option maxHeartbeats 1000000 in
theorem t18 (o : Option Addr) (cp : Nat) (ss : List ByteArray) (o2 : Option Addr) (cp2 : Nat) (zs : List Int) (oa ob : Option Addr) (cpa cpb : Nat) (w w0 : World) (u2 u3 u4 u5 u6 u7 u8 u9 u10 u11 u12 u13 u14 u15 u16 u17 u18 u19 u20 u21 u22 u23 u24 u25 u26 u27 u30 u31 u32 u33 u34 u35 u36 u37 u38 u39 u40 u41 u42 u43 u44 u45 u46 u47 u48 u49 u50 u51 u52 u53 u54 u55 u56 u57 u58 u59 u60 u61 u62 u63 u64 u65 u66 u67 u68 u69 u70 u71 u72 u73 u74 u75 u76 u77 u78 u79 u80 u81 u82 u83 u84 u85 u86 u87 u88 u89 u90 u91 u92 u93 u94 u95 u96 u97 u98 u99 u100 u101 u102 u103 u104 u105 u106 u107 u108 u109 u110 u111 u112 u113 u114 u115 u116 u117 u118 u119 u120 u121 u122 u123 u124 u125 u126 u127 u128 u129 u130 u131 u132 u133 u134 u135 u136 u137 u138 u139 u140 u141 u142 u143 u144 u145 u146 u147 u148 u149 u150 u151 u152 u153 u154 u155 u156 u157 u158 u159 u160 u161 u162 u163 u164 u165 u166 u167 u168 u169 u170 u171 u172 u173 u174 u175 u176 u177 u178 u179 u180 u181 u182 u183 u184 u185 u186 u187 u188 u189 u190 u191 u192 u193 u194 u195 u196 u197 u198 u199 u200 u201 u202 u203 u204 u205 u206 u207 u208 u209 u210 u211 u212 u213 u214 u215 u216 u217 u218 u219 u220 u221 u222 u223 u224 u225 u226 u227 u228 u229 u230 u231 u232 u233 u234 u235 : Value)
    (hc : IntsO w o2 zs) (ha : IntsO w oa zs) (hd : IntsO w ob zs) (hz : zs.length ≤ 65536) (hb : Below w0.heap.size w0 w) :
    Code.wp Try.prog (tl Try.f4 18) (QT Try.f4 w0.heap.size w0) ⟨#[.slice o ss.length cp, .slice o2 zs.length cp2, u2, u3, u4, u5, u6, u7, u8, u9, u10, u11, u12, u13, u14, u15, u16, u17, u18, u19, u20, u21, u22, u23, u24, u25, u26, u27, .slice oa zs.length cpa, .slice ob zs.length cpb, u30, u31, u32, u33, u34, u35, u36, u37, u38, u39, u40, u41, u42, u43, u44, u45, u46, u47, u48, u49, u50, u51, u52, u53, u54, u55, u56, u57, u58, u59, u60, u61, u62, u63, u64, u65, u66, u67, u68, u69, u70, u71, u72, u73, u74, u75, u76, u77, u78, u79, u80, u81, u82, u83, u84, u85, u86, u87, u88, u89, u90, u91, u92, u93, u94, u95, u96, u97, u98, u99, u100, u101, u102, u103, u104, u105, u106, u107, u108, u109, u110, u111, u112, u113, u114, u115, u116, u117, u118, u119, u120, u121, u122, u123, u124, u125, u126, u127, u128, u129, u130, u131, u132, u133, u134, u135, u136, u137, u138, u139, u140, u141, u142, u143, u144, u145, u146, u147, u148, u149, u150, u151, u152, u153, u154, u155, u156, u157, u158, u159, u160, u161, u162, u163, u164, u165, u166, u167, u168, u169, u170, u171, u172, u173, u174, u175, u176, u177, u178, u179, u180, u181, u182, u183, u184, u185, u186, u187, u188, u189, u190, u191, u192, u193, u194, u195, u196, u197, u198, u199, u200, u201, u202, u203, u204, u205, u206, u207, u208, u209, u210, u211, u212, u213, u214, u215, u216, u217, u218, u219, u220, u221, u222, u223, u224, u225, u226, u227, u228, u229, u230, u231, u232, u233, u234, u235], []⟩ w := by
  rw [tl4_18]
  refine wp_seq_k (fun K hK => ?_)
  conv => arg 2; whnf
  go_wp2_with fail
  exact t19 _ _ _ _ _ _ _ _ _ _ _ _ _ _ _ _ _ _ _ _ _ _ _ _ _ _ _ _ _ _ _ _ _ _ _ _ _ _ _ _ _ _ _ _ _ _ _ _ _ _ _ _ _ _ _ _ _ _ _ _ _ _ _ _ _ _ _ _ _ _ _ _ _ _ _ _ _ _ _ _ _ _ _ _ _ _ _ _ _ _ _ _ _ _ _ _ _ _ _ _ _ _ _ _ _ _ _ _ _ _ _ _ _ _ _ _ _ _ _ _ _ _ _ _ _ _ _ _ _ _ _ _ _ _ _ _ _ _ _ _ _ _ _ _ _ _ _ _ _ _ _ _ _ _ _ _ _ _ _ _ _ _ _ _ _ _ _ _ _ _ _ _ _ _ _ _ _ _ _ _ _ _ _ _ _ _ _ _ _ _ _ _ _ _ _ _ _ _ _ _ _ _ _ _ _ _ _ _ _ _ _ _ _ _ _ _ _ _ _ _ _ _ _ _ _ _ _ _ _ _ _ _ _ _ _ _ _ _ _ _ _ _ _ _ hc ha hd hz hb

set_option maxRecDepth 100000 in
set_option maxHeartbeats 1000000 in
theorem t16 (o : Option Addr) (cp : Nat) (ss : List ByteArray) (o2 : Option Addr) (cp2 : Nat) (zs : List Int) (k b1 : Nat) (D1 : DataW Unit) (b2 : Nat) (D2 : DataW Unit) (oa ob : Option Addr) (cpa cpb ba bb : Nat) (w w0 : World) (u3 u4 u5 u6 u7 u8 u9 u10 u15 u16 u17 u18 u19 u20 u21 u22 u23 u24 u25 u26 u27 u28 u29 u30 u31 u32 u33 u34 u35 u36 u37 u38 u39 u40 u41 u42 u43 u44 u45 u46 u47 u48 u49 u50 u51 u52 u53 u54 u55 u56 u57 u58 u59 u60 u61 u62 u63 u64 u65 u66 u67 u68 u69 u70 u71 u72 u73 u74 u75 u76 u77 u78 u79 u80 u81 u82 u83 u84 u85 u86 u87 u88 u89 u90 u91 u92 u93 u94 u95 u96 u97 u98 u99 u100 u101 u102 u103 u104 u105 u106 u107 u108 u109 u110 u111 u112 u113 u114 u115 u116 u117 u118 u119 u120 u121 u122 u123 u124 u125 u126 u127 u128 u129 u130 u131 u132 u133 u134 u135 u136 u137 u138 u139 u140 u141 u142 u143 u144 u145 u146 u147 u148 u149 u150 u151 u152 u153 u154 u155 u156 u157 u158 u159 u160 u161 u162 u163 u164 u165 u166 u167 u168 u169 u170 u171 u172 u173 u174 u175 u176 u177 u178 u179 u180 u181 u182 u183 u184 u185 u186 u187 u188 u189 u190 u191 u192 u193 u194 u195 u196 u197 u198 u199 u200 u201 u202 u203 u204 u205 u206 u207 u208 u209 u210 u211 u212 u213 u214 u215 u216 u217 u218 u219 u220 u221 u222 u223 u224 u225 u226 u227 u228 u229 u230 u231 u232 u233 u234 u235 : Value)
    (hE : Env w o ss o2 zs k b1 D1 b2 D2 oa ob cpa cpb ba bb) (hw : ∀ i, (ss.getD i ByteArray.empty).size ≤ 1048576) (hl : ss.length ≤ 4096) (hz : zs.length ≤ 65536) (hk : k ≤ ss.length) (hb : Below w0.heap.size w0 w) :
    Code.wp Try.prog (tl Try.f4 16) (QT Try.f4 w0.heap.size w0) ⟨#[.slice o ss.length cp, .slice o2 zs.length cp2, .int .i64 k, u3, u4, u5, u6, u7, u8, u9, u10, .pointer (some ⟨ba, 0, none⟩), .pointer (some ⟨bb, 0, none⟩), .map (some b1), .map (some b2), u15, u16, u17, u18, u19, u20, u21, u22, u23, u24, u25, u26, u27, u28, u29, u30, u31, u32, u33, u34, u35, u36, u37, u38, u39, u40, u41, u42, u43, u44, u45, u46, u47, u48, u49, u50, u51, u52, u53, u54, u55, u56, u57, u58, u59, u60, u61, u62, u63, u64, u65, u66, u67, u68, u69, u70, u71, u72, u73, u74, u75, u76, u77, u78, u79, u80, u81, u82, u83, u84, u85, u86, u87, u88, u89, u90, u91, u92, u93, u94, u95, u96, u97, u98, u99, u100, u101, u102, u103, u104, u105, u106, u107, u108, u109, u110, u111, u112, u113, u114, u115, u116, u117, u118, u119, u120, u121, u122, u123, u124, u125, u126, u127, u128, u129, u130, u131, u132, u133, u134, u135, u136, u137, u138, u139, u140, u141, u142, u143, u144, u145, u146, u147, u148, u149, u150, u151, u152, u153, u154, u155, u156, u157, u158, u159, u160, u161, u162, u163, u164, u165, u166, u167, u168, u169, u170, u171, u172, u173, u174, u175, u176, u177, u178, u179, u180, u181, u182, u183, u184, u185, u186, u187, u188, u189, u190, u191, u192, u193, u194, u195, u196, u197, u198, u199, u200, u201, u202, u203, u204, u205, u206, u207, u208, u209, u210, u211, u212, u213, u214, u215, u216, u217, u218, u219, u220, u221, u222, u223, u224, u225, u226, u227, u228, u229, u230, u231, u232, u233, u234, u235], []⟩ w := by
  rw [tl4_16]
  refine wp_seq_k (fun K hK => ?_)
  conv => arg 2; whnf
  have d1 := hE.c1
  have d2 := hE.c2
  go_wp2_with (go_at_call 9; go_must (refine (ye_any _ _ _ _ _).mono ?_; rintro e w1 ⟨rfl, hb1⟩))
  have hE1 := hE.below hb1
  have hbb := hb.trans (hb1.mono hb.size)
  clear hE hb hb1 d1 d2
  rw [tl4_17]
  refine wp_seq_k (fun K hK => ?_)
  conv => arg 2; whnf
  have d1 := hE1.c3
  have d2 := hE1.c4
  go_wp2_with (go_at_call 9; go_must (refine (ye_any _ _ _ _ _).mono ?_; rintro e w2 ⟨rfl, hb2⟩))
  have hE2 := hE1.below hb2
  exact t18 _ _ _ _ _ _ _ _ _ _ _ _ _ _ _ _ _ _ _ _ _ _ _ _ _ _ _ _ _ _ _ _ _ _ _ _ _ _ _ _ _ _ _ _ _ _ _ _ _ _ _ _ _ _ _ _ _ _ _ _ _ _ _ _ _ _ _ _ _ _ _ _ _ _ _ _ _ _ _ _ _ _ _ _ _ _ _ _ _ _ _ _ _ _ _ _ _ _ _ _ _ _ _ _ _ _ _ _ _ _ _ _ _ _ _ _ _ _ _ _ _ _ _ _ _ _ _ _ _ _ _ _ _ _ _ _ _ _ _ _ _ _ _ _ _ _ _ _ _ _ _ _ _ _ _ _ _ _ _ _ _ _ _ _ _ _ _ _ _ _ _ _ _ _ _ _ _ _ _ _ _ _ _ _ _ _ _ _ _ _ _ _ _ _ _ _ _ _ _ _ _ _ _ _ _ _ _ _ _ _ _ _ _ _ _ _ _ _ _ _ _ _ _ _ _ _ _ _ _ _ _ _ _ _ _ _ _ _ _ _ _ _ _ _ hE2.ints hE2.ya hE2.yb hz (hbb.trans (hb2.mono hbb.size))

set_option maxRecDepth 100000 in
set_option maxHeartbeats 1000000 in
theorem t15 (o : Option Addr) (cp : Nat) (ss : List ByteArray) (o2 : Option Addr) (cp2 : Nat) (zs : List Int) (k b1 : Nat) (D1 : DataW Unit) (b2 : Nat) (D2 : DataW Unit) (oa ob : Option Addr) (cpa cpb ba bb : Nat) (fr : Nat) (w w0 : World) (u3 u4 u5 u6 u7 u8 u9 u10 u15 u16 u17 u18 u19 u21 u22 u23 u24 u25 u26 u27 u28 u29 u30 u31 u32 u33 u34 u35 u36 u37 u38 u39 u40 u41 u42 u43 u44 u45 u46 u47 u48 u49 u50 u51 u52 u53 u54 u55 u56 u57 u58 u59 u60 u61 u62 u63 u64 u65 u66 u67 u68 u69 u70 u71 u72 u73 u74 u75 u76 u77 u78 u79 u80 u81 u82 u83 u84 u85 u86 u87 u88 u89 u90 u91 u92 u93 u94 u95 u96 u97 u98 u99 u100 u101 u102 u103 u104 u105 u106 u107 u108 u109 u110 u111 u112 u113 u114 u115 u116 u117 u118 u119 u120 u121 u122 u123 u124 u125 u126 u127 u128 u129 u130 u131 u132 u133 u134 u135 u136 u137 u138 u139 u140 u141 u142 u143 u144 u145 u146 u147 u148 u149 u150 u151 u152 u153 u154 u155 u156 u157 u158 u159 u160 u161 u162 u163 u164 u165 u166 u167 u168 u169 u170 u171 u172 u173 u174 u175 u176 u177 u178 u179 u180 u181 u182 u183 u184 u185 u186 u187 u188 u189 u190 u191 u192 u193 u194 u195 u196 u197 u198 u199 u200 u201 u202 u203 u204 u205 u206 u207 u208 u209 u210 u211 u212 u213 u214 u215 u216 u217 u218 u219 u220 u221 u222 u223 u224 u225 u226 u227 u228 u229 u230 u231 u232 u233 u234 u235 : Value)
    (hE : Env w o ss o2 zs k b1 D1 b2 D2 oa ob cpa cpb ba bb) (hw : ∀ i, (ss.getD i ByteArray.empty).size ≤ 1048576) (hl : ss.length ≤ 4096) (hz : zs.length ≤ 65536) (hk : k ≤ ss.length) (hb : Below w0.heap.size w0 w) (hfr : fr + (Pl.dst ((keys ss).take k)).length = (Pl.dst (keys ss)).length) :
    Code.wp Try.prog (tl Try.f4 15) (QT Try.f4 w0.heap.size w0) ⟨#[.slice o ss.length cp, .slice o2 zs.length cp2, .int .i64 k, u3, u4, u5, u6, u7, u8, u9, u10, .pointer (some ⟨ba, 0, none⟩), .pointer (some ⟨bb, 0, none⟩), .map (some b1), .map (some b2), u15, u16, u17, u18, u19, .int .i64 fr, u21, u22, u23, u24, u25, u26, u27, u28, u29, u30, u31, u32, u33, u34, u35, u36, u37, u38, u39, u40, u41, u42, u43, u44, u45, u46, u47, u48, u49, u50, u51, u52, u53, u54, u55, u56, u57, u58, u59, u60, u61, u62, u63, u64, u65, u66, u67, u68, u69, u70, u71, u72, u73, u74, u75, u76, u77, u78, u79, u80, u81, u82, u83, u84, u85, u86, u87, u88, u89, u90, u91, u92, u93, u94, u95, u96, u97, u98, u99, u100, u101, u102, u103, u104, u105, u106, u107, u108, u109, u110, u111, u112, u113, u114, u115, u116, u117, u118, u119, u120, u121, u122, u123, u124, u125, u126, u127, u128, u129, u130, u131, u132, u133, u134, u135, u136, u137, u138, u139, u140, u141, u142, u143, u144, u145, u146, u147, u148, u149, u150, u151, u152, u153, u154, u155, u156, u157, u158, u159, u160, u161, u162, u163, u164, u165, u166, u167, u168, u169, u170, u171, u172, u173, u174, u175, u176, u177, u178, u179, u180, u181, u182, u183, u184, u185, u186, u187, u188, u189, u190, u191, u192, u193, u194, u195, u196, u197, u198, u199, u200, u201, u202, u203, u204, u205, u206, u207, u208, u209, u210, u211, u212, u213, u214, u215, u216, u217, u218, u219, u220, u221, u222, u223, u224, u225, u226, u227, u228, u229, u230, u231, u232, u233, u234, u235], []⟩ w := by
  rw [tl4_15]
  refine wp_seq_k (fun K hK => ?_)
  conv => arg 2; whnf
  have l1 := Pl.dst_len_le (keys ss)
  rw [keys_len] at l1
  have m1 := hE.m1
  have m2 := hE.m2
  have n1 := hE.n1
  have n2 := hE.n2
  obtain ⟨L, hL⟩ : ∃ L, (Pl.dst ((keys ss).take k)).length = L := ⟨_, rfl⟩
  obtain ⟨M, hM⟩ : ∃ M, (Pl.dst (keys ss)).length = M := ⟨_, rfl⟩
  have e1 : ((M : Int) != (L : Int) + (fr : Int)) = false := by simp; omega
  have lL : L ≤ 4096 := by omega
  have lF : fr ≤ 4096 := by omega
  have HL : Hid _ := hL
  have HM : Hid _ := hM
  clear hL hM hfr l1
  go_wp2_with (first
    | (at_len; refine wpList_len_num rfl (.tmp 187) rfl b2 _ D2 _ M rfl m2 n2 HM.out ?_)
    | (at_len; refine wpList_len_num rfl (.tmp 189) rfl b1 _ D1 _ L rfl m1 n1 HL.out ?_))
  exact t16 _ _ _ _ _ _ _ _ _ _ _ _ _ _ _ _ _ _ _ _ _ _ _ _ _ _ _ _ _ _ _ _ _ _ _ _ _ _ _ _ _ _ _ _ _ _ _ _ _ _ _ _ _ _ _ _ _ _ _ _ _ _ _ _ _ _ _ _ _ _ _ _ _ _ _ _ _ _ _ _ _ _ _ _ _ _ _ _ _ _ _ _ _ _ _ _ _ _ _ _ _ _ _ _ _ _ _ _ _ _ _ _ _ _ _ _ _ _ _ _ _ _ _ _ _ _ _ _ _ _ _ _ _ _ _ _ _ _ _ _ _ _ _ _ _ _ _ _ _ _ _ _ _ _ _ _ _ _ _ _ _ _ _ _ _ _ _ _ _ _ _ _ _ _ _ _ _ _ _ _ _ _ _ _ _ _ _ _ _ _ _ _ _ _ _ _ _ _ _ _ _ _ _ _ _ _ _ _ _ _ _ _ _ _ _ _ _ _ _ _ _ _ _ _ _ _ _ _ _ _ _ _ _ _ _ _ _ _ _ _ _ _ _ _ _ _ _ _ hE hw hl hz hk hb

end Go.Proofs.Qxb6626221a
