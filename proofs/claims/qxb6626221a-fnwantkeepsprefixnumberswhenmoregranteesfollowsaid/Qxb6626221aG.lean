/-
  Seat b6626221a: FnWantKeepsPrefixNumbersWhenMoreGranteesFollow, statements 0 to 12. Frames written by program.
-/
import Derived.Test.Qxb6626221aF
namespace Go.Proofs.Qxb6626221a
open Go.RowKit Go.Maps
open Go.WideMaps (keyOf_string_mk)
set_option linter.unusedVariables false
attribute [local go_sem] eqNil23 neNil23 neNil22

theorem take_size {ss : List ByteArray} (hw : ∀ i, (ss.getD i ByteArray.empty).size ≤ 1048576) (k i : Nat) : ((ss.take k).getD i ByteArray.empty).size ≤ maxLen := by
  by_cases h : i < (ss.take k).length
  · have h1 : i < ss.length := by simp at h; omega
    have h2 : i < k := by simp at h; omega
    have h3 : (ss.take k).getD i ByteArray.empty = ss.getD i ByteArray.empty := by simp [h1, h2]
    rw [h3]
    exact Nat.le_trans (hw i) (by unfold maxLen; omega)
  · rw [List.getD_eq_getElem?_getD, List.getElem?_eq_none (by omega)]
    exact Nat.zero_le _

set_option maxRecDepth 100000 in
set_option maxHeartbeats 1000000 in
theorem t12 (o : Option Addr) (cp : Nat) (ss : List ByteArray) (o2 : Option Addr) (cp2 : Nat) (zs : List Int) (k b1 : Nat) (D1 : DataW Unit) (b2 : Nat) (D2 : DataW Unit) (oa ob : Option Addr) (cpa cpb ba bb : Nat) (w w0 : World) (u3 u4 u5 u6 u7 u8 u9 u10 u15 u16 u17 u18 u19 u20 u21 u22 u23 u24 u25 u26 u27 u28 u29 u30 u31 u32 u33 u34 u35 u36 u37 u38 u39 u40 u41 u42 u43 u44 u45 u46 u47 u48 u49 u50 u51 u52 u53 u54 u55 u56 u57 u58 u59 u60 u61 u62 u63 u64 u65 u66 u67 u68 u69 u70 u71 u72 u73 u74 u75 u76 u77 u78 u79 u80 u81 u82 u83 u84 u85 u86 u87 u88 u89 u90 u91 u92 u93 u94 u95 u96 u97 u98 u99 u100 u101 u102 u103 u104 u105 u106 u107 u108 u109 u110 u111 u112 u113 u114 u115 u116 u117 u118 u119 u120 u121 u122 u123 u124 u125 u126 u127 u128 u129 u130 u131 u132 u133 u134 u135 u136 u137 u138 u139 u140 u141 u142 u143 u144 u145 u146 u147 u148 u149 u150 u151 u152 u153 u154 u155 u156 u157 u158 u159 u160 u161 u162 u163 u164 u165 u166 u167 u168 u169 u170 u171 u172 u173 u174 u175 u176 u177 u178 u179 u180 u181 u182 u183 u184 u185 u186 u187 u188 u189 u190 u191 u192 u193 u194 u195 u196 u197 u198 u199 u200 u201 u202 u203 u204 u205 u206 u207 u208 u209 u210 u211 u212 u213 u214 u215 u216 u217 u218 u219 u220 u221 u222 u223 u224 u225 u226 u227 u228 u229 u230 u231 u232 u233 u234 u235 : Value)
    (hE : Env w o ss o2 zs k b1 D1 b2 D2 oa ob cpa cpb ba bb) (hw : ∀ i, (ss.getD i ByteArray.empty).size ≤ 1048576) (hl : ss.length ≤ 4096) (hz : zs.length ≤ 65536) (hk : k ≤ ss.length) (hb : Below w0.heap.size w0 w) :
    Code.wp Try.prog (tl Try.f4 12) (QT Try.f4 w0.heap.size w0) ⟨#[.slice o ss.length cp, .slice o2 zs.length cp2, .int .i64 k, u3, u4, u5, u6, u7, u8, u9, u10, .pointer (some ⟨ba, 0, none⟩), .pointer (some ⟨bb, 0, none⟩), .map (some b1), .map (some b2), u15, u16, u17, u18, u19, u20, u21, u22, u23, u24, u25, u26, u27, u28, u29, u30, u31, u32, u33, u34, u35, u36, u37, u38, u39, u40, u41, u42, u43, u44, u45, u46, u47, u48, u49, u50, u51, u52, u53, u54, u55, u56, u57, u58, u59, u60, u61, u62, u63, u64, u65, u66, u67, u68, u69, u70, u71, u72, u73, u74, u75, u76, u77, u78, u79, u80, u81, u82, u83, u84, u85, u86, u87, u88, u89, u90, u91, u92, u93, u94, u95, u96, u97, u98, u99, u100, u101, u102, u103, u104, u105, u106, u107, u108, u109, u110, u111, u112, u113, u114, u115, u116, u117, u118, u119, u120, u121, u122, u123, u124, u125, u126, u127, u128, u129, u130, u131, u132, u133, u134, u135, u136, u137, u138, u139, u140, u141, u142, u143, u144, u145, u146, u147, u148, u149, u150, u151, u152, u153, u154, u155, u156, u157, u158, u159, u160, u161, u162, u163, u164, u165, u166, u167, u168, u169, u170, u171, u172, u173, u174, u175, u176, u177, u178, u179, u180, u181, u182, u183, u184, u185, u186, u187, u188, u189, u190, u191, u192, u193, u194, u195, u196, u197, u198, u199, u200, u201, u202, u203, u204, u205, u206, u207, u208, u209, u210, u211, u212, u213, u214, u215, u216, u217, u218, u219, u220, u221, u222, u223, u224, u225, u226, u227, u228, u229, u230, u231, u232, u233, u234, u235], []⟩ w := by
  rw [tl4_12]
  refine wp_seq_k (fun K hK => ?_)
  conv => arg 2; whnf
  go_wp2_with fail
  go_loop [15] (fun i => ∃ q : Nat, q ≤ k ∧ i = .int .i64 q) (fun i => k - (intOf i).toNat)
  case atStart => exact ⟨0, Nat.zero_le _, rfl⟩
  case round =>
    obtain ⟨q, hq, rfl⟩ := hrel
    by_cases hlt : q < k
    · have hlt2 : q < ss.length := by omega
      obtain ⟨x, off, rfl, hcs⟩ := hE.strs.at hlt2
      have e2 := hcs q hlt2
      have hkey := key_at hlt2 hw
      have hkl : q < (keys ss).length := by rw [keys_len]; exact hlt2
      have hm := Pl.mem_take hlt hkl
      have hin1 : (keys ss).getD q [] ∈ Pl.dst ((keys ss).take k) := (Pl.mem_dst _ _).2 hm
      have hin2 : (keys ss).getD q [] ∈ Pl.dst (keys ss) := (Pl.mem_dst _ _).2 (List.mem_of_mem_take hm)
      have hii := Pl.idx_take (keys ss) k _ hm
      obtain ⟨M, hM⟩ : ∃ M, (Pl.dst (keys ss)).idxOf ((keys ss).getD q []) = M := ⟨_, rfl⟩
      rw [hM] at hii
      have HM : Hid _ := hM
      have HI : Hid _ := hii.symm
      have H1 : Hid _ := hin1
      have H2 : Hid _ := hin2
      have m1 := hE.m1
      have n1 := hE.n1
      have m2 := hE.m2
      have n2 := hE.n2
      have hne : ((M : Int) != (M : Int)) = false := by simp
      have hlt' : (q : Int) < (k : Int) := by omega
      have hlt3 : (q : Int) < (ss.length : Int) := by omega
      have tok1 : True := trivial
      generalize hg : ss.getD q ByteArray.empty = g at e2 hkey
      clear hg hM hii hin1 hin2 hm hcs
      go_wp2_with (first
        | (at_lookup; have _t := tok1; refine wpList_lookup_in rfl (.tmp 107) (.tmp 111) rfl b1 _ D1 _ ((keys ss).getD q []) M rfl m1 n1 _ rfl hkey H1.out HI.out ?_; clear tok1)
        | (at_lookup; refine wpList_lookup_in rfl (.tmp 116) (.tmp 120) rfl b2 _ D2 _ ((keys ss).getD q []) M rfl m2 n2 _ rfl hkey H2.out HM.out ?_))
      go_round
      case rel => exact ⟨q + 1, by omega, by go_num⟩
      case measure => simp [intOf]; omega
    · obtain rfl : q = k := by omega
      go_wp2_with fail
      rw [tl4_13]
      refine wp_seq_k (fun K hK => ?_)
      conv => arg 2; whnf
      go_wp2_with fail
      exact t14 _ _ _ _ _ _ _ _ _ _ _ _ _ _ _ _ _ _ _ _ _ _ _ _ _ _ _ _ _ _ _ _ _ _ _ _ _ _ _ _ _ _ _ _ _ _ _ _ _ _ _ _ _ _ _ _ _ _ _ _ _ _ _ _ _ _ _ _ _ _ _ _ _ _ _ _ _ _ _ _ _ _ _ _ _ _ _ _ _ _ _ _ _ _ _ _ _ _ _ _ _ _ _ _ _ _ _ _ _ _ _ _ _ _ _ _ _ _ _ _ _ _ _ _ _ _ _ _ _ _ _ _ _ _ _ _ _ _ _ _ _ _ _ _ _ _ _ _ _ _ _ _ _ _ _ _ _ _ _ _ _ _ _ _ _ _ _ _ _ _ _ _ _ _ _ _ _ _ _ _ _ _ _ _ _ _ _ _ _ _ _ _ _ _ _ _ _ _ _ _ _ _ _ _ _ _ _ _ _ _ _ _ _ _ _ _ _ _ _ _ _ _ _ _ _ _ _ _ _ _ _ _ _ _ _ _ _ _ _ _ _ _ _ _ _ _ _ hE hw hl hz hk hb

set_option maxRecDepth 100000 in
set_option maxHeartbeats 1000000 in
theorem t10 (o : Option Addr) (cp : Nat) (ss : List ByteArray) (o2 : Option Addr) (cp2 : Nat) (zs : List Int) (k b1 : Nat) (D1 : DataW Unit) (b2 : Nat) (D2 : DataW Unit) (oa ob : Option Addr) (cpa cpb ba bb : Nat) (w w0 : World) (u3 u4 u5 u6 u7 u8 u9 u10 u13 u14 u15 u16 u17 u18 u19 u20 u21 u22 u23 u24 u25 u26 u27 u28 u29 u30 u31 u32 u33 u34 u35 u36 u37 u38 u39 u40 u41 u42 u43 u44 u45 u46 u47 u48 u49 u50 u51 u52 u53 u54 u55 u56 u57 u58 u59 u60 u61 u62 u63 u64 u65 u66 u67 u68 u69 u70 u71 u72 u73 u74 u75 u76 u77 u78 u79 u80 u81 u82 u83 u84 u85 u86 u87 u88 u89 u90 u91 u92 u93 u94 u95 u96 u97 u98 u99 u100 u101 u102 u103 u104 u105 u106 u107 u108 u109 u110 u111 u112 u113 u114 u115 u116 u117 u118 u119 u120 u121 u122 u123 u124 u125 u126 u127 u128 u129 u130 u131 u132 u133 u134 u135 u136 u137 u138 u139 u140 u141 u142 u143 u144 u145 u146 u147 u148 u149 u150 u151 u152 u153 u154 u155 u156 u157 u158 u159 u160 u161 u162 u163 u164 u165 u166 u167 u168 u169 u170 u171 u172 u173 u174 u175 u176 u177 u178 u179 u180 u181 u182 u183 u184 u185 u186 u187 u188 u189 u190 u191 u192 u193 u194 u195 u196 u197 u198 u199 u200 u201 u202 u203 u204 u205 u206 u207 u208 u209 u210 u211 u212 u213 u214 u215 u216 u217 u218 u219 u220 u221 u222 u223 u224 u225 u226 u227 u228 u229 u230 u231 u232 u233 u234 u235 : Value)
    (hE : Env w o ss o2 zs k b1 D1 b2 D2 oa ob cpa cpb ba bb) (hw : ∀ i, (ss.getD i ByteArray.empty).size ≤ 1048576) (hl : ss.length ≤ 4096) (hz : zs.length ≤ 65536) (hk : k ≤ ss.length) (hb : Below w0.heap.size w0 w) :
    Code.wp Try.prog (tl Try.f4 10) (QT Try.f4 w0.heap.size w0) ⟨#[.slice o ss.length cp, .slice o2 zs.length cp2, .int .i64 k, u3, u4, u5, u6, u7, u8, u9, u10, .pointer (some ⟨ba, 0, none⟩), .pointer (some ⟨bb, 0, none⟩), u13, u14, u15, u16, u17, u18, u19, u20, u21, u22, u23, u24, u25, u26, u27, u28, u29, u30, u31, u32, u33, u34, u35, u36, u37, u38, u39, u40, u41, u42, u43, u44, u45, u46, u47, u48, u49, u50, u51, u52, u53, u54, u55, u56, u57, u58, u59, u60, u61, u62, u63, u64, u65, u66, u67, u68, u69, u70, u71, u72, u73, u74, u75, u76, u77, u78, u79, u80, u81, u82, u83, u84, u85, u86, u87, u88, u89, u90, u91, u92, u93, u94, u95, u96, u97, u98, u99, u100, u101, u102, u103, u104, u105, u106, u107, u108, u109, u110, u111, u112, u113, u114, u115, u116, u117, u118, u119, u120, u121, u122, u123, u124, u125, u126, u127, u128, u129, u130, u131, u132, u133, u134, u135, u136, u137, u138, u139, u140, u141, u142, u143, u144, u145, u146, u147, u148, u149, u150, u151, u152, u153, u154, u155, u156, u157, u158, u159, u160, u161, u162, u163, u164, u165, u166, u167, u168, u169, u170, u171, u172, u173, u174, u175, u176, u177, u178, u179, u180, u181, u182, u183, u184, u185, u186, u187, u188, u189, u190, u191, u192, u193, u194, u195, u196, u197, u198, u199, u200, u201, u202, u203, u204, u205, u206, u207, u208, u209, u210, u211, u212, u213, u214, u215, u216, u217, u218, u219, u220, u221, u222, u223, u224, u225, u226, u227, u228, u229, u230, u231, u232, u233, u234, u235], []⟩ w := by
  rw [tl4_10]
  refine wp_seq_k (fun K hK => ?_)
  conv => arg 2; whnf
  have d1 := hE.c1
  have d2 := hE.c2
  go_wp2_with (go_at_call 8; go_must (refine (gr_any _ _ _ _ _).mono ?_; rintro e w1 ⟨rfl, hb1⟩))
  have hE1 := hE.below hb1
  have hbb := hb.trans (hb1.mono hb.size)
  clear hE hb hb1 d1 d2
  rw [tl4_11]
  refine wp_seq_k (fun K hK => ?_)
  conv => arg 2; whnf
  have d1 := hE1.c3
  have d2 := hE1.c4
  go_wp2_with (go_at_call 8; go_must (refine (gr_any _ _ _ _ _).mono ?_; rintro e w2 ⟨rfl, hb2⟩))
  exact t12 _ _ _ _ _ _ _ _ _ _ _ _ _ _ _ _ _ _ _ _ _ _ _ _ _ _ _ _ _ _ _ _ _ _ _ _ _ _ _ _ _ _ _ _ _ _ _ _ _ _ _ _ _ _ _ _ _ _ _ _ _ _ _ _ _ _ _ _ _ _ _ _ _ _ _ _ _ _ _ _ _ _ _ _ _ _ _ _ _ _ _ _ _ _ _ _ _ _ _ _ _ _ _ _ _ _ _ _ _ _ _ _ _ _ _ _ _ _ _ _ _ _ _ _ _ _ _ _ _ _ _ _ _ _ _ _ _ _ _ _ _ _ _ _ _ _ _ _ _ _ _ _ _ _ _ _ _ _ _ _ _ _ _ _ _ _ _ _ _ _ _ _ _ _ _ _ _ _ _ _ _ _ _ _ _ _ _ _ _ _ _ _ _ _ _ _ _ _ _ _ _ _ _ _ _ _ _ _ _ _ _ _ _ _ _ _ _ _ _ _ _ _ _ _ _ _ _ _ _ _ _ _ _ _ _ _ _ _ _ _ _ _ _ _ _ _ _ _ (hE1.below hb2) hw hl hz hk (hbb.trans (hb2.mono hbb.size))

set_option maxRecDepth 100000 in
set_option maxHeartbeats 1000000 in
theorem t8 (o : Option Addr) (cp : Nat) (ss : List ByteArray) (o2 : Option Addr) (cp2 : Nat) (zs : List Int) (k : Nat) (w w0 : World) (u3 u4 u5 u6 u7 u8 u9 u10 u11 u12 u13 u14 u15 u16 u17 u18 u19 u20 u21 u22 u23 u24 u25 u26 u27 u28 u29 u30 u31 u32 u33 u34 u35 u36 u37 u38 u39 u40 u41 u42 u43 u44 u45 u46 u47 u48 u49 u50 u51 u52 u53 u54 u55 u56 u57 u58 u59 u60 u61 u62 u63 u64 u65 u66 u67 u68 u69 u70 u71 u72 u73 u74 u75 u76 u77 u78 u79 u80 u81 u82 u83 u84 u85 u86 u87 u88 u89 u90 u91 u92 u93 u94 u95 u96 u97 u98 u99 u100 u101 u102 u103 u104 u105 u106 u107 u108 u109 u110 u111 u112 u113 u114 u115 u116 u117 u118 u119 u120 u121 u122 u123 u124 u125 u126 u127 u128 u129 u130 u131 u132 u133 u134 u135 u136 u137 u138 u139 u140 u141 u142 u143 u144 u145 u146 u147 u148 u149 u150 u151 u152 u153 u154 u155 u156 u157 u158 u159 u160 u161 u162 u163 u164 u165 u166 u167 u168 u169 u170 u171 u172 u173 u174 u175 u176 u177 u178 u179 u180 u181 u182 u183 u184 u185 u186 u187 u188 u189 u190 u191 u192 u193 u194 u195 u196 u197 u198 u199 u200 u201 u202 u203 u204 u205 u206 u207 u208 u209 u210 u211 u212 u213 u214 u215 u216 u217 u218 u219 u220 u221 u222 u223 u224 u225 u226 u227 u228 u229 u230 u231 u232 u233 u234 u235 : Value)
    (hs : Strs w o ss) (hw : ∀ i, (ss.getD i ByteArray.empty).size ≤ 1048576) (hl : ss.length ≤ 4096) (hcp : ss.length ≤ cp) (hc : IntsO w o2 zs) (hz : zs.length ≤ 65536) (hb : Below w0.heap.size w0 w) (hk : k ≤ ss.length) :
    Code.wp Try.prog (tl Try.f4 8) (QT Try.f4 w0.heap.size w0) ⟨#[.slice o ss.length cp, .slice o2 zs.length cp2, .int .i64 k, u3, u4, u5, u6, u7, u8, u9, u10, u11, u12, u13, u14, u15, u16, u17, u18, u19, u20, u21, u22, u23, u24, u25, u26, u27, u28, u29, u30, u31, u32, u33, u34, u35, u36, u37, u38, u39, u40, u41, u42, u43, u44, u45, u46, u47, u48, u49, u50, u51, u52, u53, u54, u55, u56, u57, u58, u59, u60, u61, u62, u63, u64, u65, u66, u67, u68, u69, u70, u71, u72, u73, u74, u75, u76, u77, u78, u79, u80, u81, u82, u83, u84, u85, u86, u87, u88, u89, u90, u91, u92, u93, u94, u95, u96, u97, u98, u99, u100, u101, u102, u103, u104, u105, u106, u107, u108, u109, u110, u111, u112, u113, u114, u115, u116, u117, u118, u119, u120, u121, u122, u123, u124, u125, u126, u127, u128, u129, u130, u131, u132, u133, u134, u135, u136, u137, u138, u139, u140, u141, u142, u143, u144, u145, u146, u147, u148, u149, u150, u151, u152, u153, u154, u155, u156, u157, u158, u159, u160, u161, u162, u163, u164, u165, u166, u167, u168, u169, u170, u171, u172, u173, u174, u175, u176, u177, u178, u179, u180, u181, u182, u183, u184, u185, u186, u187, u188, u189, u190, u191, u192, u193, u194, u195, u196, u197, u198, u199, u200, u201, u202, u203, u204, u205, u206, u207, u208, u209, u210, u211, u212, u213, u214, u215, u216, u217, u218, u219, u220, u221, u222, u223, u224, u225, u226, u227, u228, u229, u230, u231, u232, u233, u234, u235], []⟩ w := by
  rw [tl4_8]
  refine wp_seq_k (fun K hK => ?_)
  conv => arg 2; whnf
  have hkc : (k : Int) ≤ (cp : Int) := by omega
  go_wp2_with fail
  refine (want_n k zs.length o cp (ss.take k) (by simp; omega) o2 cp2 zs rfl _ (hs.take k) (fun i => take_size hw k i) (by simp; omega) hc hz).mono ?_
  rintro e w1 ⟨b1, oa, cpa, D1, rfl, _, hm1, hn1, _, hr1, hb1⟩
  rw [keys_take] at hn1
  go_wp2_with fail
  rw [tl4_9]
  refine wp_seq_k (fun K hK => ?_)
  conv => arg 2; whnf
  have hal : Below w1.heap.size w1 (w1.alloc (.cells #[.map (some b1), .slice oa zs.length cpa] 28)) := (Below.refl _ _).alloc (Nat.le_refl _) _
  have hbx : Below w.heap.size w (w1.alloc (.cells #[.map (some b1), .slice oa zs.length cpa] 28)) := hb1.trans (hal.mono hb1.size)
  go_wp2_with fail
  refine (want_n ss.length zs.length o cp ss rfl o2 cp2 zs rfl _ (hs.below hbx) (fun i => Nat.le_trans (hw i) (by unfold maxLen; omega)) hl (hc.below hbx) hz).mono ?_
  rintro e w2 ⟨b2, ob, cpb, D2, rfl, _, hm2, hn2, _, hr2, hb2⟩
  have hal2 : Below w2.heap.size w2 (w2.alloc (.cells #[.map (some b2), .slice ob zs.length cpb] 28)) := (Below.refl _ _).alloc (Nat.le_refl _) _
  have c1 : (w1.alloc (.cells #[.map (some b1), .slice oa zs.length cpa] 28)).cell? ⟨w1.heap.size, 0, none⟩ = some (.map (some b1)) := cell_of_row _ _ 0 _ _ _ (heap_alloc_new _ _)
  have c2 : (w1.alloc (.cells #[.map (some b1), .slice oa zs.length cpa] 28)).cell? ⟨w1.heap.size, 1, none⟩ = some (.slice oa zs.length cpa) := cell_of_row _ _ 1 _ _ _ (heap_alloc_new _ _)
  have c3 : (w2.alloc (.cells #[.map (some b2), .slice ob zs.length cpb] 28)).cell? ⟨w2.heap.size, 0, none⟩ = some (.map (some b2)) := cell_of_row _ _ 0 _ _ _ (heap_alloc_new _ _)
  have c4 : (w2.alloc (.cells #[.map (some b2), .slice ob zs.length cpb] 28)).cell? ⟨w2.heap.size, 1, none⟩ = some (.slice ob zs.length cpb) := cell_of_row _ _ 1 _ _ _ (heap_alloc_new _ _)
  have hbz := hb2.trans (hal2.mono hb2.size)
  have hall := hbx.trans (hbz.mono hbx.size)
  have hE : Env (w2.alloc (.cells #[.map (some b2), .slice ob zs.length cpb] 28)) o ss o2 zs k b1 D1 b2 D2 oa ob cpa cpb w1.heap.size w2.heap.size :=
    ⟨hs.below hall, hc.below hall, map_below (map_below hm1 hal) hbz, hn1, map_below hm2 hal2, hn2, ((ints_of_row hr1).below hal).below hbz, (ints_of_row hr2).below hal2, cell_later hbz c1, cell_later hbz c2, c3, c4⟩
  have hbw := hb.trans (hall.mono hb.size)
  clear hs hc hm1 hn1 hr1 hb1 hal hbx hm2 hn2 hr2 hb2 c1 c2 c3 c4 hbz hall hb hkc
  go_wp2_with fail
  exact t10 _ _ _ _ _ _ _ _ _ _ _ _ _ _ _ _ _ _ _ _ _ _ _ _ _ _ _ _ _ _ _ _ _ _ _ _ _ _ _ _ _ _ _ _ _ _ _ _ _ _ _ _ _ _ _ _ _ _ _ _ _ _ _ _ _ _ _ _ _ _ _ _ _ _ _ _ _ _ _ _ _ _ _ _ _ _ _ _ _ _ _ _ _ _ _ _ _ _ _ _ _ _ _ _ _ _ _ _ _ _ _ _ _ _ _ _ _ _ _ _ _ _ _ _ _ _ _ _ _ _ _ _ _ _ _ _ _ _ _ _ _ _ _ _ _ _ _ _ _ _ _ _ _ _ _ _ _ _ _ _ _ _ _ _ _ _ _ _ _ _ _ _ _ _ _ _ _ _ _ _ _ _ _ _ _ _ _ _ _ _ _ _ _ _ _ _ _ _ _ _ _ _ _ _ _ _ _ _ _ _ _ _ _ _ _ _ _ _ _ _ _ _ _ _ _ _ _ _ _ _ _ _ _ _ _ _ _ _ _ _ _ _ _ _ _ _ _ _ _ _ hE hw hl hz hk hbw

set_option maxRecDepth 100000 in
set_option maxHeartbeats 1000000 in
theorem t7 (o : Option Addr) (cp : Nat) (ss : List ByteArray) (o2 : Option Addr) (cp2 : Nat) (zs : List Int) (k : Int) (w w0 : World) (u3 u4 u5 u6 u7 u8 u9 u10 u11 u12 u13 u14 u15 u16 u17 u18 u19 u20 u21 u22 u23 u24 u25 u26 u27 u28 u29 u30 u31 u32 u33 u34 u35 u36 u37 u38 u39 u40 u41 u42 u43 u44 u45 u46 u47 u48 u49 u50 u51 u52 u53 u54 u55 u56 u57 u58 u59 u60 u61 u62 u63 u64 u65 u66 u67 u68 u69 u70 u71 u72 u73 u74 u75 u76 u77 u78 u79 u80 u81 u82 u83 u84 u85 u86 u87 u88 u89 u90 u91 u92 u93 u94 u95 u96 u97 u98 u99 u100 u101 u102 u103 u104 u105 u106 u107 u108 u109 u110 u111 u112 u113 u114 u115 u116 u117 u118 u119 u120 u121 u122 u123 u124 u125 u126 u127 u128 u129 u130 u131 u132 u133 u134 u135 u136 u137 u138 u139 u140 u141 u142 u143 u144 u145 u146 u147 u148 u149 u150 u151 u152 u153 u154 u155 u156 u157 u158 u159 u160 u161 u162 u163 u164 u165 u166 u167 u168 u169 u170 u171 u172 u173 u174 u175 u176 u177 u178 u179 u180 u181 u182 u183 u184 u185 u186 u187 u188 u189 u190 u191 u192 u193 u194 u195 u196 u197 u198 u199 u200 u201 u202 u203 u204 u205 u206 u207 u208 u209 u210 u211 u212 u213 u214 u215 u216 u217 u218 u219 u220 u221 u222 u223 u224 u225 u226 u227 u228 u229 u230 u231 u232 u233 u234 u235 : Value)
    (hs : Strs w o ss) (hw : ∀ i, (ss.getD i ByteArray.empty).size ≤ 1048576) (hl : ss.length ≤ 4096) (hcp : ss.length ≤ cp) (hc : IntsO w o2 zs) (hz : zs.length ≤ 65536) (hb : Below w0.heap.size w0 w) :
    Code.wp Try.prog (tl Try.f4 7) (QT Try.f4 w0.heap.size w0) ⟨#[.slice o ss.length cp, .slice o2 zs.length cp2, .int .i64 k, u3, u4, u5, u6, u7, u8, u9, u10, u11, u12, u13, u14, u15, u16, u17, u18, u19, u20, u21, u22, u23, u24, u25, u26, u27, u28, u29, u30, u31, u32, u33, u34, u35, u36, u37, u38, u39, u40, u41, u42, u43, u44, u45, u46, u47, u48, u49, u50, u51, u52, u53, u54, u55, u56, u57, u58, u59, u60, u61, u62, u63, u64, u65, u66, u67, u68, u69, u70, u71, u72, u73, u74, u75, u76, u77, u78, u79, u80, u81, u82, u83, u84, u85, u86, u87, u88, u89, u90, u91, u92, u93, u94, u95, u96, u97, u98, u99, u100, u101, u102, u103, u104, u105, u106, u107, u108, u109, u110, u111, u112, u113, u114, u115, u116, u117, u118, u119, u120, u121, u122, u123, u124, u125, u126, u127, u128, u129, u130, u131, u132, u133, u134, u135, u136, u137, u138, u139, u140, u141, u142, u143, u144, u145, u146, u147, u148, u149, u150, u151, u152, u153, u154, u155, u156, u157, u158, u159, u160, u161, u162, u163, u164, u165, u166, u167, u168, u169, u170, u171, u172, u173, u174, u175, u176, u177, u178, u179, u180, u181, u182, u183, u184, u185, u186, u187, u188, u189, u190, u191, u192, u193, u194, u195, u196, u197, u198, u199, u200, u201, u202, u203, u204, u205, u206, u207, u208, u209, u210, u211, u212, u213, u214, u215, u216, u217, u218, u219, u220, u221, u222, u223, u224, u225, u226, u227, u228, u229, u230, u231, u232, u233, u234, u235], []⟩ w := by
  rw [tl4_7]
  refine wp_seq_k (fun K hK => ?_)
  conv => arg 2; whnf
  by_cases h1 : k < 0
  · unfold QT
    go_wp2_with fail
    all_goals (go_ret; exact ⟨rfl, hb⟩)
  by_cases h2 : k ≤ (ss.length : Int)
  case neg =>
    have h3 : (ss.length : Int) < k := by omega
    unfold QT
    go_wp2_with fail
    all_goals (go_ret; exact ⟨rfl, hb⟩)
  obtain ⟨n, rfl⟩ := Int.eq_ofNat_of_zero_le (show 0 ≤ k by omega)
  go_wp2_with fail
  exact t8 _ _ _ _ _ _ _ _ _ _ _ _ _ _ _ _ _ _ _ _ _ _ _ _ _ _ _ _ _ _ _ _ _ _ _ _ _ _ _ _ _ _ _ _ _ _ _ _ _ _ _ _ _ _ _ _ _ _ _ _ _ _ _ _ _ _ _ _ _ _ _ _ _ _ _ _ _ _ _ _ _ _ _ _ _ _ _ _ _ _ _ _ _ _ _ _ _ _ _ _ _ _ _ _ _ _ _ _ _ _ _ _ _ _ _ _ _ _ _ _ _ _ _ _ _ _ _ _ _ _ _ _ _ _ _ _ _ _ _ _ _ _ _ _ _ _ _ _ _ _ _ _ _ _ _ _ _ _ _ _ _ _ _ _ _ _ _ _ _ _ _ _ _ _ _ _ _ _ _ _ _ _ _ _ _ _ _ _ _ _ _ _ _ _ _ _ _ _ _ _ _ _ _ _ _ _ _ _ _ _ _ _ _ _ _ _ _ _ _ _ _ _ _ _ _ _ _ _ _ _ _ _ _ _ _ _ _ _ _ _ _ _ hs hw hl hcp hc hz hb (by omega)

set_option maxRecDepth 100000 in
set_option maxHeartbeats 1000000 in
theorem t5 (o : Option Addr) (cp : Nat) (ss : List ByteArray) (o2 : Option Addr) (cp2 : Nat) (zs : List Int) (k : Int) (w w0 : World) (u3 u4 u5 u6 u7 u8 u9 u10 u11 u12 u13 u14 u15 u16 u17 u18 u19 u20 u21 u22 u23 u24 u25 u26 u27 u28 u29 u30 u31 u32 u33 u34 u35 u36 u37 u38 u39 u40 u41 u42 u43 u44 u45 u46 u47 u48 u49 u50 u51 u52 u53 u54 u55 u56 u57 u58 u59 u60 u61 u62 u63 u64 u65 u66 u67 u68 u69 u70 u71 u72 u73 u74 u75 u76 u77 u78 u79 u80 u81 u82 u83 u84 u85 u86 u87 u88 u89 u90 u91 u92 u93 u94 u95 u96 u97 u98 u99 u100 u101 u102 u103 u104 u105 u106 u107 u108 u109 u110 u111 u112 u113 u114 u115 u116 u117 u118 u119 u120 u121 u122 u123 u124 u125 u126 u127 u128 u129 u130 u131 u132 u133 u134 u135 u136 u137 u138 u139 u140 u141 u142 u143 u144 u145 u146 u147 u148 u149 u150 u151 u152 u153 u154 u155 u156 u157 u158 u159 u160 u161 u162 u163 u164 u165 u166 u167 u168 u169 u170 u171 u172 u173 u174 u175 u176 u177 u178 u179 u180 u181 u182 u183 u184 u185 u186 u187 u188 u189 u190 u191 u192 u193 u194 u195 u196 u197 u198 u199 u200 u201 u202 u203 u204 u205 u206 u207 u208 u209 u210 u211 u212 u213 u214 u215 u216 u217 u218 u219 u220 u221 u222 u223 u224 u225 u226 u227 u228 u229 u230 u231 u232 u233 u234 u235 : Value)
    (hs : Strs w o ss) (hw : ∀ i, (ss.getD i ByteArray.empty).size ≤ 1048576) (hl : ss.length ≤ 4096) (hcp : ss.length ≤ cp) (hc : IntsO w o2 zs) (hz : zs.length ≤ 65536) (hb : Below w0.heap.size w0 w) :
    Code.wp Try.prog (tl Try.f4 5) (QT Try.f4 w0.heap.size w0) ⟨#[.slice o ss.length cp, .slice o2 zs.length cp2, .int .i64 k, u3, u4, u5, u6, u7, u8, u9, u10, u11, u12, u13, u14, u15, u16, u17, u18, u19, u20, u21, u22, u23, u24, u25, u26, u27, u28, u29, u30, u31, u32, u33, u34, u35, u36, u37, u38, u39, u40, u41, u42, u43, u44, u45, u46, u47, u48, u49, u50, u51, u52, u53, u54, u55, u56, u57, u58, u59, u60, u61, u62, u63, u64, u65, u66, u67, u68, u69, u70, u71, u72, u73, u74, u75, u76, u77, u78, u79, u80, u81, u82, u83, u84, u85, u86, u87, u88, u89, u90, u91, u92, u93, u94, u95, u96, u97, u98, u99, u100, u101, u102, u103, u104, u105, u106, u107, u108, u109, u110, u111, u112, u113, u114, u115, u116, u117, u118, u119, u120, u121, u122, u123, u124, u125, u126, u127, u128, u129, u130, u131, u132, u133, u134, u135, u136, u137, u138, u139, u140, u141, u142, u143, u144, u145, u146, u147, u148, u149, u150, u151, u152, u153, u154, u155, u156, u157, u158, u159, u160, u161, u162, u163, u164, u165, u166, u167, u168, u169, u170, u171, u172, u173, u174, u175, u176, u177, u178, u179, u180, u181, u182, u183, u184, u185, u186, u187, u188, u189, u190, u191, u192, u193, u194, u195, u196, u197, u198, u199, u200, u201, u202, u203, u204, u205, u206, u207, u208, u209, u210, u211, u212, u213, u214, u215, u216, u217, u218, u219, u220, u221, u222, u223, u224, u225, u226, u227, u228, u229, u230, u231, u232, u233, u234, u235], []⟩ w := by
  rw [tl4_5]
  refine wp_seq_k (fun K hK => ?_)
  conv => arg 2; whnf
  go_wp2_with fail
  rw [tl4_6]
  refine wp_seq_k (fun K hK => ?_)
  conv => arg 2; whnf
  unfold QT
  go_wp2_with fail
  go_loop [9, 10] (fun z i => ∃ q m : Nat, q ≤ ss.length ∧ i = .int .i64 q ∧ m ≤ 1048576 ∧ z = .int .i64 m) (fun _ i => ss.length - (intOf i).toNat)
  case atStart => exact ⟨0, 8 * zs.length, Nat.zero_le _, rfl, by omega, by go_num⟩
  case round =>
    obtain ⟨q, m, hq, rfl, hm, rfl⟩ := hrel
    by_cases hlt : q < ss.length
    · obtain ⟨b, off, rfl, hcs⟩ := hs (ne_of_lt hlt)
      have hcq := hcs q hlt
      have hsz := hw q
      generalize ss.getD q ByteArray.empty = s at hcq hsz
      clear hs hw hcs hc
      go_wp2
      · go_ret
        exact ⟨rfl, hb⟩
      · go_round
        case rel => exact ⟨q + 1, m + (16 + s.size), by omega, by go_num, by omega, by go_num⟩
        case measure => simp [intOf]; omega
    · go_wp2_with fail
      exact t7 _ _ _ _ _ _ _ _ _ _ _ _ _ _ _ _ _ _ _ _ _ _ _ _ _ _ _ _ _ _ _ _ _ _ _ _ _ _ _ _ _ _ _ _ _ _ _ _ _ _ _ _ _ _ _ _ _ _ _ _ _ _ _ _ _ _ _ _ _ _ _ _ _ _ _ _ _ _ _ _ _ _ _ _ _ _ _ _ _ _ _ _ _ _ _ _ _ _ _ _ _ _ _ _ _ _ _ _ _ _ _ _ _ _ _ _ _ _ _ _ _ _ _ _ _ _ _ _ _ _ _ _ _ _ _ _ _ _ _ _ _ _ _ _ _ _ _ _ _ _ _ _ _ _ _ _ _ _ _ _ _ _ _ _ _ _ _ _ _ _ _ _ _ _ _ _ _ _ _ _ _ _ _ _ _ _ _ _ _ _ _ _ _ _ _ _ _ _ _ _ _ _ _ _ _ _ _ _ _ _ _ _ _ _ _ _ _ _ _ _ _ _ _ _ _ _ _ _ _ _ _ _ _ _ _ _ _ _ _ _ _ _ hs hw hl hcp hc hz hb

end Go.Proofs.Qxb6626221a
