/-
  Seat b6626221a: FnWantNumbersGranteesByFirstAppearanceAndKeepsItsOwnYears, statements 0 to 13. Frames written by program.
-/
import Derived.Test.Qxb6626221aM
namespace Go.Proofs.Qxb6626221a.N3
open Go.RowKit Go.Maps
set_option linter.unusedVariables false
attribute [local go_sem] eqNil23 neNil23 neNil22

set_option maxRecDepth 100000 in
set_option maxHeartbeats 1000000 in
theorem t13 (o : Option Addr) (cp : Nat) (ss : List ByteArray) (c : Option Addr) (cp2 : Nat) (zs : List Int) (b : Nat) (D : DataW Unit) (oy : Option Addr) (cpy bw : Nat) (gf : Nat) (w w0 : World) (u2 u3 u4 u5 u6 u7 u8 u9 u10 u15 u16 u17 u18 u19 u20 u21 u22 u23 u24 u25 u26 u27 u28 u29 u30 u31 u32 u33 u34 u35 u36 u37 u38 u39 u40 u41 u42 u43 u44 u45 u46 u47 u48 u49 u50 u51 u52 u53 u54 u55 u56 u57 u58 u59 u60 u61 u62 u63 u64 u65 u66 u67 u68 u69 u70 u71 u72 u73 u74 u75 u76 u77 u78 u79 u80 u81 u82 u83 u84 u85 u86 u87 u88 u89 u90 u91 u92 u93 u94 u95 u96 u97 u98 u99 u100 u101 u102 u103 u104 u105 u106 u107 u108 u109 u110 u111 u112 u113 u114 u115 u116 u117 u118 u119 u120 u121 u122 u123 u124 u125 u126 u127 u128 u129 u130 u131 u132 u133 u134 u135 u136 u137 u138 u139 u140 u141 u142 u143 u144 u145 u146 u147 u148 u149 u150 u151 u152 u153 u154 u155 u156 u157 u158 u159 u160 u161 u162 u163 u164 u165 u166 u167 u168 u169 u170 u171 u172 u173 u174 u175 u176 u177 u178 u179 u180 u181 u182 u183 u184 u185 u186 u187 u188 u189 u190 u191 u192 : Value)
    (hw : ∀ i, (ss.getD i ByteArray.empty).size ≤ 1048576) (hl : ss.length ≤ 4096) (hz : zs.length ≤ 65536) (hb : Below w0.heap.size w0 w) (hn : oy.isNone = c.isNone) (hF : First w w0.heap.size gf ss.length (keys ss) 0) (w1 : World) (hE1 : Env w1 o ss c zs b D oy cpy bw) (hb1 : Below w1.heap.size w1 w) (hg1 : w1.heap.size ≤ gf) (hb0 : Below w0.heap.size w0 w1) :
    Code.wp Try.prog (tl Try.f3 13) (QT Try.f3 w0.heap.size w0) ⟨#[.slice o ss.length cp, .slice c zs.length cp2, u2, u3, u4, u5, u6, u7, u8, u9, u10, .map (some b), .slice oy zs.length cpy, .int .i64 ss.length, .slice (some ⟨gf, 0, none⟩) ss.length ss.length, u15, u16, u17, u18, u19, u20, u21, u22, u23, u24, u25, u26, u27, u28, u29, u30, u31, u32, u33, u34, u35, u36, u37, u38, u39, u40, u41, u42, u43, u44, u45, u46, u47, u48, u49, u50, u51, u52, u53, u54, u55, u56, u57, u58, u59, u60, u61, u62, u63, u64, u65, u66, u67, u68, u69, u70, u71, u72, u73, u74, u75, u76, u77, u78, u79, u80, u81, u82, u83, u84, u85, u86, u87, u88, u89, u90, u91, u92, u93, u94, u95, u96, u97, u98, u99, u100, u101, u102, u103, u104, u105, u106, u107, u108, u109, u110, u111, u112, u113, u114, u115, u116, u117, u118, u119, u120, u121, u122, u123, u124, u125, u126, u127, u128, u129, u130, u131, u132, u133, u134, u135, u136, u137, u138, u139, u140, u141, u142, u143, u144, u145, u146, u147, u148, u149, u150, u151, u152, u153, u154, u155, u156, u157, u158, u159, u160, u161, u162, u163, u164, u165, u166, u167, u168, u169, u170, u171, u172, u173, u174, u175, u176, u177, u178, u179, u180, u181, u182, u183, u184, u185, u186, u187, u188, u189, u190, u191, u192], []⟩ w := by
  rw [tl3_13]
  refine wp_seq_k (fun K hK => ?_)
  conv => arg 2; whnf
  go_wp2_with fail
  go_loopw [15] (fun i wr => ∃ q : Nat, q ≤ ss.length ∧ i = .int .i64 q ∧ First wr w0.heap.size gf ss.length (keys ss) q ∧ Below w1.heap.size w1 wr) (fun i _ => ss.length - (intOf i).toNat)
  case atStart => exact ⟨0, Nat.zero_le _, rfl, hF, hb1⟩
  case round =>
    obtain ⟨q, hq, rfl, hFr, hbr⟩ := hrel
    clear hF hb1
    by_cases hlt : q < ss.length
    · have hEr := hE1.below hbr
      obtain ⟨x, off, rfl, hcs⟩ := hEr.strs.at hlt
      have HC : Hid _ := hcs
      clear hcs hEr
      have hlt' : (q : Int) < (ss.length : Int) := by omega
      have hkl : q < (keys ss).length := by rw [keys_len]; exact hlt
      go_upto_block 6 with fail
      go_cut [16] from 91 to 115 (fun s16 wc => ∃ j : Nat, s16 = .int .i64 j ∧ IsFst (keys ss) q j ∧ Below wr.heap.size wr wc)
      case first =>
        go_wp2_with fail
        go_loopw [16] (fun z wi => ∃ j : Nat, j ≤ q ∧ z = .int .i64 j ∧ (∀ t, t < j → (keys ss).getD t [] ≠ (keys ss).getD q []) ∧ Below wr.heap.size wr wi) (fun z _ => q - (intOf z).toNat)
        case atStart => exact ⟨0, Nat.zero_le _, rfl, fun t ht => by omega, Below.refl _ _⟩
        case round =>
          obtain ⟨j, hj, rfl, hno, hbi⟩ := hrel
          by_cases hjq : j < q
          · have e1 := cell_later hbi (HC.out j (by omega))
            have e2 := cell_later hbi (HC.out q hlt)
            have hjq' : (j : Int) < (q : Int) := by omega
            have hj2 : (j : Int) < (ss.length : Int) := by omega
            have hsb := str_beq (ss.getD j ByteArray.empty) (ss.getD q ByteArray.empty)
            rw [← keys_getD ss j (by omega), ← keys_getD ss q hlt] at hsb
            by_cases heq : (keys ss).getD j [] = (keys ss).getD q []
            · rw [heq] at hsb
              simp only [beq_self_eq_true] at hsb
              have HI : Hid (IsFst (keys ss) q j) := ⟨hj, heq, hno⟩
              generalize ss.getD j ByteArray.empty = s1 at e1 hsb
              generalize ss.getD q ByteArray.empty = s2 at e2 hsb
              have hsn : (s1.toList != s2.toList) = false := by rw [bne, hsb]; rfl
              clear hno heq
              go_wp2_with fail
              go_quiet (fail)
              go_wp2_with fail
              go_meet
              case rel => exact ⟨j, rfl, HI.out, below_drewN hbi _⟩
            · have hsf : ((keys ss).getD j [] == (keys ss).getD q []) = false := by simpa using heq
              rw [hsf] at hsb
              have HNO : Hid (∀ t, t < j + 1 → (keys ss).getD t [] ≠ (keys ss).getD q []) := by
                intro t ht
                by_cases e : t = j
                · subst e; exact heq
                · exact hno t (by omega)
              generalize ss.getD j ByteArray.empty = s1 at e1 hsb
              generalize ss.getD q ByteArray.empty = s2 at e2 hsb
              have hsn : (s1.toList != s2.toList) = true := by rw [bne, hsb]; rfl
              clear hno hsf heq
              go_wp2_with fail
              go_quiet (fail)
              go_wp2_with fail
              go_roundw
              case rel => exact ⟨j + 1, by omega, by go_num, HNO.out, below_drewN hbi _⟩
              case measure => simp [intOf]; omega
          · obtain rfl : j = q := by omega
            have HI : Hid (IsFst (keys ss) j j) := ⟨Nat.le_refl _, rfl, hno⟩
            have hdd : decide ((j : Int) < (j : Int)) = false := by simp
            clear hno
            go_wp2_with fail
            go_quiet (fail)
            go_wp2_with fail
            go_meet
            case rel => exact ⟨j, rfl, HI.out, below_drewN hbi _⟩
      case rest =>
        obtain ⟨j, rfl, hI, hbc⟩ := hcut
        obtain ⟨⟨x0, ex⟩, fx, hFs⟩ := (hFr.below hbc).set hlt hI
        have hbs : Below w1.heap.size w1 (wc.setCell ⟨gf, q, none⟩ (.int .i64 j)) := (hbr.trans (hbc.mono hbr.size)).setCell hg1 _
        have HFs : Hid _ := hFs
        have HBs : Hid _ := hbs
        clear hFs hbs hI hbc hFr hbr hE1
        go_wp2_with fail
        go_roundw
        case rel => exact ⟨q + 1, by omega, by go_num, HFs.out, HBs.out⟩
        case measure => simp [intOf]; omega
    · obtain rfl : q = ss.length := by omega
      have hb2 := hb0.trans (hbr.mono hb0.size)
      go_wp2_with fail
      exact t14 _ _ _ _ _ _ _ _ _ _ _ _ _ _ _ _ _ _ _ _ _ _ _ _ _ _ _ _ _ _ _ _ _ _ _ _ _ _ _ _ _ _ _ _ _ _ _ _ _ _ _ _ _ _ _ _ _ _ _ _ _ _ _ _ _ _ _ _ _ _ _ _ _ _ _ _ _ _ _ _ _ _ _ _ _ _ _ _ _ _ _ _ _ _ _ _ _ _ _ _ _ _ _ _ _ _ _ _ _ _ _ _ _ _ _ _ _ _ _ _ _ _ _ _ _ _ _ _ _ _ _ _ _ _ _ _ _ _ _ _ _ _ _ _ _ _ _ _ _ _ _ _ _ _ _ _ _ _ _ _ _ _ _ _ _ _ _ _ _ _ _ _ _ _ _ _ _ _ _ _ _ _ _ _ _ _ _ _ _ _ _ _ _ _ _ _ _ _ _ _ _ (hE1.below hbr) hn hw hl hz hb2 hFr

set_option maxRecDepth 100000 in
set_option maxHeartbeats 1000000 in
theorem t11 (o : Option Addr) (cp : Nat) (ss : List ByteArray) (c : Option Addr) (cp2 : Nat) (zs : List Int) (b : Nat) (D : DataW Unit) (oy : Option Addr) (cpy bw : Nat) (w w0 : World) (u2 u3 u4 u5 u6 u7 u8 u9 u10 u13 u14 u15 u16 u17 u18 u19 u20 u21 u22 u23 u24 u25 u26 u27 u28 u29 u30 u31 u32 u33 u34 u35 u36 u37 u38 u39 u40 u41 u42 u43 u44 u45 u46 u47 u48 u49 u50 u51 u52 u53 u54 u55 u56 u57 u58 u59 u60 u61 u62 u63 u64 u65 u66 u67 u68 u69 u70 u71 u72 u73 u74 u75 u76 u77 u78 u79 u80 u81 u82 u83 u84 u85 u86 u87 u88 u89 u90 u91 u92 u93 u94 u95 u96 u97 u98 u99 u100 u101 u102 u103 u104 u105 u106 u107 u108 u109 u110 u111 u112 u113 u114 u115 u116 u117 u118 u119 u120 u121 u122 u123 u124 u125 u126 u127 u128 u129 u130 u131 u132 u133 u134 u135 u136 u137 u138 u139 u140 u141 u142 u143 u144 u145 u146 u147 u148 u149 u150 u151 u152 u153 u154 u155 u156 u157 u158 u159 u160 u161 u162 u163 u164 u165 u166 u167 u168 u169 u170 u171 u172 u173 u174 u175 u176 u177 u178 u179 u180 u181 u182 u183 u184 u185 u186 u187 u188 u189 u190 u191 u192 : Value)
    (hE : Env w o ss c zs b D oy cpy bw) (hn : oy.isNone = c.isNone) (hw : ∀ i, (ss.getD i ByteArray.empty).size ≤ 1048576) (hl : ss.length ≤ 4096) (hz : zs.length ≤ 65536) (hb : Below w0.heap.size w0 w) :
    Code.wp Try.prog (tl Try.f3 11) (QT Try.f3 w0.heap.size w0) ⟨#[.slice o ss.length cp, .slice c zs.length cp2, u2, u3, u4, u5, u6, u7, u8, u9, u10, .map (some b), .slice oy zs.length cpy, u13, u14, u15, u16, u17, u18, u19, u20, u21, u22, u23, u24, u25, u26, u27, u28, u29, u30, u31, u32, u33, u34, u35, u36, u37, u38, u39, u40, u41, u42, u43, u44, u45, u46, u47, u48, u49, u50, u51, u52, u53, u54, u55, u56, u57, u58, u59, u60, u61, u62, u63, u64, u65, u66, u67, u68, u69, u70, u71, u72, u73, u74, u75, u76, u77, u78, u79, u80, u81, u82, u83, u84, u85, u86, u87, u88, u89, u90, u91, u92, u93, u94, u95, u96, u97, u98, u99, u100, u101, u102, u103, u104, u105, u106, u107, u108, u109, u110, u111, u112, u113, u114, u115, u116, u117, u118, u119, u120, u121, u122, u123, u124, u125, u126, u127, u128, u129, u130, u131, u132, u133, u134, u135, u136, u137, u138, u139, u140, u141, u142, u143, u144, u145, u146, u147, u148, u149, u150, u151, u152, u153, u154, u155, u156, u157, u158, u159, u160, u161, u162, u163, u164, u165, u166, u167, u168, u169, u170, u171, u172, u173, u174, u175, u176, u177, u178, u179, u180, u181, u182, u183, u184, u185, u186, u187, u188, u189, u190, u191, u192], []⟩ w := by
  obtain ⟨i0, hi, hz0, hz1, hz2⟩ := info_parts Try.info3
  rw [tl3_11]
  refine wp_seq_k (fun K hK => ?_)
  conv => arg 2; whnf
  go_wp2_with fail
  rw [tl3_12]
  refine wp_seq_k (fun K hK => ?_)
  conv => arg 2; whnf
  go_wp2_with (at_make; go_must (refine wpList_make_full _ rfl _ _ 23 rfl w.heap.size 3 i0 (.int .i64 0) 1 Try.underlying23 hi hz0 hz1 .i64 .i64 _ _ ss.length rfl rfl rfl rfl (by rw [hz2]; omega) (by unfold maxLen; omega) (Nat.le_refl _) ?_; intro w1 hown1 hgrow1))
  have hb1 : Below w.heap.size w w1 := (Below.refl _ _).grown hgrow1 (Nat.le_refl _) (fun j hj => by cases hj)
  have hF : First w1 w0.heap.size w.heap.size ss.length (keys ss) 0 := ⟨_, row_mono hb.size hown1, fun t ht => by omega⟩
  clear hown1 hgrow1 hi hz0 hz1 hz2
  exact t13 _ _ _ _ _ _ _ _ _ _ _ _ _ _ _ _ _ _ _ _ _ _ _ _ _ _ _ _ _ _ _ _ _ _ _ _ _ _ _ _ _ _ _ _ _ _ _ _ _ _ _ _ _ _ _ _ _ _ _ _ _ _ _ _ _ _ _ _ _ _ _ _ _ _ _ _ _ _ _ _ _ _ _ _ _ _ _ _ _ _ _ _ _ _ _ _ _ _ _ _ _ _ _ _ _ _ _ _ _ _ _ _ _ _ _ _ _ _ _ _ _ _ _ _ _ _ _ _ _ _ _ _ _ _ _ _ _ _ _ _ _ _ _ _ _ _ _ _ _ _ _ _ _ _ _ _ _ _ _ _ _ _ _ _ _ _ _ _ _ _ _ _ _ _ _ _ _ _ _ _ _ _ _ _ _ _ _ _ _ _ _ _ _ _ _ _ _ _ _ _ _ hw hl hz (hb.trans (hb1.mono hb.size)) hn hF w hE hb1 (Nat.le_refl _) hb

set_option maxRecDepth 100000 in
set_option maxHeartbeats 1000000 in
theorem t9 (o : Option Addr) (cp : Nat) (ss : List ByteArray) (c : Option Addr) (cp2 : Nat) (zs : List Int) (b : Nat) (D : DataW Unit) (oy : Option Addr) (cpy bw : Nat) (w w0 : World) (u2 u3 u4 u5 u6 u7 u8 u10 u11 u12 u13 u14 u15 u16 u17 u18 u19 u20 u21 u22 u23 u24 u25 u26 u27 u28 u29 u30 u31 u32 u33 u34 u35 u36 u37 u38 u39 u40 u41 u42 u43 u44 u45 u46 u47 u48 u49 u50 u51 u52 u53 u54 u55 u56 u57 u58 u59 u60 u61 u62 u63 u64 u65 u66 u67 u68 u69 u70 u71 u72 u73 u74 u75 u76 u77 u78 u79 u80 u81 u82 u83 u84 u85 u86 u87 u88 u89 u90 u91 u92 u93 u94 u95 u96 u97 u98 u99 u100 u101 u102 u103 u104 u105 u106 u107 u108 u109 u110 u111 u112 u113 u114 u115 u116 u117 u118 u119 u120 u121 u122 u123 u124 u125 u126 u127 u128 u129 u130 u131 u132 u133 u134 u135 u136 u137 u138 u139 u140 u141 u142 u143 u144 u145 u146 u147 u148 u149 u150 u151 u152 u153 u154 u155 u156 u157 u158 u159 u160 u161 u162 u163 u164 u165 u166 u167 u168 u169 u170 u171 u172 u173 u174 u175 u176 u177 u178 u179 u180 u181 u182 u183 u184 u185 u186 u187 u188 u189 u190 u191 u192 : Value)
    (hE : Env w o ss c zs b D oy cpy bw) (hn : oy.isNone = c.isNone) (hw : ∀ i, (ss.getD i ByteArray.empty).size ≤ 1048576) (hl : ss.length ≤ 4096) (hz : zs.length ≤ 65536) (hb : Below w0.heap.size w0 w) :
    Code.wp Try.prog (tl Try.f3 9) (QT Try.f3 w0.heap.size w0) ⟨#[.slice o ss.length cp, .slice c zs.length cp2, u2, u3, u4, u5, u6, u7, u8, .pointer (some ⟨bw, 0, none⟩), u10, u11, u12, u13, u14, u15, u16, u17, u18, u19, u20, u21, u22, u23, u24, u25, u26, u27, u28, u29, u30, u31, u32, u33, u34, u35, u36, u37, u38, u39, u40, u41, u42, u43, u44, u45, u46, u47, u48, u49, u50, u51, u52, u53, u54, u55, u56, u57, u58, u59, u60, u61, u62, u63, u64, u65, u66, u67, u68, u69, u70, u71, u72, u73, u74, u75, u76, u77, u78, u79, u80, u81, u82, u83, u84, u85, u86, u87, u88, u89, u90, u91, u92, u93, u94, u95, u96, u97, u98, u99, u100, u101, u102, u103, u104, u105, u106, u107, u108, u109, u110, u111, u112, u113, u114, u115, u116, u117, u118, u119, u120, u121, u122, u123, u124, u125, u126, u127, u128, u129, u130, u131, u132, u133, u134, u135, u136, u137, u138, u139, u140, u141, u142, u143, u144, u145, u146, u147, u148, u149, u150, u151, u152, u153, u154, u155, u156, u157, u158, u159, u160, u161, u162, u163, u164, u165, u166, u167, u168, u169, u170, u171, u172, u173, u174, u175, u176, u177, u178, u179, u180, u181, u182, u183, u184, u185, u186, u187, u188, u189, u190, u191, u192], []⟩ w := by
  rw [tl3_9]
  refine wp_seq_k (fun K hK => ?_)
  conv => arg 2; whnf
  have d1 := hE.c1
  have d2 := hE.c2
  go_wp2_with (go_at_call 8; go_must (refine (gr_any _ _ _ _ _).mono ?_; rintro e w1 ⟨rfl, hb1⟩))
  have hE1 := hE.below hb1
  have hbb := hb.trans (hb1.mono hb.size)
  clear hE hb hb1 d1 d2
  rw [tl3_10]
  refine wp_seq_k (fun K hK => ?_)
  conv => arg 2; whnf
  have d1 := hE1.c1
  have d2 := hE1.c2
  go_wp2_with (go_at_call 9; go_must (refine (ye_any _ _ _ _ _).mono ?_; rintro e w2 ⟨rfl, hb2⟩))
  exact t11 _ _ _ _ _ _ _ _ _ _ _ _ _ _ _ _ _ _ _ _ _ _ _ _ _ _ _ _ _ _ _ _ _ _ _ _ _ _ _ _ _ _ _ _ _ _ _ _ _ _ _ _ _ _ _ _ _ _ _ _ _ _ _ _ _ _ _ _ _ _ _ _ _ _ _ _ _ _ _ _ _ _ _ _ _ _ _ _ _ _ _ _ _ _ _ _ _ _ _ _ _ _ _ _ _ _ _ _ _ _ _ _ _ _ _ _ _ _ _ _ _ _ _ _ _ _ _ _ _ _ _ _ _ _ _ _ _ _ _ _ _ _ _ _ _ _ _ _ _ _ _ _ _ _ _ _ _ _ _ _ _ _ _ _ _ _ _ _ _ _ _ _ _ _ _ _ _ _ _ _ _ _ _ _ _ _ _ _ _ _ _ _ _ _ _ _ _ _ _ _ _ _ (hE1.below hb2) hn hw hl hz (hbb.trans (hb2.mono hbb.size))

set_option maxRecDepth 100000 in
set_option maxHeartbeats 1000000 in
theorem t8 (o : Option Addr) (cp : Nat) (ss : List ByteArray) (c : Option Addr) (cp2 : Nat) (zs : List Int) (b : Nat) (D : DataW Unit) (oy : Option Addr) (cpy bw : Nat) (ov : Option Addr) (cpv : Nat) (w w0 : World) (u2 u3 u4 u5 u6 u7 u10 u11 u12 u13 u14 u15 u16 u17 u18 u19 u20 u21 u22 u23 u24 u25 u26 u27 u28 u29 u30 u31 u32 u33 u34 u35 u36 u37 u38 u39 u40 u41 u42 u43 u44 u45 u46 u47 u48 u49 u50 u51 u52 u53 u54 u55 u56 u57 u58 u59 u60 u61 u62 u63 u64 u65 u66 u67 u68 u69 u70 u71 u72 u73 u74 u75 u76 u77 u78 u79 u80 u81 u82 u83 u84 u85 u86 u87 u88 u89 u90 u91 u92 u93 u94 u95 u96 u97 u98 u99 u100 u101 u102 u103 u104 u105 u106 u107 u108 u109 u110 u111 u112 u113 u114 u115 u116 u117 u118 u119 u120 u121 u122 u123 u124 u125 u126 u127 u128 u129 u130 u131 u132 u133 u134 u135 u136 u137 u138 u139 u140 u141 u142 u143 u144 u145 u146 u147 u148 u149 u150 u151 u152 u153 u154 u155 u156 u157 u158 u159 u160 u161 u162 u163 u164 u165 u166 u167 u168 u169 u170 u171 u172 u173 u174 u175 u176 u177 u178 u179 u180 u181 u182 u183 u184 u185 u186 u187 u188 u189 u190 u191 u192 : Value)
    (hE : Env w o ss c zs b D oy cpy bw) (hn : oy.isNone = c.isNone) (hw : ∀ i, (ss.getD i ByteArray.empty).size ≤ 1048576) (hl : ss.length ≤ 4096) (hz : zs.length ≤ 65536) (hb : Below w0.heap.size w0 w) (vs : List Int) (hV : w.ownsRow w0.heap.size 3 1 (.slice ov zs.length cpv) zs.length (vs.map (Value.int .i64))) (hO : ∀ g, ov = some ⟨g, 0, none⟩ → Off g o ss c zs b oy bw) :
    Code.wp Try.prog (tl Try.f3 8) (QT Try.f3 w0.heap.size w0) ⟨#[.slice o ss.length cp, .slice c zs.length cp2, u2, u3, u4, u5, u6, u7, .slice ov zs.length cpv, .pointer (some ⟨bw, 0, none⟩), u10, u11, u12, u13, u14, u15, u16, u17, u18, u19, u20, u21, u22, u23, u24, u25, u26, u27, u28, u29, u30, u31, u32, u33, u34, u35, u36, u37, u38, u39, u40, u41, u42, u43, u44, u45, u46, u47, u48, u49, u50, u51, u52, u53, u54, u55, u56, u57, u58, u59, u60, u61, u62, u63, u64, u65, u66, u67, u68, u69, u70, u71, u72, u73, u74, u75, u76, u77, u78, u79, u80, u81, u82, u83, u84, u85, u86, u87, u88, u89, u90, u91, u92, u93, u94, u95, u96, u97, u98, u99, u100, u101, u102, u103, u104, u105, u106, u107, u108, u109, u110, u111, u112, u113, u114, u115, u116, u117, u118, u119, u120, u121, u122, u123, u124, u125, u126, u127, u128, u129, u130, u131, u132, u133, u134, u135, u136, u137, u138, u139, u140, u141, u142, u143, u144, u145, u146, u147, u148, u149, u150, u151, u152, u153, u154, u155, u156, u157, u158, u159, u160, u161, u162, u163, u164, u165, u166, u167, u168, u169, u170, u171, u172, u173, u174, u175, u176, u177, u178, u179, u180, u181, u182, u183, u184, u185, u186, u187, u188, u189, u190, u191, u192], []⟩ w := by
  rw [tl3_8]
  refine wp_seq_k (fun K hK => ?_)
  conv => arg 2; whnf
  go_wp2_with fail
  go_loopw [10] (fun i wr => ∃ (q : Nat) (vs : List Int), q ≤ zs.length ∧ i = .int .i64 q ∧ wr.ownsRow w0.heap.size 3 1 (.slice ov zs.length cpv) zs.length (vs.map (Value.int .i64)) ∧ Env wr o ss c zs b D oy cpy bw ∧ Below w0.heap.size w0 wr) (fun i _ => zs.length - (intOf i).toNat)
  case atStart => exact ⟨0, vs, Nat.zero_le _, rfl, hV, hE, hb⟩
  case round =>
    obtain ⟨q, us, hq, rfl, hVr, hEr, hbr⟩ := hrel
    clear hV hE hb
    have hul : us.length = zs.length := by have := hVr.1; simpa using this
    by_cases hlt : q < zs.length
    · have hov : ∃ g, ov = some ⟨g, 0, none⟩ ∧ w0.heap.size ≤ g := by
        cases ov with
        | none =>
          rcases hVr.2 with ⟨h', h''⟩ | ⟨g, cap, cur, h', _⟩
          · omega
          · simp at h'
        | some ad =>
          obtain ⟨g, e, hg, _⟩ := row_at hVr ad rfl
          exact ⟨g, by rw [e], hg⟩
      obtain ⟨g, rfl, hg⟩ := hov
      have ec : wr.cell? ⟨g, q, none⟩ = some (.int .i64 (us.getD q 0)) := by
        rw [hVr.cellAt q (by omega)]; simp [show q < us.length by omega]
      have ef := hVr.frozenAt q
      have hst : ∀ u : Int, (wr.setCell ⟨g, q, none⟩ (.int .i64 u)).ownsRow w0.heap.size 3 1 (.slice (some ⟨g, 0, none⟩) zs.length cpv) zs.length ((us.set q u).map (Value.int .i64)) := fun u => by
        rw [List.map_set]; exact (hVr.stored q _).1
      have hEs : ∀ u : Int, Env (wr.setCell ⟨g, q, none⟩ (.int .i64 u)) o ss c zs b D oy cpy bw := fun u => hEr.setCell (hO g rfl) _
      have hbs : ∀ u : Int, Below w0.heap.size w0 (wr.setCell ⟨g, q, none⟩ (.int .i64 u)) := fun u => hbr.setCell hg _
      have H1 : Hid _ := hst
      have H2 : Hid _ := hEs
      have H3 : Hid _ := hbs
      have hlt' : (q : Int) < (zs.length : Int) := by omega
      generalize us.getD q 0 = v at ec
      clear hst hEs hbs hVr hEr hbr hO
      go_wp2_with fail
      go_roundw
      case rel => exact ⟨q + 1, _, by omega, by go_num, H1.out _, H2.out _, H3.out _⟩
      case measure => simp [intOf]; omega
    · go_wp2_with fail
      exact t9 _ _ _ _ _ _ _ _ _ _ _ _ _ _ _ _ _ _ _ _ _ _ _ _ _ _ _ _ _ _ _ _ _ _ _ _ _ _ _ _ _ _ _ _ _ _ _ _ _ _ _ _ _ _ _ _ _ _ _ _ _ _ _ _ _ _ _ _ _ _ _ _ _ _ _ _ _ _ _ _ _ _ _ _ _ _ _ _ _ _ _ _ _ _ _ _ _ _ _ _ _ _ _ _ _ _ _ _ _ _ _ _ _ _ _ _ _ _ _ _ _ _ _ _ _ _ _ _ _ _ _ _ _ _ _ _ _ _ _ _ _ _ _ _ _ _ _ _ _ _ _ _ _ _ _ _ _ _ _ _ _ _ _ _ _ _ _ _ _ _ _ _ _ _ _ _ _ _ _ _ _ _ _ _ _ _ _ _ _ _ _ _ _ _ _ _ _ _ _ _ _ _ _ hEr hn hw hl hz hbr

end Go.Proofs.Qxb6626221a.N3
