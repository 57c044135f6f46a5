/-
  Seat b6626221a: FnWantKeepsPrefixNumbersWhenMoreGranteesFollow, statements 12 to 14. Frames written by program.
-/
import Derived.Test.Qxb6626221aE
namespace Go.Proofs.Qxb6626221a
open Go.RowKit Go.Maps
open Go.WideMaps (keyOf_string_mk)
set_option linter.unusedVariables false
attribute [local go_sem] eqNil23 neNil23 neNil22


set_option maxRecDepth 100000 in
set_option maxHeartbeats 1000000 in
theorem t14 (o : Option Addr) (cp : Nat) (ss : List ByteArray) (o2 : Option Addr) (cp2 : Nat) (zs : List Int) (k b1 : Nat) (D1 : DataW Unit) (b2 : Nat) (D2 : DataW Unit) (oa ob : Option Addr) (cpa cpb ba bb : Nat) (w w0 : World) (u3 u4 u5 u6 u7 u8 u9 u10 u15 u16 u17 u18 u19 u21 u22 u23 u24 u25 u26 u27 u28 u29 u30 u31 u32 u33 u34 u35 u36 u37 u38 u39 u40 u41 u42 u43 u44 u45 u46 u47 u48 u49 u50 u51 u52 u53 u54 u55 u56 u57 u58 u59 u60 u61 u62 u63 u64 u65 u66 u67 u68 u69 u70 u71 u72 u73 u74 u75 u76 u77 u78 u79 u80 u81 u82 u83 u84 u85 u86 u87 u88 u89 u90 u91 u92 u93 u94 u95 u96 u97 u98 u99 u100 u101 u102 u103 u104 u105 u106 u107 u108 u109 u110 u111 u112 u113 u114 u115 u116 u117 u118 u119 u120 u121 u122 u123 u124 u125 u126 u127 u128 u129 u130 u131 u132 u133 u134 u135 u136 u137 u138 u139 u140 u141 u142 u143 u144 u145 u146 u147 u148 u149 u150 u151 u152 u153 u154 u155 u156 u157 u158 u159 u160 u161 u162 u163 u164 u165 u166 u167 u168 u169 u170 u171 u172 u173 u174 u175 u176 u177 u178 u179 u180 u181 u182 u183 u184 u185 u186 u187 u188 u189 u190 u191 u192 u193 u194 u195 u196 u197 u198 u199 u200 u201 u202 u203 u204 u205 u206 u207 u208 u209 u210 u211 u212 u213 u214 u215 u216 u217 u218 u219 u220 u221 u222 u223 u224 u225 u226 u227 u228 u229 u230 u231 u232 u233 u234 u235 : Value)
    (hE : Env w o ss o2 zs k b1 D1 b2 D2 oa ob cpa cpb ba bb) (hw : ∀ i, (ss.getD i ByteArray.empty).size ≤ 1048576) (hl : ss.length ≤ 4096) (hz : zs.length ≤ 65536) (hk : k ≤ ss.length) (hb : Below w0.heap.size w0 w) :
    Code.wp Try.prog (tl Try.f4 14) (QT Try.f4 w0.heap.size w0) ⟨#[.slice o ss.length cp, .slice o2 zs.length cp2, .int .i64 k, u3, u4, u5, u6, u7, u8, u9, u10, .pointer (some ⟨ba, 0, none⟩), .pointer (some ⟨bb, 0, none⟩), .map (some b1), .map (some b2), u15, u16, u17, u18, u19, .int .i64 0, u21, u22, u23, u24, u25, u26, u27, u28, u29, u30, u31, u32, u33, u34, u35, u36, u37, u38, u39, u40, u41, u42, u43, u44, u45, u46, u47, u48, u49, u50, u51, u52, u53, u54, u55, u56, u57, u58, u59, u60, u61, u62, u63, u64, u65, u66, u67, u68, u69, u70, u71, u72, u73, u74, u75, u76, u77, u78, u79, u80, u81, u82, u83, u84, u85, u86, u87, u88, u89, u90, u91, u92, u93, u94, u95, u96, u97, u98, u99, u100, u101, u102, u103, u104, u105, u106, u107, u108, u109, u110, u111, u112, u113, u114, u115, u116, u117, u118, u119, u120, u121, u122, u123, u124, u125, u126, u127, u128, u129, u130, u131, u132, u133, u134, u135, u136, u137, u138, u139, u140, u141, u142, u143, u144, u145, u146, u147, u148, u149, u150, u151, u152, u153, u154, u155, u156, u157, u158, u159, u160, u161, u162, u163, u164, u165, u166, u167, u168, u169, u170, u171, u172, u173, u174, u175, u176, u177, u178, u179, u180, u181, u182, u183, u184, u185, u186, u187, u188, u189, u190, u191, u192, u193, u194, u195, u196, u197, u198, u199, u200, u201, u202, u203, u204, u205, u206, u207, u208, u209, u210, u211, u212, u213, u214, u215, u216, u217, u218, u219, u220, u221, u222, u223, u224, u225, u226, u227, u228, u229, u230, u231, u232, u233, u234, u235], []⟩ w := by
  rw [tl4_14]
  refine wp_seq_k (fun K hK => ?_)
  conv => arg 2; whnf
  go_wp2_with fail
  go_loopw [20, 21] (fun z i wr => ∃ q fr : Nat, k ≤ q ∧ q ≤ ss.length ∧ i = .int .i64 q ∧ z = .int .i64 fr ∧ fr + (Pl.dst ((keys ss).take k)).length = (Pl.dst ((keys ss).take q)).length ∧ Below w.heap.size w wr) (fun _ i _ => ss.length - (intOf i).toNat)
  case atStart => exact ⟨k, 0, Nat.le_refl _, hk, rfl, rfl, by omega, Below.refl _ _⟩
  case round =>
    obtain ⟨q, fr, hkq, hq, rfl, rfl, hfr, hbr⟩ := hrel
    have hEr := hE.below hbr
    have hbw := hb.trans (hbr.mono hb.size)
    clear hE hb
    by_cases hlt : q < ss.length
    · obtain ⟨x, off, rfl, hcs⟩ := hEr.strs.at hlt
      have HC : Hid _ := hcs
      clear hcs
      have hlt' : (q : Int) < (ss.length : Int) := by omega
      go_upto_block 6 with fail
      go_cut [22, 23] from 136 to 186 (fun s22 s23 wc => s22 = .bool (decide ((keys ss).getD q [] ∈ (keys ss).take q)) ∧ Below wr.heap.size wr wc)
      case first =>
        go_wp2_with fail
        go_loopw [22, 23] (fun z i wi => ∃ j : Nat, j ≤ q ∧ i = .int .i64 j ∧ z = .bool false ∧ (∀ t, t < j → (keys ss).getD t [] ≠ (keys ss).getD q []) ∧ Below wr.heap.size wr wi) (fun _ i _ => q - (intOf i).toNat)
        case atStart => exact ⟨0, Nat.zero_le _, rfl, rfl, fun t ht => by omega, Below.refl _ _⟩
        case round =>
          obtain ⟨j, hj, rfl, rfl, hno, hbi⟩ := hrel
          by_cases hjq : j < q
          · have e1 := cell_later hbi (HC.out j (by omega))
            have e2 := cell_later hbi (HC.out q hlt)
            have hjq' : (j : Int) < (q : Int) := by omega
            have hj2 : (j : Int) < (ss.length : Int) := by omega
            have hsb := str_beq (ss.getD j ByteArray.empty) (ss.getD q ByteArray.empty)
            rw [← keys_getD ss j (by omega), ← keys_getD ss q hlt] at hsb
            have hkl : q < (keys ss).length := by rw [keys_len]; exact hlt
            by_cases heq : (keys ss).getD j [] = (keys ss).getD q []
            · have hin : decide ((keys ss).getD q [] ∈ (keys ss).take q) = true := by rw [← heq]; exact decide_eq_true (Pl.mem_take hjq (by omega))
              rw [heq] at hsb
              simp only [beq_self_eq_true] at hsb
              have HIN : Hid _ := hin
              generalize ss.getD j ByteArray.empty = s1 at e1 hsb
              generalize ss.getD q ByteArray.empty = s2 at e2 hsb
              clear hno hin heq hkl
              go_wp2_with fail
              go_quiet (fail)
              go_wp2_with fail
              go_meet
              case rel => exact ⟨by rw [HIN.out], below_drewN hbi _⟩
            · have hsf : ((keys ss).getD j [] == (keys ss).getD q []) = false := by simpa using heq
              rw [hsf] at hsb
              have HNO : Hid (∀ t, t < j + 1 → (keys ss).getD t [] ≠ (keys ss).getD q []) := by
                intro t ht
                by_cases e : t = j
                · subst e; exact heq
                · exact hno t (by omega)
              generalize ss.getD j ByteArray.empty = s1 at e1 hsb
              generalize ss.getD q ByteArray.empty = s2 at e2 hsb
              clear hno hsf heq hkl
              go_wp2_with fail
              go_quiet (fail)
              go_wp2_with fail
              go_roundw
              case rel => exact ⟨j + 1, by omega, by go_num, rfl, HNO.out, below_drewN hbi _⟩
              case measure => simp [intOf]; omega
          · have hout : decide ((keys ss).getD q [] ∈ (keys ss).take q) = false := decide_eq_false (Pl.not_mem_take (fun t ht _ => hno t (by omega)))
            have HOUT : Hid _ := hout
            clear hno hout
            go_wp2_with fail
            go_meet
            case rel => exact ⟨by rw [HOUT.out], hbi⟩
      case rest =>
        obtain ⟨rfl, hbc⟩ := hcut
        have hEc := hEr.below hbc
        have hbx := hbr.trans (hbc.mono hbr.size)
        have hby := hbw.trans (hbc.mono hbw.size)
        have e2 := cell_later hbc (HC.out q hlt)
        have hkey := key_at hlt hw
        have hkl : q < (keys ss).length := by rw [keys_len]; exact hlt
        have hin2 : (keys ss).getD q [] ∈ Pl.dst (keys ss) := (Pl.mem_dst _ _).2 (List.mem_of_mem_take (i := q + 1) (Pl.mem_take (Nat.lt_succ_self q) hkl))
        obtain ⟨M, hM⟩ : ∃ M, (Pl.dst (keys ss)).idxOf ((keys ss).getD q []) = M := ⟨_, rfl⟩
        have HM : Hid _ := hM
        have HIN2 : Hid _ := hin2
        have m2 := hEc.m2
        have n2 := hEc.n2
        by_cases hseen : (keys ss).getD q [] ∈ (keys ss).take q
        · have HD : Hid _ := Pl.dst_take_old (keys ss) q hkl ((Pl.mem_dst _ _).2 hseen)
          rw [decide_eq_true hseen]
          have HF : Hid _ := hfr
          generalize hg : ss.getD q ByteArray.empty = g at e2 hkey
          clear hg hM hin2 hfr hseen hEr hbw hbr
          go_wp2_with (first | (at_lookup; refine wpList_lookup_in rfl (.tmp 157) (.tmp 161) rfl b2 _ D2 _ ((keys ss).getD q []) M rfl m2 n2 _ rfl hkey HIN2.out HM.out ?_))
          go_roundw
          case rel => exact ⟨q + 1, fr, by omega, by omega, by go_num, rfl, by rw [HD.out]; exact HF.out, hbx⟩
          case measure => simp [intOf]; omega
        · have hns : (keys ss).getD q [] ∉ Pl.dst ((keys ss).take q) := fun h => hseen ((Pl.mem_dst _ _).1 h)
          have hnk : (keys ss).getD q [] ∉ Pl.dst ((keys ss).take k) := fun h => hseen (by
            have h1 := (Pl.mem_dst _ _).1 h
            rw [show (keys ss).take k = ((keys ss).take q).take k from by rw [List.take_take]; congr 1; omega] at h1
            exact List.mem_of_mem_take h1)
          have HD : Hid _ := Pl.dst_take_new (keys ss) q hkl hns
          have hMq : M = (Pl.dst ((keys ss).take q)).length := by rw [← hM]; exact Pl.idx_new (keys ss) q hkl hseen
          obtain ⟨L, hL⟩ : ∃ L, (Pl.dst ((keys ss).take k)).length = L := ⟨_, rfl⟩
          have HL : Hid _ := hL
          have lq := Pl.dst_len_le ((keys ss).take q)
          rw [List.length_take, keys_len] at lq
          have hvl : ((M : Int) != (L : Int) + (fr : Int)) = false := by simp; omega
          have lL : L ≤ 4096 := by omega
          have lF : fr ≤ 4096 := by omega
          rw [decide_eq_false hseen]
          have HF : Hid _ := hfr
          have HNK : Hid _ := hnk
          have m1 := hEc.m1
          have n1 := hEc.n1
          have tok1 : True := trivial
          generalize hg : ss.getD q ByteArray.empty = g at e2 hkey
          clear hg hM hin2 hfr hseen hEr hbw hbr hns hnk hMq hL lq
          go_wp2_with (first
            | (at_lookup; have _t := tok1; refine wpList_lookup_in rfl (.tmp 157) (.tmp 161) rfl b2 _ D2 _ ((keys ss).getD q []) M rfl m2 n2 _ rfl hkey HIN2.out HM.out ?_; clear tok1)
            | (at_lookup; refine wpList_lookup_out rfl (.tmp 170) (.tmp 174) rfl b1 _ D1 _ ((keys ss).getD q []) rfl m1 n1 _ rfl hkey HNK.out ?_; intro c0)
            | (at_len; refine wpList_len_num rfl (.tmp 180) rfl b1 _ D1 _ L rfl m1 n1 HL.out ?_))
          go_roundw
          case rel => exact ⟨q + 1, fr + 1, by omega, by omega, by go_num, by go_num, by rw [HD.out, List.length_append]; have := HF.out; simp; omega, hbx⟩
          case measure => simp [intOf]; omega
    · obtain rfl : q = ss.length := by omega
      rw [List.take_of_length_le (show (keys ss).length ≤ ss.length by rw [keys_len]; exact Nat.le_refl _)] at hfr
      clear hbr
      go_wp2_with fail
      exact t15 _ _ _ _ _ _ _ _ _ _ _ _ _ _ _ _ _ _ _ _ _ _ _ _ _ _ _ _ _ _ _ _ _ _ _ _ _ _ _ _ _ _ _ _ _ _ _ _ _ _ _ _ _ _ _ _ _ _ _ _ _ _ _ _ _ _ _ _ _ _ _ _ _ _ _ _ _ _ _ _ _ _ _ _ _ _ _ _ _ _ _ _ _ _ _ _ _ _ _ _ _ _ _ _ _ _ _ _ _ _ _ _ _ _ _ _ _ _ _ _ _ _ _ _ _ _ _ _ _ _ _ _ _ _ _ _ _ _ _ _ _ _ _ _ _ _ _ _ _ _ _ _ _ _ _ _ _ _ _ _ _ _ _ _ _ _ _ _ _ _ _ _ _ _ _ _ _ _ _ _ _ _ _ _ _ _ _ _ _ _ _ _ _ _ _ _ _ _ _ _ _ _ _ _ _ _ _ _ _ _ _ _ _ _ _ _ _ _ _ _ _ _ _ _ _ _ _ _ _ _ _ _ _ _ _ _ _ _ _ _ _ _ _ _ _ _ _ _ hEr hw hl hz hk hbw hfr

end Go.Proofs.Qxb6626221a
