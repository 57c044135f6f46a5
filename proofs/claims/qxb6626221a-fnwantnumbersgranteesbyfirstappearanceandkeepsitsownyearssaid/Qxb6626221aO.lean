/-
  Seat b6626221a: FnWantNumbersGranteesByFirstAppearanceAndKeepsItsOwnYears: the head. Frames written by program.
-/
import Derived.Test.Qxb6626221aN
namespace Go.Proofs.Qxb6626221a.N3
open Go.RowKit Go.Maps
set_option linter.unusedVariables false
attribute [local go_sem] eqNil23 neNil23 neNil22

/-- A row's elements lie in the row's block. -/
theorem ints_row_block {w : World} {base : Nat} {o : Option Addr} {n cp : Nat} {xs : List Value} (h : w.ownsRow base 3 1 (.slice o n cp) n xs) : ∀ ad, o = some ad → base ≤ ad.block := by
  intro ad e
  obtain ⟨g, rfl, hg, _⟩ := row_at h ad e
  exact hg
theorem Strs.block {w : World} {o : Option Addr} {ss : List ByteArray} (h : Strs w o ss) (hne : ss ≠ []) : ∀ ad, o = some ad → ad.block < w.heap.size := by
  intro ad e
  obtain ⟨b, off, e', hc⟩ := h hne
  rw [e] at e'
  cases e'
  have h0 : 0 < ss.length := List.length_pos_iff.2 hne
  exact World.block_lt_of_cell? w _ (hc 0 h0)
theorem IntsO.block {w : World} {o : Option Addr} {zs : List Int} (h : IntsO w o zs) (hne : zs ≠ []) : ∀ ad, o = some ad → ad.block < w.heap.size := by
  intro ad e
  obtain ⟨b, off, e', hc⟩ := h.2 ad e hne
  subst e'
  have h0 : 0 < zs.length := List.length_pos_iff.2 hne
  exact World.block_lt_of_cell? w _ (hc 0 h0)

set_option maxRecDepth 100000 in
set_option maxHeartbeats 1000000 in
theorem t6 (o : Option Addr) (cp : Nat) (ss : List ByteArray) (c : Option Addr) (cp2 : Nat) (zs : List Int) (w w0 : World) (u2 u3 u4 u5 u6 u7 u8 u9 u10 u11 u12 u13 u14 u15 u16 u17 u18 u19 u20 u21 u22 u23 u24 u25 u26 u27 u28 u29 u30 u31 u32 u33 u34 u35 u36 u37 u38 u39 u40 u41 u42 u43 u44 u45 u46 u47 u48 u49 u50 u51 u52 u53 u54 u55 u56 u57 u58 u59 u60 u61 u62 u63 u64 u65 u66 u67 u68 u69 u70 u71 u72 u73 u74 u75 u76 u77 u78 u79 u80 u81 u82 u83 u84 u85 u86 u87 u88 u89 u90 u91 u92 u93 u94 u95 u96 u97 u98 u99 u100 u101 u102 u103 u104 u105 u106 u107 u108 u109 u110 u111 u112 u113 u114 u115 u116 u117 u118 u119 u120 u121 u122 u123 u124 u125 u126 u127 u128 u129 u130 u131 u132 u133 u134 u135 u136 u137 u138 u139 u140 u141 u142 u143 u144 u145 u146 u147 u148 u149 u150 u151 u152 u153 u154 u155 u156 u157 u158 u159 u160 u161 u162 u163 u164 u165 u166 u167 u168 u169 u170 u171 u172 u173 u174 u175 u176 u177 u178 u179 u180 u181 u182 u183 u184 u185 u186 u187 u188 u189 u190 u191 u192 : Value)
    (hs : Strs w o ss) (hc : IntsO w c zs) (hw : ∀ i, (ss.getD i ByteArray.empty).size ≤ 1048576) (hl : ss.length ≤ 4096) (hz : zs.length ≤ 65536) (hb : Below w0.heap.size w0 w) :
    Code.wp Try.prog (tl Try.f3 6) (QT Try.f3 w0.heap.size w0) ⟨#[.slice o ss.length cp, .slice c zs.length cp2, u2, u3, u4, u5, u6, u7, u8, u9, u10, u11, u12, u13, u14, u15, u16, u17, u18, u19, u20, u21, u22, u23, u24, u25, u26, u27, u28, u29, u30, u31, u32, u33, u34, u35, u36, u37, u38, u39, u40, u41, u42, u43, u44, u45, u46, u47, u48, u49, u50, u51, u52, u53, u54, u55, u56, u57, u58, u59, u60, u61, u62, u63, u64, u65, u66, u67, u68, u69, u70, u71, u72, u73, u74, u75, u76, u77, u78, u79, u80, u81, u82, u83, u84, u85, u86, u87, u88, u89, u90, u91, u92, u93, u94, u95, u96, u97, u98, u99, u100, u101, u102, u103, u104, u105, u106, u107, u108, u109, u110, u111, u112, u113, u114, u115, u116, u117, u118, u119, u120, u121, u122, u123, u124, u125, u126, u127, u128, u129, u130, u131, u132, u133, u134, u135, u136, u137, u138, u139, u140, u141, u142, u143, u144, u145, u146, u147, u148, u149, u150, u151, u152, u153, u154, u155, u156, u157, u158, u159, u160, u161, u162, u163, u164, u165, u166, u167, u168, u169, u170, u171, u172, u173, u174, u175, u176, u177, u178, u179, u180, u181, u182, u183, u184, u185, u186, u187, u188, u189, u190, u191, u192], []⟩ w := by
  rw [tl3_6]
  refine wp_seq_k (fun K hK => ?_)
  conv => arg 2; whnf
  go_wp2_with fail
  refine (cloneInts_any c cp2 zs _ hc hz).mono ?_
  rintro e w1 ⟨ov, cpv, rfl, hnv, hrv, hb1⟩
  go_wp2_with fail
  rw [tl3_7]
  refine wp_seq_k (fun K hK => ?_)
  conv => arg 2; whnf
  have hs1 := hs.below hb1
  have hc1 := hc.below hb1
  go_wp2_with fail
  refine (want_n ss.length zs.length o cp ss rfl ov cpv zs rfl _ hs1 (fun i => Nat.le_trans (hw i) (by unfold maxLen; omega)) hl (ints_of_row hrv) hz).mono ?_
  rintro e w2 ⟨b, oy, cpy, D, rfl, hbb, hm2, hn2, hny, hr2, hb2⟩
  have hal : Below w2.heap.size w2 (w2.alloc (.cells #[.map (some b), .slice oy zs.length cpy] 28)) := (Below.refl _ _).alloc (Nat.le_refl _) _
  have c1 : (w2.alloc (.cells #[.map (some b), .slice oy zs.length cpy] 28)).cell? ⟨w2.heap.size, 0, none⟩ = some (.map (some b)) := cell_of_row _ _ 0 _ _ _ (heap_alloc_new _ _)
  have c2 : (w2.alloc (.cells #[.map (some b), .slice oy zs.length cpy] 28)).cell? ⟨w2.heap.size, 1, none⟩ = some (.slice oy zs.length cpy) := cell_of_row _ _ 1 _ _ _ (heap_alloc_new _ _)
  have hbz := hb2.trans (hal.mono hb2.size)
  have hE : Env (w2.alloc (.cells #[.map (some b), .slice oy zs.length cpy] 28)) o ss c zs b D oy cpy w2.heap.size :=
    ⟨hs1.below hbz, hc1.below hbz, map_below hm2 hal, hn2, (ints_of_row hr2).below hal, c1, c2⟩
  have hV := row_mono (show w0.heap.size ≤ w.heap.size from hb.size) (row_below hrv hbz)
  have hO : ∀ g, ov = some ⟨g, 0, none⟩ → Off g o ss c zs b oy w2.heap.size := by
    intro g e
    obtain ⟨g', e1, hg1, hg2⟩ := row_at hrv _ e
    cases e1
    have hgs := hb2.size
    refine ⟨fun hne ad ea => ?_, fun hne ad ea => ?_, by omega, fun hne ad ea => ?_, by omega⟩
    · have := Strs.block hs hne ad ea; omega
    · have := IntsO.block hc hne ad ea; omega
    · have := ints_row_block hr2 ad ea; omega
  have hbw := (hb.trans (hb1.mono hb.size)).trans (hbz.mono (Nat.le_trans hb.size hb1.size))
  have hnn : oy.isNone = c.isNone := hny.trans hnv
  have HNN : Hid _ := hnn
  clear hs hc hs1 hc1 hrv hb1 hm2 hn2 hr2 hb2 hal c1 c2 hbz hb hny hnv hnn hbb
  go_wp2_with fail
  exact t8 _ _ _ _ _ _ _ _ _ _ _ _ _ _ _ _ _ _ _ _ _ _ _ _ _ _ _ _ _ _ _ _ _ _ _ _ _ _ _ _ _ _ _ _ _ _ _ _ _ _ _ _ _ _ _ _ _ _ _ _ _ _ _ _ _ _ _ _ _ _ _ _ _ _ _ _ _ _ _ _ _ _ _ _ _ _ _ _ _ _ _ _ _ _ _ _ _ _ _ _ _ _ _ _ _ _ _ _ _ _ _ _ _ _ _ _ _ _ _ _ _ _ _ _ _ _ _ _ _ _ _ _ _ _ _ _ _ _ _ _ _ _ _ _ _ _ _ _ _ _ _ _ _ _ _ _ _ _ _ _ _ _ _ _ _ _ _ _ _ _ _ _ _ _ _ _ _ _ _ _ _ _ _ _ _ _ _ _ _ _ _ _ _ _ _ _ _ _ _ _ _ _ _ _ hE HNN.out hw hl hz hbw zs hV hO

set_option maxRecDepth 100000 in
set_option maxHeartbeats 1000000 in
theorem t4 (o : Option Addr) (cp : Nat) (ss : List ByteArray) (c : Option Addr) (cp2 : Nat) (zs : List Int) (w w0 : World) (u2 u3 u4 u5 u6 u7 u8 u9 u10 u11 u12 u13 u14 u15 u16 u17 u18 u19 u20 u21 u22 u23 u24 u25 u26 u27 u28 u29 u30 u31 u32 u33 u34 u35 u36 u37 u38 u39 u40 u41 u42 u43 u44 u45 u46 u47 u48 u49 u50 u51 u52 u53 u54 u55 u56 u57 u58 u59 u60 u61 u62 u63 u64 u65 u66 u67 u68 u69 u70 u71 u72 u73 u74 u75 u76 u77 u78 u79 u80 u81 u82 u83 u84 u85 u86 u87 u88 u89 u90 u91 u92 u93 u94 u95 u96 u97 u98 u99 u100 u101 u102 u103 u104 u105 u106 u107 u108 u109 u110 u111 u112 u113 u114 u115 u116 u117 u118 u119 u120 u121 u122 u123 u124 u125 u126 u127 u128 u129 u130 u131 u132 u133 u134 u135 u136 u137 u138 u139 u140 u141 u142 u143 u144 u145 u146 u147 u148 u149 u150 u151 u152 u153 u154 u155 u156 u157 u158 u159 u160 u161 u162 u163 u164 u165 u166 u167 u168 u169 u170 u171 u172 u173 u174 u175 u176 u177 u178 u179 u180 u181 u182 u183 u184 u185 u186 u187 u188 u189 u190 u191 u192 : Value)
    (hs : Strs w o ss) (hc : IntsO w c zs) (hw : ∀ i, (ss.getD i ByteArray.empty).size ≤ 1048576) (hl : ss.length ≤ 4096) (hz : zs.length ≤ 65536) (hb : Below w0.heap.size w0 w) :
    Code.wp Try.prog (tl Try.f3 4) (QT Try.f3 w0.heap.size w0) ⟨#[.slice o ss.length cp, .slice c zs.length cp2, u2, u3, u4, u5, u6, u7, u8, u9, u10, u11, u12, u13, u14, u15, u16, u17, u18, u19, u20, u21, u22, u23, u24, u25, u26, u27, u28, u29, u30, u31, u32, u33, u34, u35, u36, u37, u38, u39, u40, u41, u42, u43, u44, u45, u46, u47, u48, u49, u50, u51, u52, u53, u54, u55, u56, u57, u58, u59, u60, u61, u62, u63, u64, u65, u66, u67, u68, u69, u70, u71, u72, u73, u74, u75, u76, u77, u78, u79, u80, u81, u82, u83, u84, u85, u86, u87, u88, u89, u90, u91, u92, u93, u94, u95, u96, u97, u98, u99, u100, u101, u102, u103, u104, u105, u106, u107, u108, u109, u110, u111, u112, u113, u114, u115, u116, u117, u118, u119, u120, u121, u122, u123, u124, u125, u126, u127, u128, u129, u130, u131, u132, u133, u134, u135, u136, u137, u138, u139, u140, u141, u142, u143, u144, u145, u146, u147, u148, u149, u150, u151, u152, u153, u154, u155, u156, u157, u158, u159, u160, u161, u162, u163, u164, u165, u166, u167, u168, u169, u170, u171, u172, u173, u174, u175, u176, u177, u178, u179, u180, u181, u182, u183, u184, u185, u186, u187, u188, u189, u190, u191, u192], []⟩ w := by
  rw [tl3_4]
  refine wp_seq_k (fun K hK => ?_)
  conv => arg 2; whnf
  go_wp2_with fail
  rw [tl3_5]
  refine wp_seq_k (fun K hK => ?_)
  conv => arg 2; whnf
  unfold QT
  go_wp2_with fail
  go_loop [6, 7] (fun z i => ∃ q m : Nat, q ≤ ss.length ∧ i = .int .i64 q ∧ m ≤ 1048576 ∧ z = .int .i64 m) (fun _ i => ss.length - (intOf i).toNat)
  case atStart => exact ⟨0, 8 * zs.length, Nat.zero_le _, rfl, by omega, by go_num⟩
  case round =>
    obtain ⟨q, m, hq, rfl, hm, rfl⟩ := hrel
    by_cases hlt : q < ss.length
    · obtain ⟨b, off, rfl, hcs⟩ := hs (ne_of_lt hlt)
      have hcq := hcs q hlt
      have hsz := hw q
      generalize ss.getD q ByteArray.empty = s at hcq hsz
      clear hs hw hcs hc
      go_wp2
      · go_ret
        exact ⟨rfl, hb⟩
      · go_round
        case rel => exact ⟨q + 1, m + (16 + s.size), by omega, by go_num, by omega, by go_num⟩
        case measure => simp [intOf]; omega
    · go_wp2_with fail
      exact t6 _ _ _ _ _ _ _ _ _ _ _ _ _ _ _ _ _ _ _ _ _ _ _ _ _ _ _ _ _ _ _ _ _ _ _ _ _ _ _ _ _ _ _ _ _ _ _ _ _ _ _ _ _ _ _ _ _ _ _ _ _ _ _ _ _ _ _ _ _ _ _ _ _ _ _ _ _ _ _ _ _ _ _ _ _ _ _ _ _ _ _ _ _ _ _ _ _ _ _ _ _ _ _ _ _ _ _ _ _ _ _ _ _ _ _ _ _ _ _ _ _ _ _ _ _ _ _ _ _ _ _ _ _ _ _ _ _ _ _ _ _ _ _ _ _ _ _ _ _ _ _ _ _ _ _ _ _ _ _ _ _ _ _ _ _ _ _ _ _ _ _ _ _ _ _ _ _ _ _ _ _ _ _ _ _ _ _ _ _ _ _ _ _ _ _ _ _ _ _ hs hc hw hl hz hb

set_option maxRecDepth 100000 in
set_option maxHeartbeats 1000000 in
theorem t3 (o : Option Addr) (cp : Nat) (ss : List ByteArray) (c : Option Addr) (cp2 : Nat) (zs : List Int) (w w0 : World) (u2 u3 u4 u5 u6 u7 u8 u9 u10 u11 u12 u13 u14 u15 u16 u17 u18 u19 u20 u21 u22 u23 u24 u25 u26 u27 u28 u29 u30 u31 u32 u33 u34 u35 u36 u37 u38 u39 u40 u41 u42 u43 u44 u45 u46 u47 u48 u49 u50 u51 u52 u53 u54 u55 u56 u57 u58 u59 u60 u61 u62 u63 u64 u65 u66 u67 u68 u69 u70 u71 u72 u73 u74 u75 u76 u77 u78 u79 u80 u81 u82 u83 u84 u85 u86 u87 u88 u89 u90 u91 u92 u93 u94 u95 u96 u97 u98 u99 u100 u101 u102 u103 u104 u105 u106 u107 u108 u109 u110 u111 u112 u113 u114 u115 u116 u117 u118 u119 u120 u121 u122 u123 u124 u125 u126 u127 u128 u129 u130 u131 u132 u133 u134 u135 u136 u137 u138 u139 u140 u141 u142 u143 u144 u145 u146 u147 u148 u149 u150 u151 u152 u153 u154 u155 u156 u157 u158 u159 u160 u161 u162 u163 u164 u165 u166 u167 u168 u169 u170 u171 u172 u173 u174 u175 u176 u177 u178 u179 u180 u181 u182 u183 u184 u185 u186 u187 u188 u189 u190 u191 u192 : Value)
    (hs : Strs w o ss) (hc : IntsO w c zs) (hw : ∀ i, (ss.getD i ByteArray.empty).size ≤ 1048576) (hl : ss.length ≤ 4096) (hz : zs.length ≤ 65536) (hb : Below w0.heap.size w0 w) :
    Code.wp Try.prog (tl Try.f3 3) (QT Try.f3 w0.heap.size w0) ⟨#[.slice o ss.length cp, .slice c zs.length cp2, u2, u3, u4, u5, u6, u7, u8, u9, u10, u11, u12, u13, u14, u15, u16, u17, u18, u19, u20, u21, u22, u23, u24, u25, u26, u27, u28, u29, u30, u31, u32, u33, u34, u35, u36, u37, u38, u39, u40, u41, u42, u43, u44, u45, u46, u47, u48, u49, u50, u51, u52, u53, u54, u55, u56, u57, u58, u59, u60, u61, u62, u63, u64, u65, u66, u67, u68, u69, u70, u71, u72, u73, u74, u75, u76, u77, u78, u79, u80, u81, u82, u83, u84, u85, u86, u87, u88, u89, u90, u91, u92, u93, u94, u95, u96, u97, u98, u99, u100, u101, u102, u103, u104, u105, u106, u107, u108, u109, u110, u111, u112, u113, u114, u115, u116, u117, u118, u119, u120, u121, u122, u123, u124, u125, u126, u127, u128, u129, u130, u131, u132, u133, u134, u135, u136, u137, u138, u139, u140, u141, u142, u143, u144, u145, u146, u147, u148, u149, u150, u151, u152, u153, u154, u155, u156, u157, u158, u159, u160, u161, u162, u163, u164, u165, u166, u167, u168, u169, u170, u171, u172, u173, u174, u175, u176, u177, u178, u179, u180, u181, u182, u183, u184, u185, u186, u187, u188, u189, u190, u191, u192], []⟩ w := by
  obtain ⟨i0, hi, hz0, hz1, hz2⟩ := info_parts Try.info9
  rw [tl3_3]
  refine wp_seq_k (fun K hK => ?_)
  conv => arg 2; whnf
  cases o with
  | none =>
    go_wp2_with fail
    exact t4 _ _ _ _ _ _ _ _ _ _ _ _ _ _ _ _ _ _ _ _ _ _ _ _ _ _ _ _ _ _ _ _ _ _ _ _ _ _ _ _ _ _ _ _ _ _ _ _ _ _ _ _ _ _ _ _ _ _ _ _ _ _ _ _ _ _ _ _ _ _ _ _ _ _ _ _ _ _ _ _ _ _ _ _ _ _ _ _ _ _ _ _ _ _ _ _ _ _ _ _ _ _ _ _ _ _ _ _ _ _ _ _ _ _ _ _ _ _ _ _ _ _ _ _ _ _ _ _ _ _ _ _ _ _ _ _ _ _ _ _ _ _ _ _ _ _ _ _ _ _ _ _ _ _ _ _ _ _ _ _ _ _ _ _ _ _ _ _ _ _ _ _ _ _ _ _ _ _ _ _ _ _ _ _ _ _ _ _ _ _ _ _ _ _ _ _ _ _ _ hs hc hw hl hz hb
  | some ad =>
    go_wp2_with (first
      | (at_make; go_must (refine wpList_make_full _ rfl _ _ 22 rfl w.heap.size 9 i0 (.string ⟨#[]⟩) 1 Try.underlying22 hi hz0 hz1 .i64 .i64 _ _ ss.length rfl rfl rfl rfl (by rw [hz2]; omega) (by unfold maxLen; omega) (Nat.le_refl _) ?_; intro w1 hown1 hgrow1))
      | (refine wpList_copy_splice rfl (.tmp 41) (.tmp 42) 22 22 rfl 9 Try.underlying22 (by kernel_rfl) _ _ _ _ _ _ rfl rfl w.heap.size 0 _ 9 (row_block hown1).1 (ss.map Value.string) (by simp) (fun h => ⟨rfl, strs_src (hs.below ((Below.refl _ _).grown hgrow1 (Nat.le_refl _) (fun j hj => by cases hj))) h⟩) (by rw [Nat.zero_add, List.length_map, (row_block hown1).2]; exact Nat.le_refl _) (strs_oneCell ss) w.heap.size w ((Below.refl _ _).grown hgrow1 (Nat.le_refl _) (fun j hj => by cases hj)) (Nat.le_refl _) ?_; intro w2 hh2 hb2))
    have hblk := hh2.out
    rw [splice_all _ _ (by rw [List.length_map]; exact (row_block hown1).2)] at hblk
    exact t4 _ _ _ _ _ _ _ _ _ _ _ _ _ _ _ _ _ _ _ _ _ _ _ _ _ _ _ _ _ _ _ _ _ _ _ _ _ _ _ _ _ _ _ _ _ _ _ _ _ _ _ _ _ _ _ _ _ _ _ _ _ _ _ _ _ _ _ _ _ _ _ _ _ _ _ _ _ _ _ _ _ _ _ _ _ _ _ _ _ _ _ _ _ _ _ _ _ _ _ _ _ _ _ _ _ _ _ _ _ _ _ _ _ _ _ _ _ _ _ _ _ _ _ _ _ _ _ _ _ _ _ _ _ _ _ _ _ _ _ _ _ _ _ _ _ _ _ _ _ _ _ _ _ _ _ _ _ _ _ _ _ _ _ _ _ _ _ _ _ _ _ _ _ _ _ _ _ _ _ _ _ _ _ _ _ _ _ _ _ _ _ _ _ _ _ _ _ _ _ (strs_of_block hblk) (hc.below hb2) hw hl hz (hb.trans (hb2.mono hb.size))

end Go.Proofs.Qxb6626221a.N3
namespace Go.Proofs.Qxb6626221a
open Go.RowKit Go.Maps N3
set_option linter.unusedVariables false
attribute [local go_sem] eqNil23 neNil23 neNil22
set_option maxRecDepth 100000 in
set_option maxHeartbeats 1000000 in
theorem law_numbers (a : Option Addr) (cap : Nat) (ss : List ByteArray) (c : Option Addr) (cap2 : Nat) (zs : List Int) (w : World) (hs : Strs w a ss) (hw : ∀ i, (ss.getD i ByteArray.empty).size ≤ maxLen) (hl : ss.length ≤ maxLen) (hc : IntsO w c zs) (hz : zs.length ≤ maxLen) :
    Calls Try.prog 3 #[.slice a ss.length cap, .slice c zs.length cap2] w fun e w' => e = .returned (.bool true) ∧ Below w.heap.size w w' := by
  go_enter Try.func3, Try.ntmps3
  change Code.wp Try.prog (tl Try.f3 0) (QT Try.f3 w.heap.size w) _ _
  rw [tl3_0]
  refine wp_seq_k (fun K hK => ?_)
  conv => arg 2; whnf
  go_wp2_with fail
  rw [tl3_1]
  refine wp_seq_k (fun K hK => ?_)
  conv => arg 2; whnf
  unfold QT
  go_wp2_with fail
  refine (bytes5 a cap ss c zs.length cap2 _ hs hw hl hz).mono ?_
  rintro e w' ⟨hr | ⟨hr, hsz⟩, hw'⟩
  · subst hr
    have hw' := hw'.symm
    subst hw'
    go_wp2_with fail
    go_ret
    exact ⟨rfl, Below.refl _ _⟩
  subst hr
  have hw' := hw'.symm
  subst hw'
  go_wp2_with fail
  rw [tl3_2]
  refine wp_seq_k (fun K hK => ?_)
  conv => arg 2; whnf
  by_cases h1 : ss.length ≤ 4096
  case neg =>
    have h1' : (4096 : Int) < ss.length := by omega
    go_wp2_with fail
    all_goals (go_ret; exact ⟨rfl, Below.refl _ _⟩)
  by_cases h2 : zs.length ≤ 65536
  case neg =>
    have h2' : (65536 : Int) < zs.length := by omega
    go_wp2_with fail
    all_goals (go_ret; exact ⟨rfl, Below.refl _ _⟩)
  go_wp2_with fail
  exact t3 _ _ _ _ _ _ _ _ _ _ _ _ _ _ _ _ _ _ _ _ _ _ _ _ _ _ _ _ _ _ _ _ _ _ _ _ _ _ _ _ _ _ _ _ _ _ _ _ _ _ _ _ _ _ _ _ _ _ _ _ _ _ _ _ _ _ _ _ _ _ _ _ _ _ _ _ _ _ _ _ _ _ _ _ _ _ _ _ _ _ _ _ _ _ _ _ _ _ _ _ _ _ _ _ _ _ _ _ _ _ _ _ _ _ _ _ _ _ _ _ _ _ _ _ _ _ _ _ _ _ _ _ _ _ _ _ _ _ _ _ _ _ _ _ _ _ _ _ _ _ _ _ _ _ _ _ _ _ _ _ _ _ _ _ _ _ _ _ _ _ _ _ _ _ _ _ _ _ _ _ _ _ _ _ _ _ _ _ _ _ _ _ _ _ _ _ _ _ _ hs hc hsz h1 h2 (Below.refl _ _)

end Go.Proofs.Qxb6626221a
