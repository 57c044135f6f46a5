/-
  Seat b6626314a: the law of the conflicts: the searches.
-/
import Derived.Test.Qxb6626314aZF
namespace Go.Proofs.Qxb6626314a
open Go.RowKit Go.Maps Go.Sort
set_option linter.unusedVariables false
set_option linter.unusedSimpArgs false

def InS (w1 : World) (gi ge : Nat) (G ab : List Int) (A : List Ac) (succ : Nat → List Int) (i si bfs : Nat) (dn : Bool) (o : Option Addr) (k c : Nat) (w : World) : Prop := (dn = false → bfs ≤ i) ∧ ∃ SE, LB w1 gi ge G.length (idxA G ab A) bfs SE o k c w ∧ (dn = true → Cl G.length succ bfs si SE)

set_option maxRecDepth 100000 in
set_option maxHeartbeats 4000000 in
theorem l26 {w0 w : World} (u0 u1 u2 u3 u4 u5 u6 u7 u8 u9 u10 u11 u12 u13 u14 u15 u16 u17 u18 u19 u20 u21 u22 u23 u24 u25 u26 u27 u28 u29 u30 u31 u32 u33 u34 u35 u36 u37 u38 u39 u40 u41 u42 u43 u44 u45 u46 u47 u48 u49 u50 u51 u52 u53 u54 u55 u56 u57 u58 u59 u60 u61 u62 u63 u64 u65 u66 u67 u68 u69 u70 u71 u72 u73 u74 u75 u76 u77 u78 u79 u80 u81 u82 u83 u84 u85 u86 u87 u88 u89 u90 u91 u92 u93 u94 u95 u96 u97 u98 u99 u100 u101 u102 u103 u104 u105 u106 u107 u108 u109 u110 u111 u112 u113 u114 u115 u116 u117 u118 u119 u120 u121 u122 u123 u124 u125 u126 u127 u128 u129 u130 u131 u132 u133 u134 u135 u136 u137 u138 u139 u140 u141 u142 u143 u144 u145 u146 u147 u148 u149 u150 u151 u152 u153 u154 u155 u156 u157 u158 u159 u160 u161 u162 u163 u164 u165 u166 u167 u168 u169 u170 u171 u172 u173 u174 u175 u176 u177 u178 u179 u180 u181 u182 u183 u184 u185 u186 u187 u188 u189 u190 u191 u192 u193 u194 u195 u196 u197 u198 u199 u200 u201 u202 u203 u204 u205 u206 u207 u208 u209 u210 u211 u212 u213 u214 u215 u216 u217 u218 u219 u220 u221 u222 u223 u224 u225 u226 u227 u228 u229 u230 u231 u232 u233 u234 u235 u236 u237 u238 u239 u240 u241 u242 u243 u244 u245 u246 u247 u248 u249 u250 u251 u252 u253 u254 u255 u256 u257 u258 u259 u260 u261 u262 u263 u264 u265 u266 u267 : Value)
    (HB : Hid (Below w0.heap.size w0 w)) :
    Code.wp Try.prog (tl Try.f4 26) (bodyPost Try.prog Try.f4 (fun e w' => e = .returned (.bool true) ∧ Below w0.heap.size w0 w')) ⟨#[u0, u1, u2, u3, u4, u5, u6, u7, u8, u9, u10, u11, u12, u13, u14, u15, u16, u17, u18, u19, u20, u21, u22, u23, u24, u25, u26, u27, u28, u29, u30, u31, u32, u33, u34, u35, u36, u37, u38, u39, u40, u41, u42, u43, u44, u45, u46, u47, u48, u49, u50, u51, u52, u53, u54, u55, u56, u57, u58, u59, u60, u61, u62, u63, u64, u65, u66, u67, u68, u69, u70, u71, u72, u73, u74, u75, u76, u77, u78, u79, u80, u81, u82, u83, u84, u85, u86, u87, u88, u89, u90, u91, u92, u93, u94, u95, u96, u97, u98, u99, u100, u101, u102, u103, u104, u105, u106, u107, u108, u109, u110, u111, u112, u113, u114, u115, u116, u117, u118, u119, u120, u121, u122, u123, u124, u125, u126, u127, u128, u129, u130, u131, u132, u133, u134, u135, u136, u137, u138, u139, u140, u141, u142, u143, u144, u145, u146, u147, u148, u149, u150, u151, u152, u153, u154, u155, u156, u157, u158, u159, u160, u161, u162, u163, u164, u165, u166, u167, u168, u169, u170, u171, u172, u173, u174, u175, u176, u177, u178, u179, u180, u181, u182, u183, u184, u185, u186, u187, u188, u189, u190, u191, u192, u193, u194, u195, u196, u197, u198, u199, u200, u201, u202, u203, u204, u205, u206, u207, u208, u209, u210, u211, u212, u213, u214, u215, u216, u217, u218, u219, u220, u221, u222, u223, u224, u225, u226, u227, u228, u229, u230, u231, u232, u233, u234, u235, u236, u237, u238, u239, u240, u241, u242, u243, u244, u245, u246, u247, u248, u249, u250, u251, u252, u253, u254, u255, u256, u257, u258, u259, u260, u261, u262, u263, u264, u265, u266, u267], []⟩ w := by
  conv => arg 2; whnf
  go_wp2_with fail
  go_ret
  exact ⟨rfl, HB.out⟩

set_option maxRecDepth 100000 in
set_option maxHeartbeats 4000000 in
theorem l25 {w0 w1 w : World} {oa og ob : Option Addr} {ca cg gs m : Nat} {A : List Ac} {T X G ab : List Int} {succ : Nat → List Int} {gi ge k c : Nat} {o : Option Addr} (u1 u2 u3 u4 u5 u6 u7 u8 u9 u10 u12 u14 u15 u16 u17 u18 u19 u20 u21 u22 u24 u25 u26 u30 u31 u32 u33 u34 u35 u36 u37 u38 u39 u40 u41 u42 u43 u44 u45 u46 u47 u48 u49 u50 u51 u52 u53 u54 u55 u56 u57 u58 u59 u60 u61 u62 u63 u64 u65 u66 u67 u68 u69 u70 u71 u72 u73 u74 u75 u76 u77 u78 u79 u80 u81 u82 u83 u84 u85 u86 u87 u88 u89 u90 u91 u92 u93 u94 u95 u96 u97 u98 u99 u100 u101 u102 u103 u104 u105 u106 u107 u108 u109 u110 u111 u112 u113 u114 u115 u116 u117 u118 u119 u120 u121 u122 u123 u124 u125 u126 u127 u128 u129 u130 u131 u132 u133 u134 u135 u136 u137 u138 u139 u140 u141 u142 u143 u144 u145 u146 u147 u148 u149 u150 u151 u152 u153 u154 u155 u156 u157 u158 u159 u160 u161 u162 u163 u164 u165 u166 u167 u168 u169 u170 u171 u172 u173 u174 u175 u176 u177 u178 u179 u180 u181 u182 u183 u184 u185 u186 u187 u188 u189 u190 u191 u192 u193 u194 u195 u196 u197 u198 u199 u200 u201 u202 u203 u204 u205 u206 u207 u208 u209 u210 u211 u212 u213 u214 u215 u216 u217 u218 u219 u220 u221 u222 u223 u224 u225 u226 u227 u228 u229 u230 u231 u232 u233 u234 u235 u236 u237 u238 u239 u240 u241 u242 u243 u244 u245 u246 u247 u248 u249 u250 u251 u252 u253 u254 u255 u256 u257 u258 u259 u260 u261 u262 u263 u264 u265 u266 u267 : Value)
    (HL : Hid (L4 w0 w1 oa og ob gs m A T X G ab succ)) (HLB : Hid (∃ SE, LB w1 gi ge G.length (idxA G ab A) 0 SE o k c w)) :
    Code.wp Try.prog (tl Try.f4 25) (bodyPost Try.prog Try.f4 (fun e w' => e = .returned (.bool true) ∧ Below w0.heap.size w0 w')) ⟨#[.slice oa A.length ca, u1, u2, u3, u4, u5, u6, u7, u8, u9, u10, .slice og G.length cg, u12, .slice (some ⟨gs, 0, none⟩) G.length G.length, u14, u15, u16, u17, u18, u19, u20, u21, u22, .slice (some ⟨gi, 0, none⟩) A.length A.length, u24, u25, u26, .slice (some ⟨ge, 0, none⟩) G.length G.length, .slice o k c, .int .i64 0, u30, u31, u32, u33, u34, u35, u36, u37, u38, u39, u40, u41, u42, u43, u44, u45, u46, u47, u48, u49, u50, u51, u52, u53, u54, u55, u56, u57, u58, u59, u60, u61, u62, u63, u64, u65, u66, u67, u68, u69, u70, u71, u72, u73, u74, u75, u76, u77, u78, u79, u80, u81, u82, u83, u84, u85, u86, u87, u88, u89, u90, u91, u92, u93, u94, u95, u96, u97, u98, u99, u100, u101, u102, u103, u104, u105, u106, u107, u108, u109, u110, u111, u112, u113, u114, u115, u116, u117, u118, u119, u120, u121, u122, u123, u124, u125, u126, u127, u128, u129, u130, u131, u132, u133, u134, u135, u136, u137, u138, u139, u140, u141, u142, u143, u144, u145, u146, u147, u148, u149, u150, u151, u152, u153, u154, u155, u156, u157, u158, u159, u160, u161, u162, u163, u164, u165, u166, u167, u168, u169, u170, u171, u172, u173, u174, u175, u176, u177, u178, u179, u180, u181, u182, u183, u184, u185, u186, u187, u188, u189, u190, u191, u192, u193, u194, u195, u196, u197, u198, u199, u200, u201, u202, u203, u204, u205, u206, u207, u208, u209, u210, u211, u212, u213, u214, u215, u216, u217, u218, u219, u220, u221, u222, u223, u224, u225, u226, u227, u228, u229, u230, u231, u232, u233, u234, u235, u236, u237, u238, u239, u240, u241, u242, u243, u244, u245, u246, u247, u248, u249, u250, u251, u252, u253, u254, u255, u256, u257, u258, u259, u260, u261, u262, u263, u264, u265, u266, u267], []⟩ w := by
  have hA : A.length ≤ 4096 := HL.out.lA
  have hG : G.length ≤ 12288 := HL.out.lG
  rw [tl4_25]
  refine wp_seq_k (fun K hK => ?_)
  conv => arg 2; whnf
  go_wp2_with fail
  go_loopw [28, 29, 30] (fun v28 v29 v30 wr => ∃ (i bfs : Nat) (o : Option Addr) (k c : Nat), v30 = .int .i64 i ∧ v29 = .int .i64 bfs ∧ v28 = .slice o k c ∧ i ≤ A.length ∧ bfs ≤ i ∧ Hid (∃ SE, LB w1 gi ge G.length (idxA G ab A) bfs SE o k c wr)) (fun _ _ v30 _ => A.length - (intOf v30).toNat)
  case atStart => exact ⟨0, 0, o, k, c, rfl, rfl, rfl, Nat.zero_le _, Nat.le_refl _, HLB⟩
  case round =>
    clear HLB
    obtain ⟨i, bfs0, o1, k1, c1, rfl, rfl, rfl, hi, hbi, HO⟩ := hrel
    by_cases hil : i < A.length
    · have hil' : (i : Int) < (A.length : Int) := by omega
      obtain ⟨SE0, hLB0⟩ := HO.out
      have ci := hLB0.ix (show i < (idxA G ab A).length by rw [idxA_len]; exact hil)
      rcases HL.out.ix hil with ⟨hx1, hx2⟩ | ⟨hx1, hGi, si, hsi, hsi2, hx2⟩
      · rw [hx2] at ci
        clear hLB0 hx1 hx2
        go_wp2_with fail
        go_roundw
        case rel => exact ⟨i + 1, bfs0, o1, k1, c1, by go_num, rfl, rfl, by omega, by omega, HO⟩
        case measure => simp [intOf]; omega
      · rw [hx2] at ci
        have HSI : Hid ((A.getD i a0).tx ∈ G ∧ si = G.idxOf (A.getD i a0).tx ∧ (idxA G ab A).getD i 0 = si) := ⟨hGi, hsi2, hx2⟩
        clear hLB0 hx1 hx2 hGi hsi2
        have HI0 : Hid (InS w1 gi ge G ab A succ i si bfs0 false o1 k1 c1 wr) := by
          obtain ⟨SE, h⟩ := HO.out
          exact ⟨fun _ => hbi, SE, h, fun h => by cases h⟩
        clear HO
        go_wp2_with fail
        go_loopw [28, 29, 31, 32] (fun v28 v29 v31 v32 wr => ∃ (j bfs : Nat) (dn : Bool) (o : Option Addr) (k c : Nat), v32 = .int .i64 j ∧ v29 = .int .i64 bfs ∧ v31 = .bool dn ∧ v28 = .slice o k c ∧ j ≤ A.length ∧ i < j ∧ bfs ≤ i + 1 ∧ Hid (InS w1 gi ge G ab A succ i si bfs dn o k c wr)) (fun _ _ _ v32 _ => A.length - (intOf v32).toNat)
        case atStart => exact ⟨i + 1, bfs0, false, o1, k1, c1, by go_num, rfl, rfl, rfl, by omega, by omega, by omega, HI0⟩
        case round =>
          clear HI0 ci
          obtain ⟨j, bfs, dn, o2, k2, c2, rfl, rfl, rfl, rfl, hj, hij, hb1, HI⟩ := hrel
          have hb2 : bfs ≤ 5000 := by omega
          by_cases hjl : j < A.length
          · have hjl' : (j : Int) < (A.length : Int) := by omega
            obtain ⟨hdn, SE, hLB, hcl⟩ := HI.out
            have ci := hLB.ix (show i < (idxA G ab A).length by rw [idxA_len]; exact hil)
            rw [HSI.out.2.2] at ci
            have cj := hLB.ix (show j < (idxA G ab A).length by rw [idxA_len]; exact hjl)
            rcases HL.out.ix hjl with ⟨hx1, hx2⟩ | ⟨hx1, hGj, sj, hsj, hsj2, hx2⟩
            · rw [hx2] at cj
              clear hLB hcl hx1 hx2 hdn
              go_upto_region 67 with fail
              go_quiet (fail)
              have HZ : Hid (InS w1 gi ge G ab A succ i si bfs dn o2 k2 c2 (wr.drewN nq)) := by
                obtain ⟨h0, SE, h1, h2⟩ := HI.out
                exact ⟨h0, SE, h1.drew (below_drewN (Below.refl _ _) nq), h2⟩
              clear HI
              go_wp2_with fail
              go_roundw
              case rel => exact ⟨j + 1, bfs, dn, o2, k2, c2, by go_num, rfl, rfl, rfl, by omega, by omega, hb1, HZ⟩
              case measure => simp [intOf]; omega
            · rw [hx2] at cj
              have hjn : decide ((sj : Int) < 0) = false := decide_eq_false (by omega)
              by_cases hss : sj = si
              · have hse0 := hss.symm
                subst hse0
                clear hLB hcl hx1 hx2 hdn hGj hsj2
                go_upto_region 67 with fail
                go_quiet (fail)
                have HZ : Hid (InS w1 gi ge G ab A succ i si bfs dn o2 k2 c2 (wr.drewN nq)) := by
                  obtain ⟨h0, SE, h1, h2⟩ := HI.out
                  exact ⟨h0, SE, h1.drew (below_drewN (Below.refl _ _) nq), h2⟩
                clear HI
                go_wp2_with fail
                go_roundw
                case rel => exact ⟨j + 1, bfs, dn, o2, k2, c2, by go_num, rfl, rfl, rfl, by omega, by omega, hb1, HZ⟩
                case measure => simp [intOf]; omega
              · have hss' : ¬ ((sj : Int) = (si : Int)) := by omega
                have hse : ((sj : Int) == (si : Int)) = false := by simpa using hss'
                have hsd : decide ((sj : Int) = (si : Int)) = false := decide_eq_false hss'
                have hsn : decide (sj = si) = false := decide_eq_false hss
                have hsb : (sj == si) = false := by simpa using hss
                obtain ⟨b, off, hoa, a0i, a1i, a2i⟩ := acc_cell (HL.out.sa.below hLB.b) hil
                obtain ⟨b', off', hoa', a0j, a1j, a2j⟩ := acc_cell (HL.out.sa.below hLB.b) hjl
                rw [hoa] at hoa'
                simp at hoa'
                obtain ⟨rfl, rfl⟩ := hoa'
                by_cases hit : (A.getD j a0).item = (A.getD i a0).item
                · skip
                  obtain ⟨xi, hxi⟩ : ∃ xi, xi = (A.getD i a0).item := ⟨_, rfl⟩
                  have hxj : (A.getD j a0).item = xi := by rw [hxi]; exact hit
                  rw [← hxi] at a1i
                  rw [hxj] at a1j
                  have HIT : Hid ((A.getD i a0).item = (A.getD j a0).item) := hit.symm
                  have HGJ : Hid ((A.getD j a0).tx ∈ G ∧ sj = G.idxOf (A.getD j a0).tx ∧ (idxA G ab A).getD j 0 = sj) := ⟨hGj, hsj2, hx2⟩
                  have hbx : (xi != xi) = false := by simp
                  have HOA : Hid _ := hoa
                  clear hLB hcl hx1 hx2 hdn hGj hsj2 a0i a0j a2i a2j hit hxi hxj
                  subst hoa
                  go_upto_region 67 with fail
                  go_quiet (fail)
                  have HZ : Hid (InS w1 gi ge G ab A succ i si bfs dn o2 k2 c2 (wr.drewN nq)) := by
                    obtain ⟨h0, SE, h1, h2⟩ := HI.out
                    exact ⟨h0, SE, h1.drew (below_drewN (Below.refl _ _) nq), h2⟩
                  clear HI
                  clear hjn hse hsd hsn hsb hbx
                  obtain ⟨wq, hwq⟩ : ∃ wq, wq = wr.drewN nq := ⟨_, rfl⟩
                  rw [← hwq] at HZ ⊢
                  clear hwq ci cj a1i a1j
                  obtain ⟨hdn, SE, hLB, hcl⟩ := HZ.out
                  have ci := hLB.ix (show i < (idxA G ab A).length by rw [idxA_len]; exact hil)
                  rw [HSI.out.2.2] at ci
                  have cj := hLB.ix (show j < (idxA G ab A).length by rw [idxA_len]; exact hjl)
                  rw [HGJ.out.2.2] at cj
                  obtain ⟨b1, off1, hoa1, _, _, a2i⟩ := acc_cell (HL.out.sa.below hLB.b) hil
                  obtain ⟨b2, off2, hoa2, _, _, a2j⟩ := acc_cell (HL.out.sa.below hLB.b) hjl
                  simp at hoa1 hoa2
                  obtain ⟨rfl, rfl⟩ := hoa1
                  obtain ⟨rfl, rfl⟩ := hoa2
                  by_cases hww : (A.getD i a0).wr = true ∨ (A.getD j a0).wr = true
                  · have HF : Hid (∀ SE' bfs', Cl G.length succ bfs' si SE' → SE'.getD sj 0 = (bfs' : Int)) := fun SE' bfs' hc => by
                      rw [HGJ.out.2.1]
                      exact HL.out.found hij hjl HSI.out.1 HGJ.out.1 HIT.out hww (by rw [← HSI.out.2.1]; exact hc)
                    have hsjn : (sj : Int) < (G.length : Int) := by omega
                    have HD : Hid (InS w1 gi ge G ab A succ i si bfs dn o2 k2 c2 wq) := HZ
                    cases dn with
                    | true =>
                      have hv := HF.out SE bfs (hcl rfl)
                      have ce := hLB.e.cell (show sj < SE.length by rw [hLB.ne]; exact hsj)
                      rw [hv] at ce
                      clear hLB hcl hdn hv HZ
                      cases hwi : (A.getD i a0).wr with
                      | true =>
                        rw [hwi] at a2i
                        clear hww hwi a2j
                        go_wp2_with fail
                        go_roundw
                        case rel => exact ⟨j + 1, bfs, true, o2, k2, c2, by go_num, rfl, rfl, rfl, by omega, by omega, hb1, HD⟩
                        case measure => simp [intOf]; omega
                      | false =>
                        have hwj : (A.getD j a0).wr = true := by rw [hwi] at hww; simpa using hww
                        rw [hwi] at a2i
                        rw [hwj] at a2j
                        clear hww hwi hwj
                        go_wp2_with fail
                        go_roundw
                        case rel => exact ⟨j + 1, bfs, true, o2, k2, c2, by go_num, rfl, rfl, rfl, by omega, by omega, hb1, HD⟩
                        case measure => simp [intOf]; omega
                    | false =>
                      obtain ⟨nq0, xs0, hq0⟩ := hLB.q
                      have HC : Hid _ := reach_any (w := wq.drew) (s := (bfs : Int) + 1) (src := si) (o := o2) (c := c2) HL.out.su hLB.e hLB.le hLB.ne (by simpa using hLB.lq) (row_zero hq0) (hLB.b.drew) hsi hG
                      have HLBq : Hid _ := hLB
                      have hbi2 : bfs ≤ i := hdn rfl
                      have hsin : (si : Int) < (G.length : Int) := by omega
                      clear hLB hcl hdn HZ HD hq0
                      cases hwi : (A.getD i a0).wr with
                      | true =>
                        rw [hwi] at a2i
                        clear hww hwi a2j
                        go_wp2_with fail
                        refine wp_shade2 (fun KK hKK => ?_)
                        have HKK : Hid _ := hKK
                        clear hKK
                        go_region_held3 (fun w' => w'.cell? ⟨gi, i, none⟩ = some (.int .i32 si))
                          (first | go_keep | (exact hci3))
                          ((go_at_call 21; refine Calls.mono HC.out ?_; rintro e w3 hr; obtain ⟨o4, k4, c4, SE4, he4, hLB4, hcl4⟩ := HLBq.out.reach ((Below.refl _ _).drew) hr; subst he4; have hci3 : w3.cell? ⟨gi, i, none⟩ = some (.int .i32 si) := (by have := hLB4.ix (show i < (idxA G ab A).length by rw [idxA_len]; exact hil); rw [HSI.out.2.2] at this; exact this)))
                        refine HKK.out _ _ ?_
                        clear HKK KK
                        have hv := HF.out SE4 (bfs + 1) hcl4
                        have ce := hLB4.e.cell (show sj < SE4.length by rw [hLB4.ne]; exact hsj)
                        rw [hv] at ce
                        have cj3 := hLB4.ix (show j < (idxA G ab A).length by rw [idxA_len]; exact hjl)
                        rw [HGJ.out.2.2] at cj3
                        have HD : Hid (InS w1 gi ge G ab A succ i si (bfs + 1) true o4 k4 c4 w3) := ⟨fun h => absurd h (by decide), SE4, hLB4, fun _ => hcl4⟩
                        clear hLB4 hcl4 hr hv HC HLBq ci cj
                        go_wp2_with fail
                        go_roundw
                        case rel => exact ⟨j + 1, bfs + 1, true, o4, k4, c4, by go_num, by go_num, rfl, rfl, by omega, by omega, by omega, HD⟩
                        case measure => simp [intOf]; omega
                      | false =>
                        have hwj : (A.getD j a0).wr = true := by rw [hwi] at hww; simpa using hww
                        rw [hwi] at a2i
                        rw [hwj] at a2j
                        clear hww hwi hwj
                        go_wp2_with fail
                        refine wp_shade2 (fun KK hKK => ?_)
                        have HKK : Hid _ := hKK
                        clear hKK
                        go_region_held3 (fun w' => w'.cell? ⟨gi, i, none⟩ = some (.int .i32 si))
                          (first | go_keep | (exact hci3))
                          ((go_at_call 21; refine Calls.mono HC.out ?_; rintro e w3 hr; obtain ⟨o4, k4, c4, SE4, he4, hLB4, hcl4⟩ := HLBq.out.reach ((Below.refl _ _).drew) hr; subst he4; have hci3 : w3.cell? ⟨gi, i, none⟩ = some (.int .i32 si) := (by have := hLB4.ix (show i < (idxA G ab A).length by rw [idxA_len]; exact hil); rw [HSI.out.2.2] at this; exact this)))
                        refine HKK.out _ _ ?_
                        clear HKK KK
                        have hv := HF.out SE4 (bfs + 1) hcl4
                        have ce := hLB4.e.cell (show sj < SE4.length by rw [hLB4.ne]; exact hsj)
                        rw [hv] at ce
                        have cj3 := hLB4.ix (show j < (idxA G ab A).length by rw [idxA_len]; exact hjl)
                        rw [HGJ.out.2.2] at cj3
                        have HD : Hid (InS w1 gi ge G ab A succ i si (bfs + 1) true o4 k4 c4 w3) := ⟨fun h => absurd h (by decide), SE4, hLB4, fun _ => hcl4⟩
                        clear hLB4 hcl4 hr hv HC HLBq ci cj
                        go_wp2_with fail
                        go_roundw
                        case rel => exact ⟨j + 1, bfs + 1, true, o4, k4, c4, by go_num, by go_num, rfl, rfl, by omega, by omega, by omega, HD⟩
                        case measure => simp [intOf]; omega
                  · have hwi : (A.getD i a0).wr = false := by
                      cases hh : (A.getD i a0).wr
                      · rfl
                      · exact absurd (Or.inl hh) hww
                    have hwj : (A.getD j a0).wr = false := by
                      cases hh : (A.getD j a0).wr
                      · rfl
                      · exact absurd (Or.inr hh) hww
                    rw [hwi] at a2i
                    rw [hwj] at a2j
                    clear hLB hcl hdn hww hwi hwj
                    go_wp2_with fail
                    go_roundw
                    case rel => exact ⟨j + 1, bfs, dn, o2, k2, c2, by go_num, rfl, rfl, rfl, by omega, by omega, hb1, HZ⟩
                    case measure => simp [intOf]; omega
                · have hie1 : ((A.getD j a0).item == (A.getD i a0).item) = false := by simpa using hit
                  have hie2 : decide ((A.getD j a0).item = (A.getD i a0).item) = false := decide_eq_false hit
                  have hie3 : ((A.getD j a0).item != (A.getD i a0).item) = true := by simpa using hit
                  generalize (A.getD i a0).item = xi at a1i hie1 hie2 hie3 hit
                  generalize (A.getD j a0).item = xj at a1j hie1 hie2 hie3 hit
                  clear hLB hcl hx1 hx2 hdn hGj hsj2 a0i a0j a2i a2j
                  subst hoa
                  go_upto_region 67 with fail
                  go_quiet (fail)
                  have HZ : Hid (InS w1 gi ge G ab A succ i si bfs dn o2 k2 c2 (wr.drewN nq)) := by
                    obtain ⟨h0, SE, h1, h2⟩ := HI.out
                    exact ⟨h0, SE, h1.drew (below_drewN (Below.refl _ _) nq), h2⟩
                  clear HI
                  go_wp2_with fail
                  go_roundw
                  case rel => exact ⟨j + 1, bfs, dn, o2, k2, c2, by go_num, rfl, rfl, rfl, by omega, by omega, hb1, HZ⟩
                  case measure => simp [intOf]; omega
          · have hje : j = A.length := by omega
            have HZ : Hid (∃ SE, LB w1 gi ge G.length (idxA G ab A) bfs SE o2 k2 c2 wr) := by
              obtain ⟨_, SE, h, _⟩ := HI.out
              exact ⟨SE, h⟩
            clear HI
            subst hje
            go_wp2_with fail
            go_roundw
            case rel => exact ⟨i + 1, bfs, o2, k2, c2, by go_num, rfl, rfl, by omega, by omega, HZ⟩
            case measure => simp [intOf]; omega
    · have hie : i = A.length := by omega
      obtain ⟨SE, hLB⟩ := HO.out
      have HZ : Hid (Below w0.heap.size w0 wr) := HL.out.b01.trans (hLB.b.mono HL.out.b01.size)
      clear HO hLB
      subst hie
      go_wp2_with fail
      exact l26 _ _ _ _ _ _ _ _ _ _ _ _ _ _ _ _ _ _ _ _ _ _ _ _ _ _ _ _ _ _ _ _ _ _ _ _ _ _ _ _ _ _ _ _ _ _ _ _ _ _ _ _ _ _ _ _ _ _ _ _ _ _ _ _ _ _ _ _ _ _ _ _ _ _ _ _ _ _ _ _ _ _ _ _ _ _ _ _ _ _ _ _ _ _ _ _ _ _ _ _ _ _ _ _ _ _ _ _ _ _ _ _ _ _ _ _ _ _ _ _ _ _ _ _ _ _ _ _ _ _ _ _ _ _ _ _ _ _ _ _ _ _ _ _ _ _ _ _ _ _ _ _ _ _ _ _ _ _ _ _ _ _ _ _ _ _ _ _ _ _ _ _ _ _ _ _ _ _ _ _ _ _ _ _ _ _ _ _ _ _ _ _ _ _ _ _ _ _ _ _ _ _ _ _ _ _ _ _ _ _ _ _ _ _ _ _ _ _ _ _ _ _ _ _ _ _ _ _ _ _ _ _ _ _ _ _ _ _ _ _ _ _ _ _ _ _ _ _ _ _ _ _ _ _ _ _ _ _ _ _ _ _ _ _ _ _ _ _ HZ
end Go.Proofs.Qxb6626314a
