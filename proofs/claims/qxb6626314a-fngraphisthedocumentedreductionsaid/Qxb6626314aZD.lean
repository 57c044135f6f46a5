/-
  Seat b6626314a: zzReach.
-/
import Derived.Test.Qxb6626314aZC
namespace Go.Proofs.Qxb6626314a
open Go.RowKit Go.Maps Go.Sort
set_option linter.unusedVariables false
set_option linter.unusedSimpArgs false
theorem countP_put (s : Int) : ∀ (l : List Int) (v : Nat), v < l.length → l.getD v 0 ≠ s → (l.set v s).countP (fun x => decide (x = s)) = l.countP (fun x => decide (x = s)) + 1
  | [], v, h, _ => absurd h (by simp)
  | x :: l, 0, _, hx => by
    have : x ≠ s := by simpa using hx
    simp [this]
  | x :: l, v + 1, h, hx => by
    have ih := countP_put s l v (by simpa using h) (by simpa using hx)
    simp only [List.set_cons_succ, List.countP_cons]
    omega
/-- The rows of the successors, as they lay in the world w1. -/
def SuV (w1 : World) (gs n : Nat) (succ : Nat → List Int) : Prop :=
  ∀ u, u < n → (∃ o c, w1.cell? ⟨gs, u, none⟩ = some (.slice o (succ u).length c) ∧ Sl w1 o (ints (succ u))) ∧ (succ u).length ≤ 100000000 ∧ ∀ v ∈ succ u, IsIx n v
/-- Nodes seen so far. -/
structure RS (w1 : World) (ge n : Nat) (s : Int) (SE : List Int) (vq : Value) (qs : List Int) (w : World) : Prop where
  e : BI w ge SE
  q : w.ownsRow w1.heap.size 21 1 vq qs.length (ints qs)
  le : w1.heap.size ≤ ge
  ne : SE.length = n
  b : Below w1.heap.size w1 w
  lq : Lq SE s
  mq : ∀ u ∈ qs, IsIx n u ∧ SE.getD u.toNat 0 = s
  bk : ∀ u : Nat, u < n → SE.getD u 0 = s → (u : Int) ∈ qs
  ct : SE.countP (fun x => decide (x = s)) = qs.length
theorem RS.len {w1 : World} {ge n : Nat} {s : Int} {SE : List Int} {vq : Value} {qs : List Int} {w : World} (h : RS w1 ge n s SE vq qs w) : qs.length ≤ n := by
  rw [← h.ct, ← h.ne]; exact List.countP_le_length
/-- A node is marked and put into the queue: a is the world with the new element laid. -/
theorem RS.put {w1 : World} {ge n : Nat} {s : Int} {SE : List Int} {vq : Value} {qs : List Int} {w wa w2 : World} (h : RS w1 ge n s SE vq qs w) {v : Nat} (hv : v < n) (hne : SE.getD v 0 ≠ s) (hb : Below (w.setCell ⟨ge, v, none⟩ (.int .i64 s)).heap.size (w.setCell ⟨ge, v, none⟩ (.int .i64 s)) wa) {v' : Value} (ho : w2.ownsRow w1.heap.size 21 1 v' (qs.length + 1) (ints qs ++ [.int .i32 v])) (hg : wa.grownBy w2 vq.ownBlock) :
    RS w1 ge n s (SE.set v s) v' (qs ++ [(v : Int)]) w2 := by
  have hq0 : (w.setCell ⟨ge, v, none⟩ (.int .i64 s)).ownsRow w1.heap.size 21 1 vq qs.length (ints qs) := row_kept h.q (grown_setCell (w := w) ge v (.int .i64 s)) (fun g hv => by
    obtain ⟨_, c, hc⟩ := row_tag h.q g hv
    simpa using ne_of_tag hc h.e (by decide))
  have he0 := h.e.put v s
  have hqa := row_below hq0 hb
  have hea := he0.below hb
  have hba : Below w1.heap.size w1 wa := (h.b.setCell h.le _).trans (hb.mono (by have := h.b.size; simp; omega))
  have hsz : w1.heap.size ≤ wa.heap.size := hba.size
  refine ⟨blk_kept hg hea (fun e => ?_), ?_, h.le, by simp [h.ne], hba.trans ⟨hg.os, hg.tape, hg.output, hg.size, fun k hk => hg.block k (by omega) (fun e => ?_)⟩, h.lq.set v, fun u hu => ?_, fun u hu hs => ?_, ?_⟩
  · obtain ⟨_, c, hc⟩ := row_tag hqa ge e.symm
    exact ne_of_tag hea hc (by decide) rfl
  · have e1 : ints (qs ++ [(v : Int)]) = ints qs ++ [.int .i32 v] := by simp [ints]
    rw [e1, List.length_append]; exact ho
  · have := (row_tag hqa k e.symm).1; omega
  · rcases List.mem_append.1 hu with hu | hu
    · exact ⟨(h.mq u hu).1, getD_set_le _ _ _ _ (h.mq u hu).2⟩
    · simp at hu
      subst hu
      exact ⟨⟨v, rfl, hv⟩, by simp [h.ne, hv]⟩
  · by_cases e : u = v
    · subst e; simp
    · exact List.mem_append_left _ (h.bk u hu (by simpa [Ne.symm e] using hs))
  · rw [countP_put s SE v (by rw [h.ne]; exact hv) hne, h.ct]; simp
theorem RS.below {w1 : World} {ge n : Nat} {s : Int} {SE : List Int} {vq : Value} {qs : List Int} {w w' : World} (h : RS w1 ge n s SE vq qs w) (hb : Below w.heap.size w w') : RS w1 ge n s SE vq qs w' :=
  ⟨h.e.below hb, row_below h.q hb, h.le, h.ne, h.b.trans (hb.mono h.b.size), h.lq, h.mq, h.bk, h.ct⟩
/-- Node number i of the queue is done. -/
def Dn (succ : Nat → List Int) (s : Int) (SE : List Int) (u : Int) : Prop := ∀ v ∈ succ u.toNat, SE.getD v.toNat 0 = s
theorem Dn.set {succ : Nat → List Int} {s : Int} {SE : List Int} {u : Int} (h : Dn succ s SE u) (v : Nat) : Dn succ s (SE.set v s) u := fun x hx => getD_set_le _ _ _ _ (h x hx)
/-- What zzReach answers. -/
def ReachP (w1 : World) (ge n : Nat) (succ : Nat → List Int) (s : Int) (src : Nat) (vq : Value) (w : World) (e : Ending) (w' : World) : Prop :=
  ∃ o k c SE qs, e = .returned (.slice o k c) ∧ RS w1 ge n s SE (.slice o k c) qs w' ∧ SE.getD src 0 = s ∧ (∀ u : Nat, u < n → SE.getD u 0 = s → Dn succ s SE u) ∧
    KeepF (fun k => k = ge ∨ vq.ownBlock = some k) w w' ∧ (∀ g, (Value.slice o k c).ownBlock = some g → vq.ownBlock = some g ∨ w.heap.size ≤ g)
/-- What else is as it was. -/
structure KQ (ge : Nat) (vq0 : Value) (w0 : World) (vq : Value) (w : World) : Prop where
  k : KeepF (fun k => k = ge ∨ vq0.ownBlock = some k) w0 w
  l : ∀ g, vq.ownBlock = some g → vq0.ownBlock = some g ∨ w0.heap.size ≤ g
theorem KQ.put {ge : Nat} {vq0 : Value} {w0 : World} {vq : Value} {w wa w2 : World} {v : Nat} {x : Value} {v' : Value} (h : KQ ge vq0 w0 vq w) (hb : Below (w.setCell ⟨ge, v, none⟩ x).heap.size (w.setCell ⟨ge, v, none⟩ x) wa) (hg : wa.grownBy w2 vq.ownBlock) (hloc : v'.ownBlock = vq.ownBlock ∨ v'.ownBlock = some wa.heap.size) : KQ ge vq0 w0 v' w2 := by
  have k1 : KeepF (fun k => k = ge ∨ vq0.ownBlock = some k) w0 (w.setCell ⟨ge, v, none⟩ x) := h.k.setCell x (Or.inl rfl)
  have k2 : KeepF (fun k => k = ge ∨ vq0.ownBlock = some k) w0 wa := k1.trans (KeepF.of_below hb)
  refine ⟨⟨hg.os.trans k2.os, hg.tape.trans k2.tape, hg.output.trans k2.output, Nat.le_trans k2.size hg.size, fun k hk hn => (hg.block k (Nat.lt_of_lt_of_le hk k2.size) (fun e => ?_)).trans (k2.block k hk hn)⟩, fun g hg' => ?_⟩
  · rcases h.l k e.symm with a | a
    · exact hn (Or.inr a)
    · omega
  · rcases hloc with e | e
    · rw [e] at hg'; exact h.l g hg'
    · rw [e] at hg'
      have := k2.size
      right
      have : wa.heap.size = g := by simpa using hg'
      omega
theorem qs_shape {w1 : World} {ge n : Nat} {s : Int} {SE : List Int} {o : Option Addr} {k c : Nat} {qs : List Int} {w : World} (h : RS w1 ge n s SE (.slice o k c) qs w) : k = qs.length := by
  obtain ⟨ox, cx, hx⟩ := row_shape h.q
  simp at hx
  exact hx.2.1
set_option maxRecDepth 100000 in
set_option maxHeartbeats 4000000 in
theorem reach_any {w1 w : World} {gs ge n c src : Nat} {o : Option Addr} {succ : Nat → List Int} {s : Int} {SE : List Int} (hS : SuV w1 gs n succ) (he : BI w ge SE) (hle : w1.heap.size ≤ ge) (hne : SE.length = n) (hlq : Lq SE (s - 1)) (hq : w.ownsRow w1.heap.size 21 1 (.slice o 0 c) 0 []) (hb : Below w1.heap.size w1 w) (hsrc : src < n) (hn : n ≤ 12288) :
    Calls Try.prog 21 #[.slice (some ⟨gs, 0, none⟩) n n, .int .i32 src, .slice (some ⟨ge, 0, none⟩) n n, .int .i64 s, .slice o 0 c] w (ReachP w1 ge n succ s src (.slice o 0 c) w) := by
  obtain ⟨i0, hi0, hz0, hz1, hz2⟩ := info_parts Try.info21
  have HS : Hid (SuV w1 gs n succ) := hS
  have hcs : SE.getD src 0 ≠ s := by have := hlq src (by omega); omega
  have hrs : RS w1 ge n s SE (.slice o 0 c) [] w := ⟨he, hq, hle, hne, hb, fun k hk => by have := hlq k hk; omega, fun u hu => absurd hu (by simp), fun u hu hs => by have := hlq u (by omega); omega, by
    rw [List.countP_eq_zero.2]
    · rfl
    · intro x hx
      obtain ⟨k, hk, e⟩ := mem_getD (d := 0) hx
      have := hlq k hk
      simp; omega⟩
  have c0 := he.cell (show src < SE.length by omega)
  have f0 := frz_blk he src
  have hsrc' : (src : Int) < (n : Int) := by omega
  have hlt : ge < w.heap.size := he.lt
  obtain ⟨wS, hwS⟩ : ∃ wS, wS = w.setCell ⟨ge, src, none⟩ (.int .i64 s) := ⟨_, rfl⟩
  have hb1 : Below wS.heap.size wS (wS.alloc (.cells #[.int .i32 src] 21)) := (Below.refl _ _).alloc (Nat.le_refl _) _
  have hqS : wS.ownsRow w1.heap.size 21 1 (.slice o 0 c) 0 [] := by
    rw [hwS]
    exact row_kept hq (grown_setCell (w := w) ge src (.int .i64 s)) (fun g hv => by
      obtain ⟨_, c, hc⟩ := row_tag hq g hv
      simpa using ne_of_tag hc he (by decide))
  have hszS : w1.heap.size ≤ wS.heap.size := by rw [hwS]; have := hb.size; simp; omega
  have q3 : w1.heap.size ≤ (wS.alloc (.cells #[.int .i32 src] 21)).heap.size := Nat.le_trans hszS hb1.size
  have HQa : Hid ((wS.alloc (.cells #[.int .i32 src] 21)).ownsRow w1.heap.size 21 1 (.slice o 0 c) 0 []) := row_below hqS hb1
  have HNW : Hid (∀ j u, [Value.int .i32 src][j]? = some u → (wS.alloc (.cells #[.int .i32 src] 21)).cell? ((⟨wS.heap.size, 0, none⟩ : Addr).add j) = some u) := World.news_of_block (w := wS.alloc (.cells #[.int .i32 src] 21)) (cs := #[.int .i32 src]) (t := 21) (fr := (0, 0)) (heap_alloc_new wS _)
  have q1 : 0 + 1 ≤ maxLen := by unfold maxLen; omega
  have q2 : (0 + 1) * 4 ≤ 140737488355328 := by omega
  have HRS : Hid _ := hrs
  have HB1 : Hid _ := hb1
  have HWS : Hid _ := hwS
  have HCS : Hid _ := hcs
  generalize hgx : SE.getD src 0 = x0 at c0
  clear hS he hlq hq hb hrs hb1 hqS hwS hcs hgx hne
  go_enter Try.func21, Try.ntmps21
  go_upto_region 2 with fail
  rw [← HWS.out]
  go_wp2_with (at_builtin; go_must (refine wpList_append_own_at _ rfl _ _ 44 rfl w1.heap.size 21 i0 (.int .i32 0) 1 4 Try.underlying44 hi0 hz0 hz1 hz2 rfl Nat.zero_lt_one (.slice o 0 c) 0 [] rfl HQa.out ⟨wS.heap.size, 0, none⟩ 1 1 [.int .i32 src] rfl rfl HNW.out (ints_one src) q1 q2 q3 ?_; intro v' w5 hown5 hgrow5 hnil5 hloc5; obtain ⟨o5, cp5, hv5⟩ := row_shape hown5; subst hv5))
  have hR5 : RS w1 ge n s (SE.set src s) (.slice o5 (0 + 1) cp5) ([] ++ [(src : Int)]) w5 := HRS.out.put hsrc HCS.out (by rw [← HWS.out]; exact HB1.out) hown5 hgrow5
  have hK5 : KQ ge (.slice o 0 c) w (.slice o5 (0 + 1) cp5) w5 := KQ.put (vq := .slice o 0 c) ⟨KeepF.refl _ _, fun g hg => Or.inl hg⟩ (by rw [← HWS.out]; exact HB1.out) hgrow5 hloc5
  have H0 : Hid (∃ SE qs, RS w1 ge n s SE (.slice o5 1 cp5) qs w5 ∧ SE.getD src 0 = s ∧ (∀ i, i < 0 → Dn succ s SE (qs.getD i 0)) ∧ KQ ge (.slice o 0 c) w (.slice o5 1 cp5) w5) :=
    ⟨SE.set src s, _, hR5, by have := HRS.out.ne; simp [this, hsrc], fun i hi => absurd hi (by omega), hK5⟩
  clear hR5 hK5 hown5 hgrow5 hnil5 hloc5 HRS HB1 HWS HCS HQa HNW c0 f0 q1 q2 q3 hszS hlt
  go_loopw [4, 11] (fun v4 vh wr => ∃ (h : Nat) (o' : Option Addr) (k c' : Nat), v4 = .slice o' k c' ∧ vh = .int .i64 h ∧ h ≤ k ∧ k ≤ n ∧ Hid (∃ SE qs, RS w1 ge n s SE (.slice o' k c') qs wr ∧ SE.getD src 0 = s ∧ (∀ i, i < h → Dn succ s SE (qs.getD i 0)) ∧ KQ ge (.slice o 0 c) w (.slice o' k c') wr)) (fun _ vh _ => n - (intOf vh).toNat)
  case atStart => exact ⟨0, o5, 1, cp5, by simp, rfl, Nat.zero_le _, by omega, H0⟩
  case round =>
    clear H0
    obtain ⟨h, o2, k, c2, rfl, rfl, hhk, hkn, HO⟩ := hrel
    by_cases hlt : h < k
    · have hlt' : (h : Int) < (k : Int) := by omega
      obtain ⟨SE, qs, hR, hs, hd, hK⟩ := HO.out
      have hkq := qs_shape hR
      have hlq : h < qs.length := by omega
      have hq3 := hR.q
      rw [← hkq] at hq3
      obtain ⟨b, off, ho2, cq⟩ := i32_cell (sl_of_row hq3) hlq
      clear hq3
      obtain ⟨⟨u, hu, hun⟩, hus⟩ := hR.mq (qs.getD h 0) (getD_mem 0 hlq)
      obtain ⟨⟨os, cs, s1, s2⟩, s3, s4⟩ := HS.out u hun
      have cS := cell_later hR.b s1
      rw [hu] at cq
      have hun' : (u : Int) < (n : Int) := by omega
      have HSU : Hid (Sl w1 os (ints (succ u)) ∧ (succ u).length ≤ 100000000 ∧ ∀ v ∈ succ u, IsIx n v) := ⟨s2, s3, s4⟩
      have H1 : Hid (∃ SE qs, RS w1 ge n s SE (.slice o2 k c2) qs wr ∧ SE.getD src 0 = s ∧ (∀ i, i < h → Dn succ s SE (qs.getD i 0)) ∧ KQ ge (.slice o 0 c) w (.slice o2 k c2) wr ∧ h < qs.length ∧ qs.getD h 0 = u ∧ ∀ i, i < 0 → SE.getD ((succ u).getD i 0).toNat 0 = s) := ⟨SE, qs, hR, hs, hd, hK, hlq, hu, fun i hi => absurd hi (by omega)⟩
      clear HO hR hs hd hK hkq hlq hu hus s1 s2 s3 s4
      subst ho2
      go_wp2_with fail
      go_loopw [4, 36] (fun v4 vi wr => ∃ (i : Nat) (o' : Option Addr) (k c' : Nat), v4 = .slice o' k c' ∧ vi = .int .i64 i ∧ i ≤ (succ u).length ∧ h < k ∧ k ≤ n ∧ Hid (∃ SE qs, RS w1 ge n s SE (.slice o' k c') qs wr ∧ SE.getD src 0 = s ∧ (∀ i, i < h → Dn succ s SE (qs.getD i 0)) ∧ KQ ge (.slice o 0 c) w (.slice o' k c') wr ∧ h < qs.length ∧ qs.getD h 0 = u ∧ ∀ j, j < i → SE.getD ((succ u).getD j 0).toNat 0 = s)) (fun _ vi _ => (succ u).length - (intOf vi).toNat)
      case atStart => exact ⟨0, _, k, c2, rfl, rfl, Nat.zero_le _, hlt, hkn, H1⟩
      case round =>
        clear H1 cq cS
        obtain ⟨i, o3, k3, c3, rfl, rfl, hi, hhk3, hkn3, HI⟩ := hrel
        obtain ⟨SE, qs, hR, hs, hd, hK, hlq, hu, hj⟩ := HI.out
        have hkq := qs_shape hR
        have hul : (succ u).length ≤ 100000000 := HSU.out.2.1
        by_cases hil : i < (succ u).length
        · have hil' : (i : Int) < ((succ u).length : Int) := by omega
          obtain ⟨b3, off3, hos, cv⟩ := i32_cell (HSU.out.1.below hR.b) hil
          obtain ⟨v, hv, hvn⟩ := HSU.out.2.2 _ (getD_mem 0 hil)
          rw [hv] at cv
          have hvn' : (v : Int) < (n : Int) := by omega
          have ce := hR.e.cell (show v < SE.length by rw [hR.ne]; exact hvn)
          have fe := frz_blk hR.e v
          by_cases hsv : SE.getD v 0 = s
          · have HZ : Hid (∃ SE qs, RS w1 ge n s SE (.slice o3 k3 c3) qs wr ∧ SE.getD src 0 = s ∧ (∀ i, i < h → Dn succ s SE (qs.getD i 0)) ∧ KQ ge (.slice o 0 c) w (.slice o3 k3 c3) wr ∧ h < qs.length ∧ qs.getD h 0 = u ∧ ∀ j, j < i + 1 → SE.getD ((succ u).getD j 0).toNat 0 = s) := ⟨SE, qs, hR, hs, hd, hK, hlq, hu, fun j hj' => by
              by_cases e : j = i
              · subst e; rw [hv]; exact hsv
              · exact hj j (by omega)⟩
            rw [hsv] at ce
            clear HI hR hs hd hK hlq hu hj hkq hsv hv
            subst hos
            go_wp2_with fail
            go_roundw
            case rel => exact ⟨i + 1, o3, k3, c3, rfl, by go_num, by omega, hhk3, hkn3, HZ⟩
            case measure => simp [intOf]; omega
          · obtain ⟨wS, hwS⟩ : ∃ wS, wS = wr.setCell ⟨ge, v, none⟩ (.int .i64 s) := ⟨_, rfl⟩
            have hb1 : Below wS.heap.size wS (wS.alloc (.cells #[.int .i32 v] 21)) := (Below.refl _ _).alloc (Nat.le_refl _) _
            have hqS : wS.ownsRow w1.heap.size 21 1 (.slice o3 k3 c3) k3 (ints qs) := by
              rw [hwS]
              have hq3 := hR.q
              rw [← hkq] at hq3
              exact row_kept hq3 (grown_setCell (w := wr) ge v (.int .i64 s)) (fun g hv => by
                obtain ⟨_, c, hc⟩ := row_tag hq3 g hv
                simpa using ne_of_tag hc hR.e (by decide))
            have hszS : w1.heap.size ≤ wS.heap.size := by rw [hwS]; have := hR.b.size; simp; omega
            have q3 : w1.heap.size ≤ (wS.alloc (.cells #[.int .i32 v] 21)).heap.size := Nat.le_trans hszS hb1.size
            have HQa : Hid ((wS.alloc (.cells #[.int .i32 v] 21)).ownsRow w1.heap.size 21 1 (.slice o3 k3 c3) k3 (ints qs)) := row_below hqS hb1
            have HNW : Hid (∀ j u, [Value.int .i32 v][j]? = some u → (wS.alloc (.cells #[.int .i32 v] 21)).cell? ((⟨wS.heap.size, 0, none⟩ : Addr).add j) = some u) := World.news_of_block (w := wS.alloc (.cells #[.int .i32 v] 21)) (cs := #[.int .i32 v]) (t := 21) (fr := (0, 0)) (heap_alloc_new wS _)
            have q1 : k3 + 1 ≤ maxLen := by unfold maxLen; omega
            have q2 : (k3 + 1) * 4 ≤ 140737488355328 := by omega
            have HB1 : Hid _ := hb1
            have HWS : Hid _ := hwS
            have HALL : Hid (RS w1 ge n s SE (.slice o3 k3 c3) qs wr ∧ SE.getD src 0 = s ∧ (∀ i, i < h → Dn succ s SE (qs.getD i 0)) ∧ KQ ge (.slice o 0 c) w (.slice o3 k3 c3) wr ∧ h < qs.length ∧ qs.getD h 0 = u ∧ (∀ j, j < i → SE.getD ((succ u).getD j 0).toNat 0 = s) ∧ (succ u).getD i 0 = v ∧ SE.getD v 0 ≠ s ∧ k3 = qs.length) := ⟨hR, hs, hd, hK, hlq, hu, hj, hv, hsv, hkq⟩
            have hxs : (SE.getD v 0 == s) = false := by simpa using hsv
            generalize SE.getD v 0 = x0 at ce hsv hxs
            clear HI hR hs hd hK hlq hu hj hb1 hqS hwS hv hkq
            subst hos
            go_upto_region 11 with fail
            rw [← HWS.out]
            go_wp2_with (at_builtin; go_must (refine wpList_append_own_at _ rfl _ _ 44 rfl w1.heap.size 21 i0 (.int .i32 0) 1 4 Try.underlying44 hi0 hz0 hz1 hz2 rfl Nat.zero_lt_one (.slice o3 k3 c3) k3 (ints qs) rfl HQa.out ⟨wS.heap.size, 0, none⟩ 1 1 [.int .i32 v] rfl rfl HNW.out (ints_one v) q1 q2 q3 ?_; intro v' w5 hown5 hgrow5 hnil5 hloc5; obtain ⟨o6, cp6, hv6⟩ := row_shape hown5; subst hv6))
            have HZ : Hid (∃ SE qs, RS w1 ge n s SE (.slice o6 (k3 + 1) cp6) qs w5 ∧ SE.getD src 0 = s ∧ (∀ i, i < h → Dn succ s SE (qs.getD i 0)) ∧ KQ ge (.slice o 0 c) w (.slice o6 (k3 + 1) cp6) w5 ∧ h < qs.length ∧ qs.getD h 0 = u ∧ ∀ j, j < i + 1 → SE.getD ((succ u).getD j 0).toNat 0 = s) := by
              obtain ⟨hR, hs, hd, hK, hlq, hu, hj, hv, hsv, hkq⟩ := HALL.out
              refine ⟨SE.set v s, qs ++ [(v : Int)], hR.put hvn hsv (by rw [← HWS.out]; exact HB1.out) (by rw [← hkq]; exact hown5) hgrow5, getD_set_le _ _ _ _ hs, fun i' hi' => ?_, KQ.put hK (by rw [← HWS.out]; exact HB1.out) hgrow5 hloc5, by rw [List.length_append]; omega, ?_, fun j hj' => ?_⟩
              · have e : (qs ++ [(v : Int)]).getD i' 0 = qs.getD i' 0 := by simp [List.getD_eq_getElem?_getD, List.getElem?_append_left (show i' < qs.length by omega)]
                rw [e]; exact (hd i' hi').set v
              · have e : (qs ++ [(v : Int)]).getD h 0 = qs.getD h 0 := by simp [List.getD_eq_getElem?_getD, List.getElem?_append_left hlq]
                rw [e]; exact hu
              · by_cases e : j = i
                · subst e; rw [hv]; simp [hR.ne, hvn]
                · exact getD_set_le _ _ _ _ (hj j (by omega))
            have hk4 : k3 + 1 ≤ n := by
              obtain ⟨SE, qs, hR, _⟩ := HZ.out
              have h1 := hR.len
              have h2 := qs_shape hR
              omega
            clear hown5 hgrow5 hnil5 hloc5 HALL HB1 HWS HQa HNW q1 q2 q3 hszS
            go_wp2_with fail
            go_roundw
            case rel => exact ⟨i + 1, o6, k3 + 1, cp6, rfl, by go_num, by omega, by omega, hk4, HZ⟩
            case measure => simp [intOf]; omega
        · have hie : i = (succ u).length := by omega
          have HZ : Hid (∃ SE qs, RS w1 ge n s SE (.slice o3 k3 c3) qs wr ∧ SE.getD src 0 = s ∧ (∀ i, i < h + 1 → Dn succ s SE (qs.getD i 0)) ∧ KQ ge (.slice o 0 c) w (.slice o3 k3 c3) wr) := ⟨SE, qs, hR, hs, fun i' hi' => by
            by_cases e : i' = h
            · subst e
              rw [hu]
              intro x hx
              obtain ⟨j, hj1, hj2⟩ := mem_getD (d := 0) (show x ∈ succ u by simpa using hx)
              rw [← hj2]; exact hj j (by omega)
            · exact hd i' (by omega), hK⟩
          clear HI hR hs hd hK hlq hu hj hkq
          subst hie
          go_wp2_with fail
          go_roundw
          case rel => exact ⟨h + 1, o3, k3, c3, rfl, by go_num, by omega, hkn3, HZ⟩
          case measure => simp [intOf]; omega
    · have hhe : h = k := by omega
      obtain ⟨SE, qs, hR, hs, hd, hK⟩ := HO.out
      have HZ : Hid (ReachP w1 ge n succ s src (.slice o 0 c) w (.returned (.slice o2 k c2)) wr) := ⟨o2, k, c2, SE, qs, rfl, hR, hs, fun u hu hsu => by
        obtain ⟨i, hi, e⟩ := mem_getD (d := 0) (hR.bk u hu hsu)
        rw [← e]; exact hd i (by have := qs_shape hR; omega), hK.k, hK.l⟩
      clear HO hR hs hd hK
      subst hhe
      go_wp2_with fail
      go_ret
      exact HZ.out
end Go.Proofs.Qxb6626314a
