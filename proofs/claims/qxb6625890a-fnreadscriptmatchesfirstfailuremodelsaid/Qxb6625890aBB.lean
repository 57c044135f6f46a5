/-
  Seat b6625890a: the law FnReadScriptMatchesFirstFailureModel: its bound on lengths, its domain.
-/
import Derived.Test.Qxb6625890aBA
import Derived.Test.Qxb6625890aS
namespace Go.Proofs.Qxb6625890a
open Go.RowKit Go.Maps
set_option linter.unusedVariables false

theorem flatS_len (l : List Step) : (flatS l).length = l.length * 8 := flatMap_len scell 8 (fun _ => rfl) l
theorem flatS_at (l : List Step) (i j : Nat) (h : i < l.length) (hj : j < 8) : (flatS l)[i * 8 + j]? = (scell (l.getD i e0))[j]? := flatMap_get scell 8 (fun _ => rfl) e0 l i j h hj
theorem step_cell {w : World} {a : Option Addr} {l : List Step} (h : Sl w a (flatS l)) {k : Nat} (hk : k < l.length) : ∃ b off, a = some ⟨b, off, none⟩ ∧ w.cell? ⟨b, off + k * 8, none⟩ = some (.int .u8 (l.getD k e0).kd) ∧ w.cell? ⟨b, off + k * 8 + 1, none⟩ = some (.int .i64 (l.getD k e0).tx) ∧ w.cell? ⟨b, off + k * 8 + 2, none⟩ = some (.string (l.getD k e0).it) ∧ w.cell? ⟨b, off + k * 8 + 3, none⟩ = some (.int .i64 (l.getD k e0).so) ∧ w.cell? ⟨b, off + k * 8 + 4, none⟩ = some (.bool (l.getD k e0).hs) ∧ w.cell? ⟨b, off + k * 8 + 5, none⟩ = some (.int .i32 (l.getD k e0).t) ∧ w.cell? ⟨b, off + k * 8 + 6, none⟩ = some (.int .i32 (l.getD k e0).item) ∧ w.cell? ⟨b, off + k * 8 + 7, none⟩ = some (.int .i32 (l.getD k e0).src) := by
  have hl := flatS_len l
  obtain ⟨b, off, rfl, hc⟩ := h.at (show k * 8 + 7 < (flatS l).length by omega)
  have key : ∀ j, j < 8 → w.cell? ⟨b, off + k * 8 + j, none⟩ = (scell (l.getD k e0))[j]? := fun j hj => by
    rw [Nat.add_assoc, hc (k * 8 + j) (by omega)]; exact flatS_at l k j hk hj
  exact ⟨b, off, rfl, key 0 (by omega), key 1 (by omega), key 2 (by omega), key 3 (by omega), key 4 (by omega), key 5 (by omega), key 6 (by omega), key 7 (by omega)⟩

set_option maxRecDepth 100000 in
set_option maxHeartbeats 2000000 in
theorem bytes5 (ae : Option Addr) (ce : Nat) (ai : Option Addr) (ci : Nat) (ar : Option Addr) (cr : Nat) (c0 c1 c2 c3 : Bool) (ad : Option Addr) (cd : Nat) (ends : List Int) (items reads : List (Int × Int)) (des : List DEnt) (sa : Option Addr) (sc : Nat) (S : List Step) (probe : Int) (w : World) (hZ : Sl w ad (flatD des)) (hS : Sl w sa (flatS S)) :
    Calls Try.prog 5 #[zst ae ends.length ce ai items.length ci ar reads.length cr c0 c1 c2 c3 ad des.length cd, .slice sa S.length sc, .int .i32 probe] w (AnyB w) := by
  obtain ⟨w2, hw2⟩ : ∃ w2, w2 = w.alloc (.cells #[.slice ae ends.length ce, .slice ai items.length ci, .slice ar reads.length cr, .bool c0, .bool c1, .bool c2, .bool c3, .slice ad des.length cd] 28) := ⟨_, rfl⟩
  have hb : Below w.heap.size w w2 := by rw [hw2]; exact (Below.refl _ _).alloc (Nat.le_refl _) _
  have h1 : w2.heap[w.heap.size]? = some (.cells #[.slice ae ends.length ce, .slice ai items.length ci, .slice ar reads.length cr, .bool c0, .bool c1, .bool c2, .bool c3, .slice ad des.length cd] 28 (0, 0)) := by rw [hw2]; exact heap_alloc_new w _
  have k0 : w2.cell? ⟨w.heap.size, 0, none⟩ = some (.slice ae ends.length ce) := cell_blk h1 rfl
  have k1 : w2.cell? ⟨w.heap.size, 1, none⟩ = some (.slice ai items.length ci) := cell_blk h1 rfl
  have k2 : w2.cell? ⟨w.heap.size, 2, none⟩ = some (.slice ar reads.length cr) := cell_blk h1 rfl
  have k7 : w2.cell? ⟨w.heap.size, 7, none⟩ = some (.slice ad des.length cd) := cell_blk h1 rfl
  have hZ2 := hZ.below hb
  have hS2 := hS.below hb
  have HB : Hid _ := hb
  have HZ : Hid _ := hZ2
  have HS : Hid _ := hS2
  have HW : Hid _ := hw2
  clear hb hZ hZ2 h1 hw2 hS hS2
  go_enter Try.func5, Try.ntmps5
  go_upto_region 1 with fail
  rw [← HW.out]
  clear HW
  go_wp2_with fail
  all_goals try (go_ret; exact ⟨_, rfl, HB.out⟩)
  go_loop [7, 8] (fun z i => ∃ (q : Nat) (m : Int), q ≤ des.length ∧ i = .int .i64 q ∧ z = .int .i64 m) (fun _ i => des.length - (intOf i).toNat)
  case atStart => exact ⟨0, _, Nat.zero_le _, rfl, rfl⟩
  case round =>
    obtain ⟨q, m, hq, rfl, rfl⟩ := hrel
    by_cases hlt : q < des.length
    · obtain ⟨b, off, rfl, c1, _⟩ := des_cell HZ.out hlt
      have hlt' : (q : Int) < (des.length : Int) := by omega
      generalize des.getD q d0 = gd at c1
      clear HZ
      go_wp2_with fail
      all_goals try (go_ret; exact ⟨_, rfl, HB.out⟩)
      go_round
      case rel => exact ⟨q + 1, _, by omega, by go_num, rfl⟩
      case measure => simp [intOf]; omega
    · clear HZ
      go_wp2_with fail
      all_goals try (go_ret; exact ⟨_, rfl, HB.out⟩)
      go_loop [7, 9] (fun z i => ∃ (q : Nat) (m : Int), q ≤ S.length ∧ i = .int .i64 q ∧ z = .int .i64 m) (fun _ i => S.length - (intOf i).toNat)
      case atStart => exact ⟨0, _, Nat.zero_le _, rfl, rfl⟩
      case round =>
        obtain ⟨q, m, hq, rfl, rfl⟩ := hrel
        by_cases hlt : q < S.length
        · obtain ⟨b, off, rfl, _, _, c2, _⟩ := step_cell HS.out hlt
          have hlt' : (q : Int) < (S.length : Int) := by omega
          generalize S.getD q e0 = gd at c2
          clear HS
          go_wp2_with fail
          all_goals try (go_ret; exact ⟨_, rfl, HB.out⟩)
          go_round
          case rel => exact ⟨q + 1, _, by omega, by go_num, rfl⟩
          case measure => simp [intOf]; omega
        · clear HS
          go_wp2_with fail
          all_goals (go_ret; exact ⟨_, rfl, HB.out⟩)

/-- What zzScriptDomain lets by. -/
structure SDom (c0 c1 c2 c3 : Bool) (ends : List Int) (items reads : List (Int × Int)) (des : List DEnt) (S : List Step) : Prop where
  n : S.length ≤ 512
  len : LenOK ends items reads des
  st : StOK c0 c1 c2 c3 ends items reads
  ok : StepsOK items.length S
  s : ∀ i, i < S.length → 0 ≤ (S.getD i e0).src → (S.getD i e0).src ≠ (S.getD i e0).t → (S.getD i e0).src < ends.length
def SDm (w : World) (c0 c1 c2 c3 : Bool) (ends : List Int) (items reads : List (Int × Int)) (des : List DEnt) (S : List Step) (e : Ending) (w' : World) : Prop :=
  ∃ b, e = .returned (.bool b) ∧ Below w.heap.size w w' ∧ (b = true → SDom c0 c1 c2 c3 ends items reads des S)
theorem SDm.no {w w' : World} {c0 c1 c2 c3 : Bool} {ends : List Int} {items reads : List (Int × Int)} {des : List DEnt} {S : List Step} (h : Below w.heap.size w w') : SDm w c0 c1 c2 c3 ends items reads des S (.returned (.bool false)) w' := ⟨_, rfl, h, fun hh => absurd hh (by decide)⟩
/-- The part of the steps that are seen. -/
structure Seen (ends : List Int) (n0 : Nat) (S : List Step) (q : Nat) : Prop where
  ok : ∀ i, i < q → 0 ≤ (S.getD i e0).item ∧ (S.getD i e0).item ≤ clen n0 S i
  s : ∀ i, i < q → 0 ≤ (S.getD i e0).src → (S.getD i e0).src ≠ (S.getD i e0).t → (S.getD i e0).src < ends.length
theorem Seen.zero (ends : List Int) (n0 : Nat) (S : List Step) : Seen ends n0 S 0 := ⟨fun i h => by omega, fun i h => by omega⟩
theorem Seen.succ {ends : List Int} {n0 : Nat} {S : List Step} {q : Nat} (h : Seen ends n0 S q) (h1 : 0 ≤ (S.getD q e0).item ∧ (S.getD q e0).item ≤ clen n0 S q) (h2 : 0 ≤ (S.getD q e0).src → (S.getD q e0).src ≠ (S.getD q e0).t → (S.getD q e0).src < ends.length) : Seen ends n0 S (q + 1) :=
  ⟨fun i hi => (Nat.lt_succ_iff_lt_or_eq.1 hi).elim (h.ok i) (fun e => e ▸ h1), fun i hi => (Nat.lt_succ_iff_lt_or_eq.1 hi).elim (h.s i) (fun e => e ▸ h2)⟩

set_option maxRecDepth 100000 in
set_option maxHeartbeats 4000000 in
theorem scriptDomain_any (ae : Option Addr) (ce : Nat) (ai : Option Addr) (ci : Nat) (ar : Option Addr) (cr : Nat) (c0 c1 c2 c3 : Bool) (ad : Option Addr) (cd : Nat) (ends : List Int) (items reads : List (Int × Int)) (des : List DEnt) (sa : Option Addr) (sc : Nat) (S : List Step) (w : World) (hZ : ZV w ae ai ar ad ends items reads des) (hS : Sl w sa (flatS S)) (hr : ∀ i, i < items.length → I32 (items.getD i (0, 0)).1 ∧ I32 (items.getD i (0, 0)).2) (hi : ∀ i, i < S.length → I32 (S.getD i e0).item ∧ I32 (S.getD i e0).src) :
    Calls Try.prog 6 #[zst ae ends.length ce ai items.length ci ar reads.length cr c0 c1 c2 c3 ad des.length cd, .slice sa S.length sc] w (SDm w c0 c1 c2 c3 ends items reads des S) := by
  obtain ⟨w2, hw2⟩ : ∃ w2, w2 = w.alloc (.cells #[.slice ae ends.length ce, .slice ai items.length ci, .slice ar reads.length cr, .bool c0, .bool c1, .bool c2, .bool c3, .slice ad des.length cd] 28) := ⟨_, rfl⟩
  have hb : Below w.heap.size w w2 := by rw [hw2]; exact (Below.refl _ _).alloc (Nat.le_refl _) _
  have h1 : w2.heap[w.heap.size]? = some (.cells #[.slice ae ends.length ce, .slice ai items.length ci, .slice ar reads.length cr, .bool c0, .bool c1, .bool c2, .bool c3, .slice ad des.length cd] 28 (0, 0)) := by rw [hw2]; exact heap_alloc_new w _
  have k0 : w2.cell? ⟨w.heap.size, 0, none⟩ = some (.slice ae ends.length ce) := cell_blk h1 rfl
  have k1 : w2.cell? ⟨w.heap.size, 1, none⟩ = some (.slice ai items.length ci) := cell_blk h1 rfl
  have k2 : w2.cell? ⟨w.heap.size, 2, none⟩ = some (.slice ar reads.length cr) := cell_blk h1 rfl
  have k3 : w2.cell? ⟨w.heap.size, 3, none⟩ = some (.bool c0) := cell_blk h1 rfl
  have k4 : w2.cell? ⟨w.heap.size, 4, none⟩ = some (.bool c1) := cell_blk h1 rfl
  have k5 : w2.cell? ⟨w.heap.size, 5, none⟩ = some (.bool c2) := cell_blk h1 rfl
  have k6 : w2.cell? ⟨w.heap.size, 6, none⟩ = some (.bool c3) := cell_blk h1 rfl
  have k7 : w2.cell? ⟨w.heap.size, 7, none⟩ = some (.slice ad des.length cd) := cell_blk h1 rfl
  have hZ2 := hZ.below hb
  have hS2 := hS.below hb
  have HB : Hid _ := hb
  have HZ : Hid _ := hZ2
  have HS : Hid _ := hS2
  have HW : Hid _ := hw2
  have HH : Hid _ := h1
  have HRG : Hid _ := hr
  have HIR : Hid _ := hi
  clear hb hZ hZ2 h1 hw2 hr hS hS2 hi
  go_enter Try.func6, Try.ntmps6
  go_upto_region 1 with fail
  rw [← HW.out]
  clear HW
  by_cases hn : (512 : Int) < (S.length : Int)
  · go_wp2_with fail
    go_ret
    exact SDm.no HB.out
  go_wp2_with fail
  refine (stateBytes_any ae ce ai ci ar cr c0 c1 c2 c3 ad cd ends items reads des w2 HZ.out.d).mono ?_
  rintro e w3 ⟨z, rfl, hb3, hz⟩
  have h1 := blk_kept (grown_of_below hb3) HH.out (by simp)
  have m0 : w3.cell? ⟨w.heap.size, 0, none⟩ = some (.slice ae ends.length ce) := cell_blk h1 rfl
  have m1 : w3.cell? ⟨w.heap.size, 1, none⟩ = some (.slice ai items.length ci) := cell_blk h1 rfl
  have m2 : w3.cell? ⟨w.heap.size, 2, none⟩ = some (.slice ar reads.length cr) := cell_blk h1 rfl
  have m3 : w3.cell? ⟨w.heap.size, 3, none⟩ = some (.bool c0) := cell_blk h1 rfl
  have m4 : w3.cell? ⟨w.heap.size, 4, none⟩ = some (.bool c1) := cell_blk h1 rfl
  have m5 : w3.cell? ⟨w.heap.size, 5, none⟩ = some (.bool c2) := cell_blk h1 rfl
  have m6 : w3.cell? ⟨w.heap.size, 6, none⟩ = some (.bool c3) := cell_blk h1 rfl
  have m7 : w3.cell? ⟨w.heap.size, 7, none⟩ = some (.slice ad des.length cd) := cell_blk h1 rfl
  have hbw3 := HB.out.trans (hb3.mono HB.out.size)
  have hZ3 := HZ.out.below hb3
  have hS3 := Sl.below HS.out hb3
  have HZ3 : Hid _ := hZ3
  have HS3 : Hid _ := hS3
  have HB3 : Hid _ := hbw3
  have HH3 : Hid _ := h1
  have HLZ : Hid _ := hz
  clear hb3 hbw3 hZ3 hS3 h1 HZ HB HH HS k0 k1 k2 k3 k4 k5 k6 k7 hz
  by_cases hz : (1048576 : Int) < z
  · go_wp2_with fail
    go_ret
    exact SDm.no HB3.out
  have hln := HLZ.out (by omega)
  have HLN : Hid (LenOK ends items reads des) := ⟨hln.1, hln.2.1, hln.2.2.1, hln.2.2.2.1, hln.2.2.2.2⟩
  obtain ⟨l1, l2, l3, _, _⟩ := hln
  clear HLZ
  go_wp2_with fail
  go_loop [5, 6] (fun z i => ∃ (q : Nat) (m : Int), q ≤ S.length ∧ i = .int .i64 q ∧ z = .int .i64 m) (fun _ i => S.length - (intOf i).toNat)
  case atStart => exact ⟨0, _, Nat.zero_le _, rfl, rfl⟩
  case round =>
    obtain ⟨q, m, hq, rfl, rfl⟩ := hrel
    by_cases hlt : q < S.length
    · obtain ⟨b, off, rfl, _, _, c2, _⟩ := step_cell HS3.out hlt
      have hlt' : (q : Int) < (S.length : Int) := by omega
      generalize S.getD q e0 = gd at c2
      clear HS3 HZ3 HRG HIR HH3
      go_wp2_with fail
      all_goals try (go_ret; exact SDm.no HB3.out)
      go_round
      case rel => exact ⟨q + 1, _, by omega, by go_num, rfl⟩
      case measure => simp [intOf]; omega
    · go_wp2_with fail
      refine (stateOK_any ae ce ai ci ar cr c0 c1 c2 c3 ad cd ends items reads des w3 HZ3.out.i HRG.out l1 l2 l3).mono ?_
      rintro e w4 ⟨b, rfl, hb4, hst⟩
      have h1 := blk_kept (grown_of_below hb4) HH3.out (by simp)
      have p0 : w4.cell? ⟨w.heap.size, 0, none⟩ = some (.slice ae ends.length ce) := cell_blk h1 rfl
      have p1 : w4.cell? ⟨w.heap.size, 1, none⟩ = some (.slice ai items.length ci) := cell_blk h1 rfl
      have p2 : w4.cell? ⟨w.heap.size, 2, none⟩ = some (.slice ar reads.length cr) := cell_blk h1 rfl
      have p3 : w4.cell? ⟨w.heap.size, 3, none⟩ = some (.bool c0) := cell_blk h1 rfl
      have p4 : w4.cell? ⟨w.heap.size, 4, none⟩ = some (.bool c1) := cell_blk h1 rfl
      have p5 : w4.cell? ⟨w.heap.size, 5, none⟩ = some (.bool c2) := cell_blk h1 rfl
      have p6 : w4.cell? ⟨w.heap.size, 6, none⟩ = some (.bool c3) := cell_blk h1 rfl
      have p7 : w4.cell? ⟨w.heap.size, 7, none⟩ = some (.slice ad des.length cd) := cell_blk h1 rfl
      have hbw4 := HB3.out.trans (hb4.mono HB3.out.size)
      have hS4 := Sl.below HS3.out hb4
      have HB4 : Hid _ := hbw4
      have HST : Hid _ := hst
      have HS4 : Hid _ := hS4
      clear hb4 hbw4 h1 HZ3 HB3 HH3 m0 m1 m2 m3 m4 m5 m6 m7 hst HRG hS4 HS3
      cases b with
      | false =>
        go_wp2_with fail
        go_ret
        exact SDm.no HB4.out
      | true =>
        have HSK : Hid _ := HST.out rfl
        clear HST
        go_wp2_with fail
        go_loopw [7, 8] (fun z i wr => ∃ q : Nat, q ≤ S.length ∧ i = .int .i64 q ∧ z = .int .i64 (clen items.length S q) ∧ Hid (Seen ends items.length S q) ∧ Below w4.heap.size w4 wr) (fun _ i _ => S.length - (intOf i).toNat)
        case atStart => exact ⟨0, Nat.zero_le _, rfl, rfl, Seen.zero _ _ _, Below.refl _ _⟩
        case round =>
          obtain ⟨q, hq, rfl, rfl, HSE, hbr⟩ := hrel
          have HBR : Hid _ := HB4.out.trans (hbr.mono HB4.out.size)
          by_cases hlt : q < S.length
          · obtain ⟨b, off, rfl, a0, a1, a2, a3, a4, a5, a6, a7⟩ := step_cell (Sl.below HS4.out hbr) hlt
            have hlt' : (q : Int) < (S.length : Int) := by omega
            have n0 := cell_later hbr p0
            have n1 := cell_later hbr p1
            obtain ⟨⟨i1, i2⟩, ⟨s1, s2⟩⟩ := HIR.out q hlt
            have hcl := clen_le items.length S q
            have hcs : clen items.length S (q + 1) = if (S.getD q e0).item = (clen items.length S q : Int) then clen items.length S q + 1 else clen items.length S q := rfl
            have HCS : Hid _ := hcs
            have HSU : Hid _ := HSE.out.succ (q := q)
            have HRR : Hid (∀ w', Below wr.heap.size wr w' → Below w4.heap.size w4 w') := fun w' hh => hbr.trans (hh.mono hbr.size)
            have hba := (Below.refl wr.heap.size wr).alloc (Nat.le_refl _) (.cells #[.int .u8 (S.getD q e0).kd, .int .i64 (S.getD q e0).tx, .string (S.getD q e0).it, .int .i64 (S.getD q e0).so, .bool (S.getD q e0).hs, .int .i32 (S.getD q e0).t, .int .i32 (S.getD q e0).item, .int .i32 (S.getD q e0).src] 41)
            have n0' := cell_later hba n0
            have HBA : Hid _ := hba
            clear hba hcs HSE hbr HS4 HIR p0 p1 p2 p3 p4 p5 p6 p7
            generalize S.getD q e0 = gd at *
            generalize hcl2 : clen items.length S q = cl at *
            by_cases x0 : gd.item < 0
            · go_wp2_with fail
              go_ret
              exact SDm.no (HBR.out.trans (HBA.out.mono HBR.out.size))
            by_cases x1 : (cl : Int) < gd.item
            · go_wp2_with fail
              go_ret
              exact SDm.no (HBR.out.trans (HBA.out.mono HBR.out.size))
            by_cases x2 : gd.item = (cl : Int)
            · have x3 : (gd.item == (cl : Int)) = true := by simp [x2]
              rw [if_pos x2] at HCS
              clear x2
              by_cases y0 : 0 ≤ gd.src
              · by_cases y1 : gd.src = gd.t
                · have e1 : (gd.src != gd.t) = false := by simp [y1]
                  have HY : Hid _ := y1
                  clear y1
                  go_wp2_with fail
                  go_roundw
                  case rel => exact ⟨q + 1, by omega, by go_num, by rw [HCS.out]; try go_num, HSU.out ⟨by omega, by omega⟩ (fun _ h => absurd HY.out h), HRR.out _ HBA.out⟩
                  case measure => simp [intOf]; omega
                · have e1 : (gd.src != gd.t) = true := by simp [y1]
                  clear y1
                  by_cases y2 : (ends.length : Int) ≤ gd.src
                  · go_wp2_with fail
                    go_ret
                    exact SDm.no (HBR.out.trans (HBA.out.mono HBR.out.size))
                  · go_wp2_with fail
                    go_roundw
                    case rel => exact ⟨q + 1, by omega, by go_num, by rw [HCS.out]; try go_num, HSU.out ⟨by omega, by omega⟩ (fun _ _ => by omega), HRR.out _ HBA.out⟩
                    case measure => simp [intOf]; omega
              · go_wp2_with fail
                go_roundw
                case rel => exact ⟨q + 1, by omega, by go_num, by rw [HCS.out]; try go_num, HSU.out ⟨by omega, by omega⟩ (fun h _ => by omega), HRR.out _ HBA.out⟩
                case measure => simp [intOf]; omega
            · have x3 : (gd.item == (cl : Int)) = false := by simp [x2]
              rw [if_neg x2] at HCS
              clear x2
              by_cases y0 : 0 ≤ gd.src
              · by_cases y1 : gd.src = gd.t
                · have e1 : (gd.src != gd.t) = false := by simp [y1]
                  have HY : Hid _ := y1
                  clear y1
                  go_wp2_with fail
                  go_roundw
                  case rel => exact ⟨q + 1, by omega, by go_num, by rw [HCS.out]; try go_num, HSU.out ⟨by omega, by omega⟩ (fun _ h => absurd HY.out h), HRR.out _ HBA.out⟩
                  case measure => simp [intOf]; omega
                · have e1 : (gd.src != gd.t) = true := by simp [y1]
                  clear y1
                  by_cases y2 : (ends.length : Int) ≤ gd.src
                  · go_wp2_with fail
                    go_ret
                    exact SDm.no (HBR.out.trans (HBA.out.mono HBR.out.size))
                  · go_wp2_with fail
                    go_roundw
                    case rel => exact ⟨q + 1, by omega, by go_num, by rw [HCS.out]; try go_num, HSU.out ⟨by omega, by omega⟩ (fun _ _ => by omega), HRR.out _ HBA.out⟩
                    case measure => simp [intOf]; omega
              · go_wp2_with fail
                go_roundw
                case rel => exact ⟨q + 1, by omega, by go_num, by rw [HCS.out]; try go_num, HSU.out ⟨by omega, by omega⟩ (fun h _ => by omega), HRR.out _ HBA.out⟩
                case measure => simp [intOf]; omega
          · obtain rfl : q = S.length := by omega
            go_wp2_with fail
            go_ret
            exact ⟨_, rfl, HBR.out, fun _ => ⟨by omega, HLN.out, HSK.out, HSE.out.ok, HSE.out.s⟩⟩

end Go.Proofs.Qxb6625890a
