/-
  Seat b6625890a: the guards: zzBytes, zzStateBytes, zzStateOK, zzReadDomain; zzIsAppend, zzHistOp, zzSameOp.
-/
import Derived.Test.Qxb6625890aN
namespace Go.Proofs.Qxb6625890a
open Go.RowKit Go.Maps
set_option linter.unusedVariables false

theorem des_cell {w : World} {ad : Option Addr} {des : List DEnt} (h : Sl w ad (flatD des)) {k : Nat} (hk : k < des.length) : ∃ b off, ad = some ⟨b, off, none⟩ ∧ w.cell? ⟨b, off + k * 2 + 1, none⟩ = some (.slice (des.getD k d0).ad (des.getD k d0).zs.length (des.getD k d0).cap) ∧ w.cell? ⟨b, off + k * 2, none⟩ = some (.int .i32 (des.getD k d0).key) := by
  have hl := flatD_len des
  obtain ⟨b, off, rfl, hc⟩ := h.at (show k * 2 + 1 < (flatD des).length by omega)
  exact ⟨b, off, rfl, by rw [Nat.add_assoc, hc (k * 2 + 1) (by omega)]; exact flatD_val des k hk, by rw [hc (k * 2) (by omega)]; exact flatD_key des k hk⟩
/-- Some truth value; nothing that was there has turned. -/
def AnyB (w : World) (e : Ending) (w' : World) : Prop := ∃ b, e = .returned (.bool b) ∧ Below w.heap.size w w'

set_option maxRecDepth 100000 in
set_option maxHeartbeats 2000000 in
theorem bytes18 (ae : Option Addr) (ce : Nat) (ai : Option Addr) (ci : Nat) (ar : Option Addr) (cr : Nat) (c0 c1 c2 c3 : Bool) (ad : Option Addr) (cd : Nat) (ends : List Int) (items reads : List (Int × Int)) (des : List DEnt) (kd tx : Int) (it : ByteArray) (so : Int) (hs : Bool) (t item src probe : Int) (w : World) (hZ : Sl w ad (flatD des)) :
    Calls Try.prog 18 #[zst ae ends.length ce ai items.length ci ar reads.length cr c0 c1 c2 c3 ad des.length cd, .agg #[.int .u8 kd, .int .i64 tx, .string it, .int .i64 so, .bool hs], .int .i32 t, .int .i32 item, .int .i32 src, .int .i32 probe] w (AnyB w) := by
  obtain ⟨w2, hw2⟩ : ∃ w2, w2 = (w.alloc (.cells #[.slice ae ends.length ce, .slice ai items.length ci, .slice ar reads.length cr, .bool c0, .bool c1, .bool c2, .bool c3, .slice ad des.length cd] 28)).alloc (.cells #[.int .u8 kd, .int .i64 tx, .string it, .int .i64 so, .bool hs] 39) := ⟨_, rfl⟩
  have hb : Below w.heap.size w w2 := by rw [hw2]; exact ((Below.refl _ _).alloc (Nat.le_refl _) _).alloc (by simp) _
  have h1 : w2.heap[w.heap.size]? = some (.cells #[.slice ae ends.length ce, .slice ai items.length ci, .slice ar reads.length cr, .bool c0, .bool c1, .bool c2, .bool c3, .slice ad des.length cd] 28 (0, 0)) := by
    have b2 : Below (w.alloc (.cells #[.slice ae ends.length ce, .slice ai items.length ci, .slice ar reads.length cr, .bool c0, .bool c1, .bool c2, .bool c3, .slice ad des.length cd] 28)).heap.size (w.alloc (.cells #[.slice ae ends.length ce, .slice ai items.length ci, .slice ar reads.length cr, .bool c0, .bool c1, .bool c2, .bool c3, .slice ad des.length cd] 28)) w2 := by rw [hw2]; exact (Below.refl _ _).alloc (Nat.le_refl _) _
    exact (b2.block _ (by simp)).trans (heap_alloc_new w _)
  have h2 : w2.heap[w.heap.size + 1]? = some (.cells #[.int .u8 kd, .int .i64 tx, .string it, .int .i64 so, .bool hs] 39 (0, 0)) := by
    have := heap_alloc_new (w.alloc (.cells #[.slice ae ends.length ce, .slice ai items.length ci, .slice ar reads.length cr, .bool c0, .bool c1, .bool c2, .bool c3, .slice ad des.length cd] 28)) (.cells #[.int .u8 kd, .int .i64 tx, .string it, .int .i64 so, .bool hs] 39)
    rw [hw2]
    simpa using this
  have k0 : w2.cell? ⟨w.heap.size, 0, none⟩ = some (.slice ae ends.length ce) := cell_blk h1 rfl
  have k1 : w2.cell? ⟨w.heap.size, 1, none⟩ = some (.slice ai items.length ci) := cell_blk h1 rfl
  have k2 : w2.cell? ⟨w.heap.size, 2, none⟩ = some (.slice ar reads.length cr) := cell_blk h1 rfl
  have k7 : w2.cell? ⟨w.heap.size, 7, none⟩ = some (.slice ad des.length cd) := cell_blk h1 rfl
  have kk : w2.cell? ⟨w.heap.size + 1, 2, none⟩ = some (.string it) := cell_blk h2 rfl
  have hZ2 := hZ.below hb
  have HB : Hid _ := hb
  have HZ : Hid _ := hZ2
  have HW : Hid _ := hw2
  clear hb hZ hZ2 h1 h2 hw2
  go_enter Try.func18, Try.ntmps18
  go_upto_region 1 with fail
  rw [← HW.out]
  clear HW
  go_wp2_with fail
  all_goals try (go_ret; exact ⟨_, rfl, HB.out⟩)
  go_loop [13, 14] (fun z i => ∃ (q : Nat) (m : Int), q ≤ des.length ∧ i = .int .i64 q ∧ z = .int .i64 m) (fun _ i => des.length - (intOf i).toNat)
  case atStart => exact ⟨0, _, Nat.zero_le _, rfl, rfl⟩
  case round =>
    obtain ⟨q, m, hq, rfl, rfl⟩ := hrel
    by_cases hlt : q < des.length
    · obtain ⟨b, off, rfl, c1, _⟩ := des_cell HZ.out hlt
      have hlt' : (q : Int) < (des.length : Int) := by omega
      generalize des.getD q d0 = gd at c1
      clear HZ
      go_wp2_with fail
      all_goals try (go_ret; exact ⟨_, rfl, HB.out⟩)
      go_round
      case rel => exact ⟨q + 1, _, by omega, by go_num, rfl⟩
      case measure => simp [intOf]; omega
    · clear HZ
      go_wp2_with fail
      all_goals (go_ret; exact ⟨_, rfl, HB.out⟩)

/-- zzStateBytes' answer. -/
def SBy (w : World) (ends : List Int) (items reads : List (Int × Int)) (des : List DEnt) (e : Ending) (w' : World) : Prop :=
  ∃ z, e = .returned (.int .i64 z) ∧ Below w.heap.size w w' ∧ (z ≤ 1048576 → ends.length ≤ 1048576 ∧ items.length ≤ 1048576 ∧ reads.length ≤ 1048576 ∧ des.length ≤ 1048576 ∧ ∀ i, i < des.length → (des.getD i d0).zs.length ≤ 1048576)
theorem SBy.over {w w' : World} {ends : List Int} {items reads : List (Int × Int)} {des : List DEnt} (h : Below w.heap.size w w') : SBy w ends items reads des (.returned (.int .i64 1048577)) w' := ⟨_, rfl, h, fun hh => absurd hh (by decide)⟩
set_option maxRecDepth 100000 in
set_option maxHeartbeats 2000000 in
theorem stateBytes_any (ae : Option Addr) (ce : Nat) (ai : Option Addr) (ci : Nat) (ar : Option Addr) (cr : Nat) (c0 c1 c2 c3 : Bool) (ad : Option Addr) (cd : Nat) (ends : List Int) (items reads : List (Int × Int)) (des : List DEnt) (w : World) (hZ : Sl w ad (flatD des)) :
    Calls Try.prog 22 #[zst ae ends.length ce ai items.length ci ar reads.length cr c0 c1 c2 c3 ad des.length cd] w (SBy w ends items reads des) := by
  obtain ⟨w2, hw2⟩ : ∃ w2, w2 = w.alloc (.cells #[.slice ae ends.length ce, .slice ai items.length ci, .slice ar reads.length cr, .bool c0, .bool c1, .bool c2, .bool c3, .slice ad des.length cd] 28) := ⟨_, rfl⟩
  have hb : Below w.heap.size w w2 := by rw [hw2]; exact (Below.refl _ _).alloc (Nat.le_refl _) _
  have h1 : w2.heap[w.heap.size]? = some (.cells #[.slice ae ends.length ce, .slice ai items.length ci, .slice ar reads.length cr, .bool c0, .bool c1, .bool c2, .bool c3, .slice ad des.length cd] 28 (0, 0)) := by rw [hw2]; exact heap_alloc_new w _
  have k0 : w2.cell? ⟨w.heap.size, 0, none⟩ = some (.slice ae ends.length ce) := cell_blk h1 rfl
  have k1 : w2.cell? ⟨w.heap.size, 1, none⟩ = some (.slice ai items.length ci) := cell_blk h1 rfl
  have k2 : w2.cell? ⟨w.heap.size, 2, none⟩ = some (.slice ar reads.length cr) := cell_blk h1 rfl
  have k7 : w2.cell? ⟨w.heap.size, 7, none⟩ = some (.slice ad des.length cd) := cell_blk h1 rfl
  have hZ2 := hZ.below hb
  have HB : Hid _ := hb
  have HZ : Hid _ := hZ2
  have HW : Hid _ := hw2
  clear hb hZ hZ2 h1 hw2
  go_enter Try.func22, Try.ntmps22
  go_upto_region 1 with fail
  rw [← HW.out]
  clear HW
  by_cases g0 : (1048576 : Int) < (ends.length : Int)
  · go_wp2_with fail
    go_ret
    exact SBy.over HB.out
  by_cases g1 : (1048576 : Int) < (items.length : Int)
  · go_wp2_with fail
    go_ret
    exact SBy.over HB.out
  by_cases g2 : (1048576 : Int) < (reads.length : Int)
  · go_wp2_with fail
    go_ret
    exact SBy.over HB.out
  by_cases g3 : (1048576 : Int) < (des.length : Int)
  · go_wp2_with fail
    go_ret
    exact SBy.over HB.out
  have G : Hid (ends.length ≤ 1048576 ∧ items.length ≤ 1048576 ∧ reads.length ≤ 1048576 ∧ des.length ≤ 1048576) := ⟨by omega, by omega, by omega, by omega⟩
  go_wp2_with fail
  all_goals try (go_ret; exact SBy.over HB.out)
  go_loop [3, 4] (fun z i => ∃ (q : Nat) (m : Int), q ≤ des.length ∧ i = .int .i64 q ∧ z = .int .i64 m ∧ ∀ i, i < q → (des.getD i d0).zs.length ≤ 1048576) (fun _ i => des.length - (intOf i).toNat)
  case atStart => exact ⟨0, _, Nat.zero_le _, rfl, rfl, fun i hi => by omega⟩
  case round =>
    obtain ⟨q, m, hq, rfl, rfl, hall⟩ := hrel
    by_cases hlt : q < des.length
    · obtain ⟨b, off, rfl, c1, _⟩ := des_cell HZ.out hlt
      have hlt' : (q : Int) < (des.length : Int) := by omega
      have HA : Hid (∀ i, i < q + 1 → i ≠ q → (des.getD i d0).zs.length ≤ 1048576) := fun i h1 h2 => hall i (by omega)
      obtain ⟨gd, hgd⟩ : ∃ gd, gd = des.getD q d0 := ⟨_, rfl⟩
      have HG : Hid (gd = des.getD q d0) := hgd
      rw [← hgd] at c1
      clear HZ hall hgd
      go_wp2_with fail
      all_goals try (go_ret; exact SBy.over HB.out)
      go_round
      case rel => exact ⟨q + 1, _, by omega, by go_num, rfl, fun i hi => by
        by_cases e : i = q
        · subst e; rw [← HG.out]; omega
        · exact HA.out i hi e⟩
      case measure => simp [intOf]; omega
    · obtain rfl : q = des.length := by omega
      have HA : Hid _ := hall
      clear HZ hall
      go_wp2_with fail
      go_ret
      exact ⟨_, rfl, HB.out, fun _ => ⟨G.out.1, G.out.2.1, G.out.2.2.1, G.out.2.2.2, HA.out⟩⟩

end Go.Proofs.Qxb6625890a
