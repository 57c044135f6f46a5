/-
  Seat b6625890a: zzStateOK, zzHistOp, zzSameOp, zzIsAppend.
-/
import Derived.Test.Qxb6625890aQ
import Derived.Test.Qxb6625890aO
import Derived.BigQuiet
namespace Go.Proofs.Qxb6625890a
open Go.RowKit Go.Maps
set_option linter.unusedVariables false

set_option maxHeartbeats 1000000 in
/-- zzHistOp. -/
theorem histOp_any (kd tx : Int) (it : ByteArray) (so : Int) (hs : Bool) (w : World) :
    Calls Try.prog 11 #[.agg #[.int .u8 kd, .int .i64 tx, .string it, .int .i64 so, .bool hs]] w fun e w' => e = .returned (opv kd tx it so hs) ∧ Below w.heap.size w w' := by
  have hb : Below w.heap.size w ((w.alloc (.cells #[.int .u8 kd, .int .i64 tx, .string it, .int .i64 so, .bool hs] 39)).alloc (.cells #[.int .u8 kd, .int .i64 tx, .string it, .int .i64 so, .bool hs] 45)) := ((Below.refl _ _).alloc (Nat.le_refl _) _).alloc (by simp) _
  have HB : Hid _ := hb
  clear hb
  go_enter Try.func11, Try.ntmps11
  go_wp2_with fail
  simp [bodyPost, results, Try.results11, go_sem]
  exact HB.out

set_option maxHeartbeats 1000000 in
/-- zzSameOp, of the same. -/
theorem sameOp_any (kd tx : Int) (it : ByteArray) (so : Int) (hs : Bool) (w : World) :
    Calls Try.prog 12 #[opv kd tx it so hs, .agg #[.int .u8 kd, .int .i64 tx, .string it, .int .i64 so, .bool hs]] w fun e w' => e = .returned (.bool true) ∧ Below w.heap.size w w' := by
  have hb : Below w.heap.size w ((w.alloc (.cells #[.int .u8 kd, .int .i64 tx, .string it, .int .i64 so, .bool hs] 45)).alloc (.cells #[.int .u8 kd, .int .i64 tx, .string it, .int .i64 so, .bool hs] 39)) := ((Below.refl _ _).alloc (Nat.le_refl _) _).alloc (by simp) _
  have HB : Hid _ := hb
  clear hb
  go_enter Try.func12, Try.ntmps12
  go_wp2_with fail
  go_ret
  exact ⟨rfl, HB.out⟩

/-- What zzStateOK finds of a state that it lets by. -/
structure StOK (c0 c1 c2 c3 : Bool) (ends : List Int) (items reads : List (Int × Int)) : Prop where
  n0 : c0 = true → c1 = true
  n1 : c1 = true → c2 = true
  n2 : c2 = true → c3 = true
  wr : ∀ i, i < items.length → (items.getD i (0, 0)).1 < ends.length
  lr : ∀ i, i < items.length → (items.getD i (0, 0)).2 < reads.length
def SOK (w : World) (c0 c1 c2 c3 : Bool) (ends : List Int) (items reads : List (Int × Int)) (e : Ending) (w' : World) : Prop :=
  ∃ b, e = .returned (.bool b) ∧ Below w.heap.size w w' ∧ (b = true → StOK c0 c1 c2 c3 ends items reads)
theorem SOK.no {w w' : World} {c0 c1 c2 c3 : Bool} {ends : List Int} {items reads : List (Int × Int)} (h : Below w.heap.size w w') : SOK w c0 c1 c2 c3 ends items reads (.returned (.bool false)) w' := ⟨_, rfl, h, fun hh => absurd hh (by decide)⟩
theorem item_cell {w : World} {a : Option Addr} {l : List (Int × Int)} (h : Sl w a (flat l)) {k : Nat} (hk : k < l.length) : ∃ b off, a = some ⟨b, off, none⟩ ∧ w.cell? ⟨b, off + k * 2, none⟩ = some (.int .i32 (l.getD k (0, 0)).1) ∧ w.cell? ⟨b, off + k * 2 + 1, none⟩ = some (.int .i32 (l.getD k (0, 0)).2) := by
  have hl := flat_length l
  obtain ⟨b, off, rfl, hc⟩ := h.at (show k * 2 + 1 < (flat l).length by omega)
  exact ⟨b, off, rfl, by rw [hc (k * 2) (by omega)]; exact flat_fst l k hk, by rw [Nat.add_assoc, hc (k * 2 + 1) (by omega)]; exact flat_snd l k hk⟩
def I32 (z : Int) : Prop := -2147483648 ≤ z ∧ z ≤ 2147483647
set_option maxRecDepth 100000 in
set_option maxHeartbeats 2000000 in
theorem stateOK_any (ae : Option Addr) (ce : Nat) (ai : Option Addr) (ci : Nat) (ar : Option Addr) (cr : Nat) (c0 c1 c2 c3 : Bool) (ad : Option Addr) (cd : Nat) (ends : List Int) (items reads : List (Int × Int)) (des : List DEnt) (w : World) (hZ : Sl w ai (flat items)) (hr : ∀ i, i < items.length → I32 (items.getD i (0, 0)).1 ∧ I32 (items.getD i (0, 0)).2) (l1 : ends.length ≤ 1048576) (l2 : items.length ≤ 1048576) (l3 : reads.length ≤ 1048576) :
    Calls Try.prog 23 #[zst ae ends.length ce ai items.length ci ar reads.length cr c0 c1 c2 c3 ad des.length cd] w (SOK w c0 c1 c2 c3 ends items reads) := by
  obtain ⟨w2, hw2⟩ : ∃ w2, w2 = w.alloc (.cells #[.slice ae ends.length ce, .slice ai items.length ci, .slice ar reads.length cr, .bool c0, .bool c1, .bool c2, .bool c3, .slice ad des.length cd] 28) := ⟨_, rfl⟩
  have hb : Below w.heap.size w w2 := by rw [hw2]; exact (Below.refl _ _).alloc (Nat.le_refl _) _
  have h1 : w2.heap[w.heap.size]? = some (.cells #[.slice ae ends.length ce, .slice ai items.length ci, .slice ar reads.length cr, .bool c0, .bool c1, .bool c2, .bool c3, .slice ad des.length cd] 28 (0, 0)) := by rw [hw2]; exact heap_alloc_new w _
  have k0 : w2.cell? ⟨w.heap.size, 0, none⟩ = some (.slice ae ends.length ce) := cell_blk h1 rfl
  have k1 : w2.cell? ⟨w.heap.size, 1, none⟩ = some (.slice ai items.length ci) := cell_blk h1 rfl
  have k2 : w2.cell? ⟨w.heap.size, 2, none⟩ = some (.slice ar reads.length cr) := cell_blk h1 rfl
  have kc : ∀ k, k < 4 → w2.cell? ⟨w.heap.size, 3 + k, none⟩ = some (.bool (c4 c0 c1 c2 c3 k)) := fun k hk => by
    match k, hk with
    | 0, _ => exact cell_blk h1 rfl
    | 1, _ => exact cell_blk h1 rfl
    | 2, _ => exact cell_blk h1 rfl
    | 3, _ => exact cell_blk h1 rfl
  have hZ2 := hZ.below hb
  have HB : Hid _ := hb
  have HZ : Hid _ := hZ2
  have HW : Hid _ := hw2
  have HC : Hid _ := kc
  have HRG : Hid _ := hr
  clear hb hZ hZ2 h1 hw2 kc hr
  go_enter Try.func23, Try.ntmps23
  go_upto_region 1 with fail
  rw [← HW.out]
  clear HW
  go_wp2_with fail
  go_loop [3] (fun i => ∃ (k : Nat), k ≤ 3 ∧ i = .int .i64 k ∧ ∀ j, j < k → c4 c0 c1 c2 c3 j = true → c4 c0 c1 c2 c3 (j + 1) = true) (fun i => 3 - (intOf i).toNat)
  case atStart => exact ⟨0, Nat.zero_le _, rfl, fun j hj => by omega⟩
  case round =>
    obtain ⟨k, hk, rfl, hall⟩ := hrel
    by_cases hlt : k < 3
    · have a1 := HC.out k (by omega)
      have a2 := HC.out (k + 1) (by omega)
      have hlt' : (k : Int) < 3 := by omega
      have hlt4 : (k : Int) < 4 := by omega
      have hlt5 : (k : Int) + 1 < 4 := by omega
      have HN : Hid (∀ b b', c4 c0 c1 c2 c3 k = b → c4 c0 c1 c2 c3 (k + 1) = b' → (b = true → b' = true) → ∀ j, j < k + 1 → c4 c0 c1 c2 c3 j = true → c4 c0 c1 c2 c3 (j + 1) = true) := fun b b' e1 e2 hbb j hj hc => by
        by_cases e : j = k
        · subst e; rw [e2]; exact hbb (by rw [← e1]; exact hc)
        · exact hall j (by omega) hc
      have HK : Hid _ := And.intro k1 k2
      clear HC hall k1 k2 HZ HRG
      generalize g1 : c4 c0 c1 c2 c3 k = b1 at a1
      generalize g2 : c4 c0 c1 c2 c3 (k + 1) = b2 at a2
      have G1 : Hid _ := g1
      have G2 : Hid _ := g2
      clear g1 g2
      cases b1 with
      | false =>
        go_wp2_with fail
        go_round
        case rel => exact ⟨k + 1, by omega, by go_num, HN.out _ _ G1.out G2.out (fun h => by cases h)⟩
        case measure => simp [intOf]; omega
      | true =>
        cases b2 with
        | false =>
          go_wp2_with fail
          go_ret
          exact SOK.no HB.out
        | true =>
          go_wp2_with fail
          go_round
          case rel => exact ⟨k + 1, by omega, by go_num, HN.out _ _ G1.out G2.out (fun _ => rfl)⟩
          case measure => simp [intOf]; omega
    · obtain rfl : k = 3 := by omega
      have HN : Hid _ := And.intro (hall 0 (by omega)) (And.intro (hall 1 (by omega)) (hall 2 (by omega)))
      clear hall HC
      go_wp2_with fail
      go_loop [4] (fun i => ∃ (k : Nat), k ≤ items.length ∧ i = .int .i64 k ∧ ∀ j, j < k → (items.getD j (0, 0)).1 < ends.length ∧ (items.getD j (0, 0)).2 < reads.length) (fun i => items.length - (intOf i).toNat)
      case atStart => exact ⟨0, Nat.zero_le _, rfl, fun j hj => by omega⟩
      case round =>
        obtain ⟨q, hq, rfl, hall⟩ := hrel
        by_cases hlt : q < items.length
        · obtain ⟨b, off, rfl, a1, a2⟩ := item_cell HZ.out hlt
          have hlt' : (q : Int) < (items.length : Int) := by omega
          obtain ⟨⟨r1, r2⟩, ⟨r3, r4⟩⟩ := HRG.out q hlt
          have HA : Hid (∀ x y : Int, (items.getD q (0, 0)).1 = x → (items.getD q (0, 0)).2 = y → x < ends.length → y < reads.length → ∀ j, j < q + 1 → (items.getD j (0, 0)).1 < ends.length ∧ (items.getD j (0, 0)).2 < reads.length) := fun x y e1 e2 h1 h2 j hj => by
            by_cases e : j = q
            · subst e; exact ⟨by rw [e1]; exact h1, by rw [e2]; exact h2⟩
            · exact hall j (by omega)
          generalize g1 : (items.getD q (0, 0)).1 = x at a1 r1 r2
          generalize g2 : (items.getD q (0, 0)).2 = y at a2 r3 r4
          have G1 : Hid _ := g1
          have G2 : Hid _ := g2
          clear g1 g2 hall HZ HRG
          by_cases x0 : 0 ≤ x
          · by_cases x1 : (ends.length : Int) ≤ x
            · go_wp2_with fail
              go_ret
              exact SOK.no HB.out
            · by_cases y0 : 0 ≤ y
              · by_cases y1 : (reads.length : Int) ≤ y
                · go_wp2_with fail
                  go_ret
                  exact SOK.no HB.out
                · go_wp2_with fail
                  go_round
                  case rel => exact ⟨q + 1, by omega, by go_num, HA.out _ _ G1.out G2.out (by omega) (by omega)⟩
                  case measure => simp [intOf]; omega
              · go_wp2_with fail
                go_round
                case rel => exact ⟨q + 1, by omega, by go_num, HA.out _ _ G1.out G2.out (by omega) (by omega)⟩
                case measure => simp [intOf]; omega
          · by_cases y0 : 0 ≤ y
            · by_cases y1 : (reads.length : Int) ≤ y
              · go_wp2_with fail
                go_ret
                exact SOK.no HB.out
              · go_wp2_with fail
                go_round
                case rel => exact ⟨q + 1, by omega, by go_num, HA.out _ _ G1.out G2.out (by omega) (by omega)⟩
                case measure => simp [intOf]; omega
            · go_wp2_with fail
              go_round
              case rel => exact ⟨q + 1, by omega, by go_num, HA.out _ _ G1.out G2.out (by omega) (by omega)⟩
              case measure => simp [intOf]; omega
        · obtain rfl : q = items.length := by omega
          have HA : Hid _ := hall
          clear hall HZ HRG
          go_wp2_with fail
          go_ret
          exact ⟨_, rfl, HB.out, fun _ => ⟨HN.out.1, HN.out.2.1, HN.out.2.2, fun i hi => (HA.out i hi).1, fun i hi => (HA.out i hi).2⟩⟩

end Go.Proofs.Qxb6625890a
