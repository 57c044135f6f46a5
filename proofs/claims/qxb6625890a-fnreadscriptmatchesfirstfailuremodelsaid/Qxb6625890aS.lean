/-
  Seat b6625890a: zzIsAppend, zzReadDomain.
-/
import Derived.Test.Qxb6625890aR
namespace Go.Proofs.Qxb6625890a
open Go.RowKit Go.Maps
set_option linter.unusedVariables false
theorem int_cell {w : World} {a : Option Addr} {l : List Int} (h : Sl w a (ints l)) {k : Nat} (hk : k < l.length) : ∃ b off, a = some ⟨b, off, none⟩ ∧ w.cell? ⟨b, off + k, none⟩ = some (.int .i32 (l.getD k 0)) := by
  have hl : (ints l).length = l.length := by simp [ints]
  obtain ⟨b, off, rfl, hc⟩ := h.at (show k < (ints l).length by omega)
  exact ⟨b, off, rfl, by rw [hc k (by omega)]; simp [ints, hk]⟩

set_option maxRecDepth 100000 in
set_option maxHeartbeats 2000000 in
theorem isAppend_add (ga : Option Addr) (gc : Nat) (got : List Int) (ba : Option Addr) (bc : Nat) (base : List Int) (bh : Bool) (v : Int) (w : World) (hg : Sl w ga (ints got)) (hb : Sl w ba (ints base)) (hl : base.length ≤ 100000000) (hgot : got = base ++ [v]) :
    Calls Try.prog 21 #[.slice ga got.length gc, .bool true, .slice ba base.length bc, .bool bh, .bool true, .int .i32 v] w fun e w' => e = .returned (.bool true) ∧ Below w.heap.size w w' := by
  have hgl : got.length = base.length + 1 := by rw [hgot]; simp
  have hE : ∀ k, k < base.length → got.getD k 0 = base.getD k 0 := fun k hk => by rw [hgot]; exact getD_push_lt _ _ _ _ hk
  obtain ⟨b0, o0, e0, a0⟩ := int_cell hg (show base.length < got.length by omega)
  have hv : got.getD base.length 0 = v := by rw [hgot]; exact getD_push_eq _ _ _
  rw [hv] at a0
  subst e0
  have q1 : (base.length : Int) < (base.length : Int) + 1 := by omega
  have q2 : (0 : Int) ≤ (base.length : Int) := by omega
  have HG : Hid _ := hg
  have HS : Hid _ := hb
  have HE : Hid _ := hE
  clear hg hb hE hgot hv
  rw [hgl]
  go_enter Try.func21, Try.ntmps21
  go_wp2_with fail
  go_loopw [13] (fun i wr => ∃ (k : Nat), k ≤ base.length ∧ i = .int .i64 k ∧ Below w.heap.size w wr) (fun i _ => base.length - (intOf i).toNat)
  case atStart => exact ⟨0, Nat.zero_le _, rfl, Below.refl _ _⟩
  case round =>
    obtain ⟨k, hk, rfl, hb⟩ := hrel
    by_cases hlt : k < base.length
    · obtain ⟨b1, o1, e1, a1⟩ := int_cell (Sl.below HG.out hb) (show k < got.length by omega)
      obtain ⟨b2, o2, e2, a2⟩ := int_cell (Sl.below HS.out hb) hlt
      cases e1
      cases e2
      rw [HE.out k hlt] at a1
      have hlt' : (k : Int) < (base.length : Int) := by omega
      have hlt0 : (0 : Int) ≤ (k : Int) := by omega
      have hlg : (k : Int) < (base.length : Int) + 1 := by omega
      have H1 : Hid _ := hb
      generalize base.getD k 0 = q at a1 a2
      clear hb HG HS
      go_wp2_with fail
      go_quiet (fail)
      go_wp2_with fail
      go_roundw
      case rel => exact ⟨k + 1, by omega, by go_num, below_drewN H1.out _⟩
      case measure => simp [intOf]; omega
    · have H1 : Hid _ := hb
      clear hb
      go_wp2_with fail
      go_ret
      exact ⟨rfl, H1.out⟩
set_option maxRecDepth 100000 in
set_option maxHeartbeats 2000000 in
theorem isAppend_same (ga : Option Addr) (gc : Nat) (ba : Option Addr) (bc : Nat) (base : List Int) (bh : Bool) (v : Int) (w : World) (hg : Sl w ga (ints base)) (hb : Sl w ba (ints base)) (hl : base.length ≤ 100000000) :
    Calls Try.prog 21 #[.slice ga base.length gc, .bool bh, .slice ba base.length bc, .bool bh, .bool false, .int .i32 v] w fun e w' => e = .returned (.bool true) ∧ Below w.heap.size w w' := by
  have HG : Hid _ := hg
  have HS : Hid _ := hb
  clear hg hb
  go_enter Try.func21, Try.ntmps21
  go_wp2_with fail
  go_loopw [13] (fun i wr => ∃ (k : Nat), k ≤ base.length ∧ i = .int .i64 k ∧ Below w.heap.size w wr) (fun i _ => base.length - (intOf i).toNat)
  case atStart => exact ⟨0, Nat.zero_le _, rfl, Below.refl _ _⟩
  case round =>
    obtain ⟨k, hk, rfl, hb⟩ := hrel
    by_cases hlt : k < base.length
    · obtain ⟨b1, o1, e1, a1⟩ := int_cell (Sl.below HG.out hb) hlt
      obtain ⟨b2, o2, e2, a2⟩ := int_cell (Sl.below HS.out hb) hlt
      cases e1
      cases e2
      have hlt' : (k : Int) < (base.length : Int) := by omega
      have hlt0 : (0 : Int) ≤ (k : Int) := by omega
      have H1 : Hid _ := hb
      generalize base.getD k 0 = q at a1 a2
      clear hb HG HS
      go_wp2_with fail
      go_quiet (fail)
      go_wp2_with fail
      go_roundw
      case rel => exact ⟨k + 1, by omega, by go_num, below_drewN H1.out _⟩
      case measure => simp [intOf]; omega
    · have H1 : Hid _ := hb
      clear hb
      go_wp2_with fail
      go_ret
      exact ⟨rfl, H1.out⟩

structure LenOK (ends : List Int) (items reads : List (Int × Int)) (des : List DEnt) : Prop where
  e : ends.length ≤ 1048576
  i : items.length ≤ 1048576
  r : reads.length ≤ 1048576
  d : des.length ≤ 1048576
  z : ∀ i, i < des.length → (des.getD i d0).zs.length ≤ 1048576
/-- What zzReadDomain lets by. -/
structure RDom (c0 c1 c2 c3 : Bool) (ends : List Int) (items reads : List (Int × Int)) (des : List DEnt) (t item src : Int) : Prop where
  len : LenOK ends items reads des
  st : StOK c0 c1 c2 c3 ends items reads
  i0 : 0 ≤ item
  i1 : item ≤ items.length
  s : 0 ≤ src → src ≠ t → src < ends.length
def RDm (w : World) (c0 c1 c2 c3 : Bool) (ends : List Int) (items reads : List (Int × Int)) (des : List DEnt) (t item src : Int) (e : Ending) (w' : World) : Prop :=
  ∃ b, e = .returned (.bool b) ∧ Below w.heap.size w w' ∧ (b = true → RDom c0 c1 c2 c3 ends items reads des t item src)
theorem RDm.no {w w' : World} {c0 c1 c2 c3 : Bool} {ends : List Int} {items reads : List (Int × Int)} {des : List DEnt} {t item src : Int} (h : Below w.heap.size w w') : RDm w c0 c1 c2 c3 ends items reads des t item src (.returned (.bool false)) w' := ⟨_, rfl, h, fun hh => absurd hh (by decide)⟩
set_option maxRecDepth 100000 in
set_option maxHeartbeats 2000000 in
theorem readDomain_any (ae : Option Addr) (ce : Nat) (ai : Option Addr) (ci : Nat) (ar : Option Addr) (cr : Nat) (c0 c1 c2 c3 : Bool) (ad : Option Addr) (cd : Nat) (ends : List Int) (items reads : List (Int × Int)) (des : List DEnt) (kd tx : Int) (it : ByteArray) (so : Int) (hs : Bool) (t item src : Int) (w : World) (hZ : ZV w ae ai ar ad ends items reads des) (hr : ∀ i, i < items.length → I32 (items.getD i (0, 0)).1 ∧ I32 (items.getD i (0, 0)).2) (hi : I32 item) (hsr : I32 src) :
    Calls Try.prog 19 #[zst ae ends.length ce ai items.length ci ar reads.length cr c0 c1 c2 c3 ad des.length cd, .agg #[.int .u8 kd, .int .i64 tx, .string it, .int .i64 so, .bool hs], .int .i32 t, .int .i32 item, .int .i32 src] w (RDm w c0 c1 c2 c3 ends items reads des t item src) := by
  obtain ⟨w2, hw2⟩ : ∃ w2, w2 = (w.alloc (.cells #[.slice ae ends.length ce, .slice ai items.length ci, .slice ar reads.length cr, .bool c0, .bool c1, .bool c2, .bool c3, .slice ad des.length cd] 28)).alloc (.cells #[.int .u8 kd, .int .i64 tx, .string it, .int .i64 so, .bool hs] 39) := ⟨_, rfl⟩
  have hb : Below w.heap.size w w2 := by rw [hw2]; exact ((Below.refl _ _).alloc (Nat.le_refl _) _).alloc (by simp) _
  have h1 : w2.heap[w.heap.size]? = some (.cells #[.slice ae ends.length ce, .slice ai items.length ci, .slice ar reads.length cr, .bool c0, .bool c1, .bool c2, .bool c3, .slice ad des.length cd] 28 (0, 0)) := by
    have b2 : Below (w.alloc (.cells #[.slice ae ends.length ce, .slice ai items.length ci, .slice ar reads.length cr, .bool c0, .bool c1, .bool c2, .bool c3, .slice ad des.length cd] 28)).heap.size (w.alloc (.cells #[.slice ae ends.length ce, .slice ai items.length ci, .slice ar reads.length cr, .bool c0, .bool c1, .bool c2, .bool c3, .slice ad des.length cd] 28)) w2 := by rw [hw2]; exact (Below.refl _ _).alloc (Nat.le_refl _) _
    exact (b2.block _ (by simp)).trans (heap_alloc_new w _)
  have h2 : w2.heap[w.heap.size + 1]? = some (.cells #[.int .u8 kd, .int .i64 tx, .string it, .int .i64 so, .bool hs] 39 (0, 0)) := by
    have := heap_alloc_new (w.alloc (.cells #[.slice ae ends.length ce, .slice ai items.length ci, .slice ar reads.length cr, .bool c0, .bool c1, .bool c2, .bool c3, .slice ad des.length cd] 28)) (.cells #[.int .u8 kd, .int .i64 tx, .string it, .int .i64 so, .bool hs] 39)
    rw [hw2]
    simpa using this
  have k0 : w2.cell? ⟨w.heap.size, 0, none⟩ = some (.slice ae ends.length ce) := cell_blk h1 rfl
  have k1 : w2.cell? ⟨w.heap.size, 1, none⟩ = some (.slice ai items.length ci) := cell_blk h1 rfl
  have k2 : w2.cell? ⟨w.heap.size, 2, none⟩ = some (.slice ar reads.length cr) := cell_blk h1 rfl
  have k3 : w2.cell? ⟨w.heap.size, 3, none⟩ = some (.bool c0) := cell_blk h1 rfl
  have k4 : w2.cell? ⟨w.heap.size, 4, none⟩ = some (.bool c1) := cell_blk h1 rfl
  have k5 : w2.cell? ⟨w.heap.size, 5, none⟩ = some (.bool c2) := cell_blk h1 rfl
  have k6 : w2.cell? ⟨w.heap.size, 6, none⟩ = some (.bool c3) := cell_blk h1 rfl
  have k7 : w2.cell? ⟨w.heap.size, 7, none⟩ = some (.slice ad des.length cd) := cell_blk h1 rfl
  have kk : w2.cell? ⟨w.heap.size + 1, 2, none⟩ = some (.string it) := cell_blk h2 rfl
  have hZ2 := hZ.below hb
  have HB : Hid _ := hb
  have HZ : Hid _ := hZ2
  have HW : Hid _ := hw2
  have HH : Hid _ := And.intro h1 h2
  have HRG : Hid _ := hr
  clear hb hZ hZ2 h1 h2 hw2 hr
  go_enter Try.func19, Try.ntmps19
  go_upto_region 1 with fail
  rw [← HW.out]
  clear HW
  go_wp2_with fail
  refine (stateBytes_any ae ce ai ci ar cr c0 c1 c2 c3 ad cd ends items reads des w2 HZ.out.d).mono ?_
  rintro e w3 ⟨z, rfl, hb3, hz⟩
  have h1 := blk_kept (grown_of_below hb3) HH.out.1 (by simp)
  have h2 := blk_kept (grown_of_below hb3) HH.out.2 (by simp)
  have m0 : w3.cell? ⟨w.heap.size, 0, none⟩ = some (.slice ae ends.length ce) := cell_blk h1 rfl
  have m1 : w3.cell? ⟨w.heap.size, 1, none⟩ = some (.slice ai items.length ci) := cell_blk h1 rfl
  have m2 : w3.cell? ⟨w.heap.size, 2, none⟩ = some (.slice ar reads.length cr) := cell_blk h1 rfl
  have m3 : w3.cell? ⟨w.heap.size, 3, none⟩ = some (.bool c0) := cell_blk h1 rfl
  have m4 : w3.cell? ⟨w.heap.size, 4, none⟩ = some (.bool c1) := cell_blk h1 rfl
  have m5 : w3.cell? ⟨w.heap.size, 5, none⟩ = some (.bool c2) := cell_blk h1 rfl
  have m6 : w3.cell? ⟨w.heap.size, 6, none⟩ = some (.bool c3) := cell_blk h1 rfl
  have m7 : w3.cell? ⟨w.heap.size, 7, none⟩ = some (.slice ad des.length cd) := cell_blk h1 rfl
  have mm : w3.cell? ⟨w.heap.size + 1, 2, none⟩ = some (.string it) := cell_blk h2 rfl
  have hbw3 := HB.out.trans (hb3.mono HB.out.size)
  have hZ3 := HZ.out.below hb3
  have HZ3 : Hid _ := hZ3
  have HB3 : Hid _ := hbw3
  have HH3 : Hid _ := And.intro h1 h2
  have HLZ : Hid _ := hz
  clear hb3 hbw3 hZ3 h1 h2 HZ HB HH k0 k1 k2 k3 k4 k5 k6 k7 kk hz
  by_cases hz : (1048576 : Int) < z
  · go_wp2_with fail
    go_ret
    exact RDm.no HB3.out
  have hln := HLZ.out (by omega)
  have HLN : Hid (LenOK ends items reads des) := ⟨hln.1, hln.2.1, hln.2.2.1, hln.2.2.2.1, hln.2.2.2.2⟩
  obtain ⟨l1, l2, l3, _, _⟩ := hln
  clear HLZ
  go_wp2_with fail
  · go_ret
    exact RDm.no HB3.out
  refine (stateOK_any ae ce ai ci ar cr c0 c1 c2 c3 ad cd ends items reads des w3 HZ3.out.i HRG.out l1 l2 l3).mono ?_
  rintro e w4 ⟨b, rfl, hb4, hst⟩
  have h1 := blk_kept (grown_of_below hb4) HH3.out.1 (by simp)
  have p0 : w4.cell? ⟨w.heap.size, 0, none⟩ = some (.slice ae ends.length ce) := cell_blk h1 rfl
  have p1 : w4.cell? ⟨w.heap.size, 1, none⟩ = some (.slice ai items.length ci) := cell_blk h1 rfl
  have p2 : w4.cell? ⟨w.heap.size, 2, none⟩ = some (.slice ar reads.length cr) := cell_blk h1 rfl
  have p3 : w4.cell? ⟨w.heap.size, 3, none⟩ = some (.bool c0) := cell_blk h1 rfl
  have p4 : w4.cell? ⟨w.heap.size, 4, none⟩ = some (.bool c1) := cell_blk h1 rfl
  have p5 : w4.cell? ⟨w.heap.size, 5, none⟩ = some (.bool c2) := cell_blk h1 rfl
  have p6 : w4.cell? ⟨w.heap.size, 6, none⟩ = some (.bool c3) := cell_blk h1 rfl
  have p7 : w4.cell? ⟨w.heap.size, 7, none⟩ = some (.slice ad des.length cd) := cell_blk h1 rfl
  have hbw4 := HB3.out.trans (hb4.mono HB3.out.size)
  have HB4 : Hid _ := hbw4
  have HST : Hid _ := hst
  clear hb4 hbw4 h1 HZ3 HB3 HH3 m0 m1 m2 m3 m4 m5 m6 m7 mm hst HRG
  cases b with
  | false =>
    go_wp2_with fail
    go_ret
    exact RDm.no HB4.out
  | true =>
    have HSK : Hid _ := HST.out rfl
    clear HST
    obtain ⟨i1, i2⟩ := hi
    obtain ⟨s1, s2⟩ := hsr
    by_cases x0 : item < 0
    · go_wp2_with fail
      go_ret
      exact RDm.no HB4.out
    by_cases x1 : (items.length : Int) < item
    · go_wp2_with fail
      go_ret
      exact RDm.no HB4.out
    by_cases y0 : 0 ≤ src
    · by_cases y1 : src = t
      · have e1 : (src != t) = false := by simp [y1]
        have HY : Hid _ := y1
        clear y1
        go_wp2_with fail
        go_ret
        exact ⟨_, rfl, HB4.out, fun _ => ⟨HLN.out, HSK.out, by omega, by omega, fun _ h => absurd HY.out h⟩⟩
      · have e1 : (src != t) = true := by simp [y1]
        clear y1
        by_cases y2 : (ends.length : Int) ≤ src
        · go_wp2_with fail
          go_ret
          exact RDm.no HB4.out
        · go_wp2_with fail
          go_ret
          exact ⟨_, rfl, HB4.out, fun _ => ⟨HLN.out, HSK.out, by omega, by omega, fun _ _ => by omega⟩⟩
    · go_wp2_with fail
      go_ret
      exact ⟨_, rfl, HB4.out, fun _ => ⟨HLN.out, HSK.out, by omega, by omega, fun h _ => by omega⟩⟩

end Go.Proofs.Qxb6625890a
