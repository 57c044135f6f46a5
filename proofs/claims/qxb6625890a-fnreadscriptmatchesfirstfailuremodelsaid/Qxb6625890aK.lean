/-
  Seat b6625890a: (classifier).read and ZZread, whole. Frames written by program.
-/
import Derived.Test.Qxb6625890aJ
namespace Go.Proofs.Qxb6625890a
open Go.RowKit Go.Maps
set_option linter.unusedVariables false

theorem KeepF.mono {F G : Nat → Prop} {w w' : World} (h : KeepF F w w') (hFG : ∀ k, F k → G k) : KeepF G w w' := ⟨h.os, h.tape, h.output, h.size, fun k hk hn => h.block k hk (fun hf => hn (hFG k hf))⟩
theorem RdP.toF {F G : Nat → Prop} {cb lim : Nat} {ends : List Int} {out : Nat → Option OpC} {items reads : List (Int × Int)} {dm : Int → Option (List Int)} {w w0 w' : World} (h : RdP F cb lim ends out items reads dm w0 w') (hFG : ∀ k, F k → G k) (hb : Below w.heap.size w w0) : RdP G cb lim ends out items reads dm w w' := by
  obtain ⟨⟨tb, db, mi, N, vi, vr, vt, f, hV⟩, hK⟩ := h
  exact ⟨⟨tb, db, mi, N, vi, vr, vt, f, hV.reF (fun g _ hg => hFG g hg)⟩, (KeepF.of_below hb).trans (hK.mono hFG)⟩
theorem grow_len (items : List (Int × Int)) (item : Nat) (h : item ≤ items.length) : item < (growL items item).length := by
  unfold growL; split
  · simp; omega
  · omega
theorem grow_lt (items : List (Int × Int)) (item : Nat) (h : item ≤ items.length) (p : Int × Int → Prop) (h1 : ∀ i, i < items.length → p (items.getD i (0, 0))) (h2 : p (-1, -1)) : p ((growL items item).getD item (0, 0)) := by
  unfold growL
  by_cases e : item = items.length
  · rw [if_pos e]
    have : (items ++ [(-1, -1)]).getD item (0, 0) = (-1, -1) := by subst e; simp
    rw [this]; exact h2
  · rw [if_neg e]; exact h1 item (by omega)
def ReadPost (F : Nat → Prop) (cb lim : Nat) (ends : List Int) (out : Nat → Option OpC) (items reads : List (Int × Int)) (dm : Int → Option (List Int)) (item : Nat) (t src : Int) (x : List Value) (w w' : World) : Prop :=
  ∃ out1 out', MeetRel out (conf ends ((growL items item).getD item (0, 0)).1 t) x out1 ∧ DirtyRel (drt ends src t) out1 x out' ∧
    RdP F cb lim ends out' (stepI (out' 3) (growL items item) reads item t) (stepR (out' 3) (growL items item) reads item t) (if drt ends src t = true ∧ out1 0 = none then dirtyAdd dm t src else dm) w w'

set_option maxRecDepth 100000 in
set_option maxHeartbeats 1000000 in
theorem read_any {w w0 : World} {F : Nat → Prop} {cb tb db mi N lim : Nat} {vi vr vt : Value} {f : Int → Option Value} {ends : List Int} {out : Nat → Option OpC} {items reads : List (Int × Int)} {dm : Int → Option (List Int)} (h : ClsV w F cb tb db mi N lim vi vr vt f ends out items reads dm) (hF : ∀ k, w.heap.size ≤ k → F k) (hl : lim ≤ 7000000) (hE : ends.length ≤ 1048576) (item : Nat) (hit : item ≤ items.length) (hW : ∀ i, i < items.length → (items.getD i (0, 0)).1 < ends.length) (hR : ∀ i, i < items.length → (items.getD i (0, 0)).2 < reads.length)
    (t src : Int) (ht : (Lit.int .i32 t).wf = true) (hsrc : 0 ≤ src → src ≠ t → src < ends.length) (kd tx : Int) (it : ByteArray) (so : Int) (hs : Bool) :
    Calls Try.prog 28 #[.pointer (some ⟨cb, 0, none⟩), opv kd tx it so hs, .int .i32 t, .int .i32 item, .int .i32 src] w fun e w' => e = .returned (.tuple #[]) ∧ ReadPost F cb (lim + 3) ends out items reads dm item t src (opc kd tx it so hs) w w' := by
  have hb1 : Below w.heap.size w (w.alloc (.cells #[.int .u8 kd, .int .i64 tx, .string it, .int .i64 so, .bool hs] 45)) := (Below.refl _ _).alloc (Nat.le_refl _) _
  have hV1 := (h.reF (F' := fun k => F k ∧ k ≠ w.heap.size) (fun g hg hf => ⟨hf, by omega⟩)).grown hb1
  have hF1 : ∀ k, (w.alloc (.cells #[.int .u8 kd, .int .i64 tx, .string it, .int .i64 so, .bool hs] 45)).heap.size ≤ k → F k ∧ k ≠ w.heap.size := fun k hk => by
    simp at hk
    exact ⟨hF k (by omega), by omega⟩
  have hbx1 : (w.alloc (.cells #[.int .u8 kd, .int .i64 tx, .string it, .int .i64 so, .bool hs] 45)).heap[w.heap.size]? = some (.cells (opc kd tx it so hs).toArray 45 (0, 0)) := heap_alloc_new w _
  have hlb : w.heap.size < (w.alloc (.cells #[.int .u8 kd, .int .i64 tx, .string it, .int .i64 so, .bool hs] 45)).heap.size := (Array.getElem?_eq_some_iff.1 hbx1).1
  have hgl := grow_len items item hit
  have hwr := grow_lt items item hit (fun p => p.1 < (ends.length : Int)) hW (by show (-1 : Int) < _; omega)
  have hrd := grow_lt items item hit (fun p => p.2 < (reads.length : Int)) hR (by show (-1 : Int) < _; omega)
  have HB1 : Hid _ := hb1
  have HV1 : Hid _ := hV1
  have HF1 : Hid _ := hF1
  have HBX1 : Hid _ := hbx1
  have HLB : Hid _ := hlb
  clear h hF hb1 hV1 hF1 hbx1 hW hR hlb
  go_enter Try.func28, Try.ntmps28
  change Code.wp Try.prog (tl Try.f28 0) (QR (ReadPost F cb (lim + 3) ends out items reads dm item t src (opc kd tx it so hs) w)) _ _
  rw [tl28_0]
  refine wp_seq_k (fun K hK => ?_)
  conv => arg 2; whnf
  go_wp2_with fail
  rw [tl28_1]
  refine wp_seq_k (fun K hK => ?_)
  conv => arg 2; whnf
  go_wp2_with fail
  refine (grow_any HV1.out HF1.out (by omega) item hit).mono ?_
  rintro e w2 ⟨rfl, ⟨vi2, hV2⟩, hK2⟩
  have hF2 : ∀ k, w2.heap.size ≤ k → F k ∧ k ≠ w.heap.size := fun k hk => HF1.out k (Nat.le_trans hK2.size hk)
  have hbx2 : w2.heap[w.heap.size]? = some (.cells (opc kd tx it so hs).toArray 45 (0, 0)) := (hK2.block w.heap.size HLB.out (fun hh => hh.2 rfl)).trans HBX1.out
  have k0 : w2.cell? ⟨w.heap.size, 0, none⟩ = some (.int .u8 kd) := cell_blk hbx2 rfl
  have k1 : w2.cell? ⟨w.heap.size, 1, none⟩ = some (.int .i64 tx) := cell_blk hbx2 rfl
  have k2 : w2.cell? ⟨w.heap.size, 2, none⟩ = some (.string it) := cell_blk hbx2 rfl
  have k3 : w2.cell? ⟨w.heap.size, 3, none⟩ = some (.int .i64 so) := cell_blk hbx2 rfl
  have k4 : w2.cell? ⟨w.heap.size, 4, none⟩ = some (.bool hs) := cell_blk hbx2 rfl
  have HV2 : Hid _ := hV2
  have HF2 : Hid _ := hF2
  have HK2 : Hid _ := hK2
  have HBX2 : Hid _ := hbx2
  clear hV2 hF2 hK2 hbx2
  go_wp2_with fail
  rw [tl28_2]
  refine wp_seq_k (fun K hK => ?_)
  conv => arg 2; whnf
  go_wp2_with fail
  refine (meet_any HV2.out HF2.out (by omega) hE item hgl t hwr kd tx it so hs).mono ?_
  rintro e w3 ⟨rfl, ⟨out1, hrel, hV3⟩, hK3⟩
  have hF3 : ∀ k, w3.heap.size ≤ k → F k ∧ k ≠ w.heap.size := fun k hk => HF2.out k (Nat.le_trans hK3.size hk)
  have hbx3 : w3.heap[w.heap.size]? = some (.cells (opc kd tx it so hs).toArray 45 (0, 0)) := (hK3.block w.heap.size (Nat.lt_of_lt_of_le HLB.out (KeepF.size HK2.out)) (fun hh => hh.2 rfl)).trans HBX2.out
  have hK13 := KeepF.trans HK2.out hK3
  have hfin : ∀ w', RdQ (fun k => F k ∧ k ≠ w.heap.size) cb (lim + 1 + 2) ends out1 (growL items item) reads dm item t src (opc kd tx it so hs) (w.alloc (.cells #[.int .u8 kd, .int .i64 tx, .string it, .int .i64 so, .bool hs] 45)) w' → ReadPost F cb (lim + 3) ends out items reads dm item t src (opc kd tx it so hs) w w' := by
    rintro w' ⟨out', hd, hp⟩
    exact ⟨out1, out', hrel, hd, hp.toF (fun k hk => hk.1) HB1.out⟩
  have HV3 : Hid _ := hV3
  have HF3 : Hid _ := hF3
  have HK13 : Hid _ := hK13
  have HBX3 : Hid _ := hbx3
  have HFIN : Hid _ := hfin
  clear hV3 hF3 hK3 hK13 hbx3 hfin hrel k0 k1 k2 k3 k4
  go_wp2_with fail
  refine wp_mono ?_ (QR_mono HFIN.out)
  cases hdf : drt ends src t with
  | false => exact rd3n _ _ _ _ _ _ _ _ _ _ _ _ _ _ _ _ _ _ _ _ _ _ _ _ _ _ _ _ _ _ _ _ _ _ _ _ _ _ _ _ _ _ _ _ _ _ _ _ _ _ _ _ _ _ _ _ _ _ _ _ _ _ _ _ _ _ _ _ _ _ _ _ _ _ _ _ _ _ _ _ _ _ _ _ _ _ _ _ _ _ _ _ _ _ _ _ _ _ _ _ _ _ _ _ _ _ _ _ _ _ _ _ _ _ _ HV3.out HF3.out (by omega) hE hgl hrd ht hsrc (fun hh => hh.2 rfl) HBX3.out HK13.out hdf
  | true => exact rd3d _ _ _ _ _ _ _ _ _ _ _ _ _ _ _ _ _ _ _ _ _ _ _ _ _ _ _ _ _ _ _ _ _ _ _ _ _ _ _ _ _ _ _ _ _ _ _ _ _ _ _ _ _ _ _ _ _ _ _ _ _ _ _ _ _ _ _ _ _ _ _ _ _ _ _ _ _ _ _ _ _ _ _ _ _ _ _ _ _ _ _ _ _ _ _ _ _ _ _ _ _ _ _ _ _ _ _ _ _ _ _ _ _ _ _ HV3.out HF3.out (by omega) hE hgl hrd ht hsrc (fun hh => hh.2 rfl) HBX3.out HK13.out hdf

set_option maxHeartbeats 1000000 in
/-- ZZread. -/
theorem zzread_any {w w0 : World} {F : Nat → Prop} {cb tb db mi N lim : Nat} {vi vr vt : Value} {f : Int → Option Value} {ends : List Int} {out : Nat → Option OpC} {items reads : List (Int × Int)} {dm : Int → Option (List Int)} (h : ClsV w F cb tb db mi N lim vi vr vt f ends out items reads dm) (hF : ∀ k, w.heap.size ≤ k → F k) (hl : lim ≤ 7000000) (hE : ends.length ≤ 1048576) (item : Nat) (hit : item ≤ items.length) (hW : ∀ i, i < items.length → (items.getD i (0, 0)).1 < ends.length) (hR : ∀ i, i < items.length → (items.getD i (0, 0)).2 < reads.length)
    (t src : Int) (ht : (Lit.int .i32 t).wf = true) (hsrc : 0 ≤ src → src ≠ t → src < ends.length) (kd tx : Int) (it : ByteArray) (so : Int) (hs : Bool) :
    Calls Try.prog 10 #[.pointer (some ⟨cb, 0, none⟩), opv kd tx it so hs, .int .i32 t, .int .i32 item, .int .i32 src] w fun e w' => e = .returned (.tuple #[]) ∧ ReadPost F cb (lim + 3) ends out items reads dm item t src (opc kd tx it so hs) w w' := by
  have hb1 : Below w.heap.size w (w.alloc (.cells #[.int .u8 kd, .int .i64 tx, .string it, .int .i64 so, .bool hs] 45)) := (Below.refl _ _).alloc (Nat.le_refl _) _
  have hV1 := h.grown hb1
  have hF1 : ∀ k, (w.alloc (.cells #[.int .u8 kd, .int .i64 tx, .string it, .int .i64 so, .bool hs] 45)).heap.size ≤ k → F k := fun k hk => hF k (Nat.le_trans hb1.size hk)
  have HB1 : Hid _ := hb1
  have HV1 : Hid _ := hV1
  have HF1 : Hid _ := hF1
  have HW : Hid _ := hW
  have HR : Hid _ := hR
  clear h hF hb1 hV1 hF1 hW hR
  go_enter Try.func10, Try.ntmps10
  go_wp2_with fail
  refine (read_any (w0 := w) HV1.out HF1.out hl hE item hit HW.out HR.out t src ht hsrc kd tx it so hs).mono ?_
  rintro e w2 ⟨rfl, hp⟩
  have HP : Hid _ := hp
  clear hp
  go_wp2_with fail
  go_end0
  obtain ⟨out1, out', h1, h2, h3⟩ := HP.out
  exact ⟨rfl, out1, out', h1, h2, h3.toF (fun k hk => hk) HB1.out⟩

end Go.Proofs.Qxb6625890a
