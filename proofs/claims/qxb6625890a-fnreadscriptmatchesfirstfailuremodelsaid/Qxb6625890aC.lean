/-
  Seat b6625890a: contracts of the small functions over a classifier.
-/
import Derived.Test.Qxb6625890aB
namespace Go.Proofs.Qxb6625890a
open Go.RowKit Go.Maps
set_option linter.unusedVariables false

theorem Try.info21 : (Try.prog.info? 21).map (fun i => (i.zero, i.size, i.bytes)) = some (some (.int .i32 0), 1, 4) := by kernel_rfl
theorem Try.info5 : (Try.prog.info? 5).map (fun i => (i.zero, i.size, i.bytes)) = some (some (.int .u8 0), 1, 1) := by kernel_rfl
theorem Try.info80 : (Try.prog.info? 80).map (fun i => (i.zero, i.size, i.bytes)) = some (some (.agg #[.int .i32 0, .int .i32 0]), 2, 8) := by kernel_rfl
theorem Try.info78 : (Try.prog.info? 78).map (fun i => (i.zero, i.size, i.bytes)) = some (some (.agg #[.int .i32 0, .int .i32 0]), 2, 8) := by kernel_rfl
theorem Try.info86 : (Try.prog.info? 86).map (fun i => (i.zero, i.size, i.bytes)) = some (some (.agg #[.int .i64 0, .int .u8 0]), 2, 16) := by kernel_rfl
theorem Try.info49 : (Try.prog.info? 49).map (fun i => (i.zero, i.size, i.bytes)) = some (some (.agg #[.int .i32 0, .int .i32 0]), 2, 8) := by kernel_rfl
theorem Try.info53 : (Try.prog.info? 53).map (fun i => (i.zero, i.size, i.bytes)) = some (some (.agg #[.int .i32 0, .int .i32 0]), 2, 8) := by kernel_rfl
theorem Try.info58 : (Try.prog.info? 58).map (fun i => (i.zero, i.size, i.bytes)) = some (some (.agg #[.int .i32 0, .slice none 0 0]), 2, 32) := by kernel_rfl
theorem Try.info4 : (Try.prog.info? 4).map (fun i => (i.zero, i.size, i.bytes)) = some (some (.bool false), 1, 1) := by kernel_rfl

section
variable {w : World} {F : Nat → Prop} {cb tb db mi N lim : Nat} {vi vr vt : Value} {f : Int → Option Value} {ends : List Int} {out : Nat → Option OpC} {items reads : List (Int × Int)} {dm : Int → Option (List Int)}

theorem ClsV.c0 (h : ClsV w F cb tb db mi N lim vi vr vt f ends out items reads dm) : w.cell? ⟨cb, 0, none⟩ = some (.pointer (some ⟨tb, 0, none⟩)) := cell_blk h.blk rfl
theorem ClsV.co (h : ClsV w F cb tb db mi N lim vi vr vt f ends out items reads dm) (k : Nat) (hk : k < 4) : w.cell? ⟨cb, 1 + k, none⟩ = some (optr (out k)) := cell_blk h.blk (cb_at _ _ _ _ _ k hk)
theorem ClsV.c5 (h : ClsV w F cb tb db mi N lim vi vr vt f ends out items reads dm) : w.cell? ⟨cb, 5, none⟩ = some vi := cell_blk h.blk rfl
theorem ClsV.c6 (h : ClsV w F cb tb db mi N lim vi vr vt f ends out items reads dm) : w.cell? ⟨cb, 6, none⟩ = some vr := cell_blk h.blk rfl
theorem ClsV.c7 (h : ClsV w F cb tb db mi N lim vi vr vt f ends out items reads dm) : w.cell? ⟨cb, 7, none⟩ = some (.map (some db)) := cell_blk h.blk rfl
theorem ClsV.ct (h : ClsV w F cb tb db mi N lim vi vr vt f ends out items reads dm) : w.cell? ⟨tb, 0, none⟩ = some vt := cell_blk h.tbl rfl
theorem ClsV.fz (h : ClsV w F cb tb db mi N lim vi vr vt f ends out items reads dm) (j : Nat) : w.frozen? ⟨cb, j, none⟩ = false := frozen_of_row w cb j _ _ h.blk

/-- ZZoutOf. -/
theorem outOf_any (h : ClsV w F cb tb db mi N lim vi vr vt f ends out items reads dm) (k : Nat) (hk : k < 4) :
    Calls Try.prog 9 #[.pointer (some ⟨cb, 0, none⟩), .int .i64 k] w fun e w' => e = .returned (optr (out k)) ∧ w' = w := by
  have hc := h.co k hk
  have hk' : (k : Int) < 4 := by omega
  generalize optr (out k) = p at hc
  go_enter Try.func9, Try.ntmps9
  go_wp2
  go_ret
  exact ⟨rfl, rfl⟩

/-- (txnTable).end. -/
theorem end_any (h : ClsV w F cb tb db mi N lim vi vr vt f ends out items reads dm) (i : Nat) (hi : i < ends.length) (hl : ends.length ≤ 1048576) :
    Calls Try.prog 31 #[.pointer (some ⟨tb, 0, none⟩), .int .i32 i] w fun e w' => e = .returned (.int .u8 (ends.getD i 0)) ∧ w' = w := by
  obtain ⟨xs, hr, hx⟩ := h.txn
  obtain ⟨g, cp, rfl, _⟩ := row_shape_pos hr (by omega)
  have hc : w.cell? ⟨g, i * 2 + 1, none⟩ = some (.int .u8 (ends.getD i 0)) := by rw [hr.cellAt (i * 2 + 1) (by omega)]; exact hx i hi
  have ht := h.ct
  have hi' : (i : Int) < (ends.length : Int) := by omega
  generalize ends.getD i 0 = z at hc
  go_enter Try.func31, Try.ntmps31
  go_wp2
  go_ret
  exact ⟨rfl, rfl⟩

/-- ZZreadsLen, ZZitemsLen. -/
theorem readsLen_any (h : ClsV w F cb tb db mi N lim vi vr vt f ends out items reads dm) :
    Calls Try.prog 13 #[.pointer (some ⟨cb, 0, none⟩)] w fun e w' => e = .returned (.int .i64 reads.length) ∧ w' = w := by
  have hc := h.c6
  obtain ⟨o, cp, rfl⟩ := row_shape h.rds
  go_enter Try.func13, Try.ntmps13
  go_wp2
  go_ret
  exact ⟨rfl, rfl⟩
theorem itemsLen_any (h : ClsV w F cb tb db mi N lim vi vr vt f ends out items reads dm) :
    Calls Try.prog 15 #[.pointer (some ⟨cb, 0, none⟩)] w fun e w' => e = .returned (.int .i64 items.length) ∧ w' = w := by
  have hc := h.c5
  obtain ⟨o, cp, rfl⟩ := row_shape h.its
  go_enter Try.func15, Try.ntmps15
  go_wp2
  go_ret
  exact ⟨rfl, rfl⟩

/-- ZZreadAt, ZZitem. -/
theorem readAt_any (h : ClsV w F cb tb db mi N lim vi vr vt f ends out items reads dm) (i : Nat) (hi : i < reads.length) (hl : reads.length ≤ 100000000) :
    Calls Try.prog 14 #[.pointer (some ⟨cb, 0, none⟩), .int .i64 i] w fun e w' => e = .returned (.tuple #[.int .i32 (reads.getD i (0, 0)).1, .int .i32 (reads.getD i (0, 0)).2]) ∧ Below w.heap.size w w' := by
  have hc := h.c6
  have hr := h.rds
  obtain ⟨g, cp, rfl, _⟩ := row_shape_pos hr (by omega)
  have c1 : w.cell? ⟨g, i * 2, none⟩ = some (.int .i32 (reads.getD i (0, 0)).1) := by rw [hr.cellAt (i * 2) (by omega)]; exact flat_fst reads i hi
  have c2 : w.cell? ⟨g, i * 2 + 1, none⟩ = some (.int .i32 (reads.getD i (0, 0)).2) := by rw [hr.cellAt (i * 2 + 1) (by omega)]; exact flat_snd reads i hi
  have hi' : (i : Int) < (reads.length : Int) := by omega
  generalize (reads.getD i (0, 0)).1 = x at c1
  generalize (reads.getD i (0, 0)).2 = y at c2
  clear h hr
  go_enter Try.func14, Try.ntmps14
  go_wp2_with fail
  go_quiet (fail)
  go_wp2_with fail
  go_ret2
  exact ⟨rfl, below_drewN ((Below.refl _ _).alloc (Nat.le_refl _) _) _⟩
theorem item_any (h : ClsV w F cb tb db mi N lim vi vr vt f ends out items reads dm) (i : Nat) (hi : i < items.length) (hl : items.length ≤ 100000000) :
    Calls Try.prog 16 #[.pointer (some ⟨cb, 0, none⟩), .int .i64 i] w fun e w' => e = .returned (.tuple #[.int .i32 (items.getD i (0, 0)).1, .int .i32 (items.getD i (0, 0)).2]) ∧ Below w.heap.size w w' := by
  have hc := h.c5
  have hr := h.its
  obtain ⟨g, cp, rfl, _⟩ := row_shape_pos hr (by omega)
  have c1 : w.cell? ⟨g, i * 2, none⟩ = some (.int .i32 (items.getD i (0, 0)).1) := by rw [hr.cellAt (i * 2) (by omega)]; exact flat_fst items i hi
  have c2 : w.cell? ⟨g, i * 2 + 1, none⟩ = some (.int .i32 (items.getD i (0, 0)).2) := by rw [hr.cellAt (i * 2 + 1) (by omega)]; exact flat_snd items i hi
  have hi' : (i : Int) < (items.length : Int) := by omega
  generalize (items.getD i (0, 0)).1 = x at c1
  generalize (items.getD i (0, 0)).2 = y at c2
  clear h hr
  go_enter Try.func16, Try.ntmps16
  go_wp2_with fail
  go_quiet (fail)
  go_wp2_with fail
  go_ret2
  exact ⟨rfl, below_drewN ((Below.refl _ _).alloc (Nat.le_refl _) _) _⟩

/-- ZZdirtyAt. -/
theorem dirtyAt_any (h : ClsV w F cb tb db mi N lim vi vr vt f ends out items reads dm) (k : Int) (hk : (Lit.int .i32 k).wf = true) :
    Calls Try.prog 17 #[.pointer (some ⟨cb, 0, none⟩), .int .i32 k] w fun e w' => e = .returned (.tuple #[(f k).getD (.slice none 0 0), .bool (f k).isSome]) ∧ w' = w := by
  have hc := h.c7
  have hl : ∀ c : Bool, _ := fun c => h.map.look hk c
  have hl1 := hl true
  simp only [if_true] at hl1
  clear hl
  generalize (f k).getD (.slice none 0 0) = v at hl1
  generalize (f k).isSome = b at hl1
  go_enter Try.func17, Try.ntmps17
  go_wp2
  go_ret2
  exact ⟨rfl, rfl⟩

end
end Go.Proofs.Qxb6625890a
