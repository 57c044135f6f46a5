/-
  Seat b6625852a: the bounds' contracts, mkSubmit.
-/
import Derived.Test.Qxb6625852aA
namespace Go.Proofs.Qxb6625852a
open Go.RowKit
set_option linter.unusedVariables false

/-- What the walk is told of the pointer to a ZPeg that came in. -/
def IsPeg (w : World) (pg : Option Addr) : Prop :=
  pg = none ∨ ∃ b off r o, pg = some ⟨b, off, none⟩ ∧ w.cell? ⟨b, off, none⟩ = some (.int .u8 r) ∧ w.cell? ⟨b, off + 1, none⟩ = some (.string o) ∧ o.size ≤ maxLen

set_option maxHeartbeats 1000000 in
theorem size_any (m i p pr sz : ByteArray) (pg : Option Addr) (w : World) (h1 : m.size ≤ maxLen) (h2 : i.size ≤ maxLen) (h3 : p.size ≤ maxLen) (h4 : pr.size ≤ maxLen) (h5 : sz.size ≤ maxLen) (h6 : IsPeg w pg) :
    Calls Try.prog 6 #[.string m, .string i, .string p, .string pr, .string sz, .pointer pg] w fun e w' => (∃ b : Bool, e = .returned (.bool b)) ∧ w' = w := by
  unfold maxLen at h1 h2 h3 h4 h5
  rcases h6 with rfl | ⟨b, off, r, o, rfl, c0, c1, ho⟩
  · go_enter Try.func6, Try.ntmps6
    go_wp2
    all_goals (go_ret; exact ⟨⟨_, rfl⟩, rfl⟩)
  · unfold maxLen at ho
    go_enter Try.func6, Try.ntmps6
    go_wp2
    all_goals (go_ret; exact ⟨⟨_, rfl⟩, rfl⟩)

set_option maxHeartbeats 1000000 in
theorem bytesM_any (t : Int) (m i p : ByteArray) (sd ty : Int) (pr sz : ByteArray) (tif e : Int) (pg : Option Addr) (w : World) (h1 : m.size ≤ maxLen) (h2 : i.size ≤ maxLen) (h3 : p.size ≤ maxLen) (h4 : pr.size ≤ maxLen) (h5 : sz.size ≤ maxLen) (h6 : IsPeg w pg) :
    Calls Try.prog 10 #[.int .i64 t, .string m, .string i, .string p, .int .u8 sd, .int .u8 ty, .string pr, .string sz, .int .u8 tif, .int .i64 e, .pointer pg] w fun e w' => (∃ b : Bool, e = .returned (.bool b)) ∧ w' = w := by
  unfold maxLen at h1 h2 h3 h4 h5
  rcases h6 with rfl | ⟨b, off, r, o, rfl, c0, c1, ho⟩
  · go_enter Try.func10, Try.ntmps10
    go_wp2
    all_goals (go_ret; exact ⟨⟨_, rfl⟩, rfl⟩)
  · unfold maxLen at ho
    go_enter Try.func10, Try.ntmps10
    go_wp2
    all_goals (go_ret; exact ⟨⟨_, rfl⟩, rfl⟩)

set_option maxHeartbeats 1000000 in
theorem bytesE_any (t : Int) (m i p : ByteArray) (sd ty : Int) (pr sz : ByteArray) (tif e : Int) (pg : Option Addr) (d : Int) (w : World) (h1 : m.size ≤ maxLen) (h2 : i.size ≤ maxLen) (h3 : p.size ≤ maxLen) (h4 : pr.size ≤ maxLen) (h5 : sz.size ≤ maxLen) (h6 : IsPeg w pg) :
    Calls Try.prog 5 #[.int .i64 t, .string m, .string i, .string p, .int .u8 sd, .int .u8 ty, .string pr, .string sz, .int .u8 tif, .int .i64 e, .pointer pg, .int .i64 d] w fun e w' => (∃ b : Bool, e = .returned (.bool b)) ∧ w' = w := by
  unfold maxLen at h1 h2 h3 h4 h5
  rcases h6 with rfl | ⟨b, off, r, o, rfl, c0, c1, ho⟩
  · go_enter Try.func5, Try.ntmps5
    go_wp2
    all_goals (go_ret; exact ⟨⟨_, rfl⟩, rfl⟩)
  · unfold maxLen at ho
    go_enter Try.func5, Try.ntmps5
    go_wp2
    all_goals (go_ret; exact ⟨⟨_, rfl⟩, rfl⟩)

set_option maxHeartbeats 1000000 in
theorem mk_any (t : Int) (m i p : ByteArray) (sd ty : Int) (pr sz : ByteArray) (tif e : Int) (pg : Option Addr) (w : World) (h6 : IsPeg w pg) :
    Calls Try.prog 9 #[.int .i64 t, .string m, .string i, .string p, .int .u8 sd, .int .u8 ty, .string pr, .string sz, .int .u8 tif, .int .i64 e, .pointer pg] w fun r w' => (∃ q, r = .returned (sub t m i p sd ty pr sz tif e q)) ∧ Below w.heap.size w w' := by
  rcases h6 with rfl | ⟨b, off, r, o, rfl, c0, c1, ho⟩
  · go_enter Try.func9, Try.ntmps9
    go_wp2
    simp [bodyPost, results, Try.results9, go_sem]
    exact (Below.refl _ _).alloc (Nat.le_refl _) _
  · have hlt : b < w.heap.size := World.block_lt_of_cell? w _ c0
    go_enter Try.func9, Try.ntmps9
    go_wp2
    go_region
    go_wp2
    simp [bodyPost, results, Try.results9, go_sem]
    exact (((Below.refl _ _).alloc (Nat.le_refl _) _).alloc (by simp) _).drew

end Go.Proofs.Qxb6625852a
