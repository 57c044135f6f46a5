/-
  Seat b6626314a: zzItoa; maps as functions.
-/
import Derived.Test.Qxb6626314aM
import Derived.Laws.IdiomStrings
namespace Go.Proofs.Qxb6626314a
open Go.RowKit Go.Maps Go.Sort
set_option linter.unusedVariables false
/-! ### zzItoa -/
def dec : List Int → Int
  | [] => 0
  | d :: l => (d - 48) * 10 ^ l.length + dec l
/-- The number that a name of an item says. -/
def decS (s : ByteArray) : Int := dec ((s.data.toList.drop 1).map fun b => (b.toNat : Int))
def ItoaP (w : World) (N : Nat) (e : Ending) (w' : World) : Prop := ∃ s, e = .returned (.string s) ∧ decS s = N ∧ s.size ≤ 100 ∧ Below w.heap.size w w'
structure BufI (w : World) (g m : Nat) (ds : List UInt8) (wr : World) : Prop where
  blk : ∃ cs, wr.heap[g]? = some (.cells cs 78 (0, 0)) ∧ cs.size = 12 ∧ ∀ j (hj : j < ds.length), cs[12 - m + j]? = some (.int .u8 (ds[j].toNat : Int))
  len : ds.length = m
  lo : w.heap.size ≤ g
  bel : Below w.heap.size w wr
theorem BufI.put {w : World} {g m : Nat} {ds : List UInt8} {wr : World} (h : BufI w g m ds wr) (hm : m < 12) (d : UInt8) : BufI w g (m + 1) (d :: ds) (wr.setCell ⟨g, 11 - m, none⟩ (.int .u8 (d.toNat : Int))) := by
  obtain ⟨cs, h1, h2, h3⟩ := h.blk
  refine ⟨⟨_, blk_set _ h1, by simp [h2], fun j hj => ?_⟩, by simp [h.len], h.lo, h.bel.setCell h.lo _⟩
  cases j with
  | zero => simp [show 12 - (m + 1) = 11 - m by omega, h2, show 11 - m < 12 by omega]
  | succ j =>
    have hj' : j < ds.length := by simpa using hj
    rw [Array.getElem?_setIfInBounds, if_neg (by omega), show 12 - (m + 1) + (j + 1) = 12 - m + j by omega]
    exact h3 j hj'
theorem BufI.cell {w : World} {g m : Nat} {ds : List UInt8} {wr : World} (h : BufI w g m ds wr) (j : Nat) (hj : j < 12) : ∃ v, wr.cell? ⟨g, j, none⟩ = some v := by
  obtain ⟨cs, h1, h2, h3⟩ := h.blk
  exact ⟨cs[j], cell_blk h1 (by simp [h2, hj])⟩
theorem BufI.frz {w : World} {g m : Nat} {ds : List UInt8} {wr : World} (h : BufI w g m ds wr) (j : Nat) : wr.frozen? ⟨g, j, none⟩ = false := by
  obtain ⟨cs, h1, h2, h3⟩ := h.blk
  exact frz_blk h1 j
theorem BufI.str {w : World} {g m : Nat} {ds : List UInt8} {wr : World} (h : BufI w g m ds wr) (hm : m ≤ 12) (cap : Nat) : (convert 79 9 (.slice (some ⟨g, 12 - m, none⟩) m cap)).run Try.prog wr = .ok (.string ⟨ds.toArray⟩) wr := by
  obtain ⟨cs, h1, h2, h3⟩ := h.blk
  have := run_convert_bytes_back (P := Try.prog) wr 79 9 5 ⟨g, 12 - m, none⟩ cap ds Try.underlying79 Try.underlying5 Try.underlying9 (fun j hj => by
    rw [add_eq]; exact cell_blk h1 (h3 j hj))
  rw [h.len] at this
  exact this
theorem dec_cons (d : UInt8) (ds : List UInt8) : dec ((d :: ds).map fun b => (b.toNat : Int)) = ((d.toNat : Int) - 48) * 10 ^ ds.length + dec (ds.map fun b => (b.toNat : Int)) := by
  simp [dec]
set_option maxRecDepth 100000 in
set_option maxHeartbeats 2000000 in
theorem itoa_any (N : Nat) (w : World) (hN : N ≤ 4096) : Calls Try.prog 24 #[.int .i32 N] w (ItoaP w N) := by
  go_enter Try.func24, Try.ntmps24
  go_wp2_with fail
  go_loopw [0, 4] (fun v0 v4 wr => ∃ (x m k : Nat) (ds : List UInt8), v0 = .int .i32 x ∧ v4 = .int .i64 k ∧ k + m = 12 ∧ m ≤ 3 ∧ x ≤ 4096 ∧ (m = 1 → x ≤ 409) ∧ (m = 2 → x ≤ 40) ∧ (m = 3 → x ≤ 4) ∧ Hid ((x : Int) * 10 ^ m + dec (ds.map fun b => (b.toNat : Int)) = N ∧ BufI w w.heap.size m ds wr)) (fun _ v4 _ => (intOf v4).toNat)
  case atStart =>
    refine ⟨N, 0, 12, [], rfl, rfl, by omega, by omega, hN, by omega, by omega, by omega, ⟨by simp [dec], ⟨_, heap_alloc_new w _, by simp, fun j hj => absurd hj (by simp)⟩, rfl, Nat.le_refl _, (Below.refl _ _).alloc (Nat.le_refl _) _⟩⟩
  case round =>
    obtain ⟨x, m, k, ds, rfl, rfl, hkm, hm, hx, h1, h2, h3, HO⟩ := hrel
    obtain ⟨q, hq⟩ : ∃ q, q = x / 10 := ⟨_, rfl⟩
    obtain ⟨d, hd⟩ : ∃ d, d = x % 10 := ⟨_, rfl⟩
    have hxq : x = 10 * q + d := by omega
    have hd10 : d < 10 := by omega
    have t1 : (x : Int).tmod 10 = (d : Int) := by rw [Int.tmod_eq_emod_of_nonneg (by omega)]; omega
    have t2 : (x : Int).tdiv 10 = (q : Int) := by rw [Int.tdiv_eq_ediv_of_nonneg (by omega)]; omega
    obtain ⟨b, hb⟩ : ∃ b : UInt8, (b.toNat : Int) = 48 + (d : Int) := ⟨UInt8.ofNat (48 + d), by simp [UInt8.toNat_ofNat']; omega⟩
    have HX : Hid (x = 10 * q + d) := hxq
    have HB : Hid _ := hb
    obtain ⟨k1, hk1⟩ : ∃ k1, k = k1 + 1 := ⟨k - 1, by omega⟩
    subst hk1
    obtain ⟨v, hv⟩ := HO.out.2.cell k1 (by omega)
    have hf := HO.out.2.frz k1
    have HP : Hid (BufI w w.heap.size (m + 1) (b :: ds) (wr.setCell ⟨w.heap.size, k1, none⟩ (.int .u8 (48 + (d : Int))))) := by
      have := HO.out.2.put (by omega) b
      rwa [show 11 - m = k1 by omega, hb] at this
    have HV : Hid ((q : Int) * 10 ^ (m + 1) + dec ((b :: ds).map fun b => (b.toNat : Int)) = N) := by
      have hxq := HX.out
      rw [← HO.out.1, dec_cons, HO.out.2.len, hb]
      have hxI : (x : Int) = 10 * (q : Int) + (d : Int) := by omega
      rw [hxI]
      have e : (10 : Int) ^ (m + 1) = 10 * 10 ^ m := by rw [Int.pow_succ, Int.mul_comm]
      rw [e]
      generalize (10 : Int) ^ m = pw
      have a1 : (q : Int) * (10 * pw) = 10 * ((q : Int) * pw) := by rw [← Int.mul_assoc, Int.mul_comm (q : Int) 10, Int.mul_assoc]
      have a2 : (10 * (q : Int) + (d : Int)) * pw = 10 * ((q : Int) * pw) + (d : Int) * pw := by rw [Int.add_mul, Int.mul_assoc]
      rw [a1, a2, show (48 + (d : Int) - 48) = (d : Int) by omega]
      exact (Int.add_assoc _ _ _).symm
    have hqb : q ≤ 409 ∧ (m = 1 → q ≤ 40) ∧ (m = 2 → q ≤ 4) ∧ (m = 3 → q = 0) := by omega
    clear hb hq hd HO hxq
    by_cases hq0 : q = 0
    · subst hq0
      have hc := HP.out.str (by omega) (m + 1)
      rw [show 12 - (m + 1) = k1 by omega] at hc
      rw [show m + 1 = 12 - k1 by omega] at hc
      have hsl : (Instr.sliceAt 78 (.pointer (some ⟨w.heap.size, 0, none⟩)) (some (.int .i64 k1)) none none).run Try.prog (wr.setCell ⟨w.heap.size, k1, none⟩ (.int .u8 (48 + (d : Int)))) = .ok (.slice (some ⟨w.heap.size, k1, none⟩) (12 - k1) (12 - k1)) (wr.setCell ⟨w.heap.size, k1, none⟩ (.int .u8 (48 + (d : Int)))) := by
        obtain e | e | e | e : k1 = 8 ∨ k1 = 9 ∨ k1 = 10 ∨ k1 = 11 := by omega
        all_goals (subst e; kernel_rfl)
      obtain ⟨s1, hs1⟩ : ∃ s1 : ByteArray, s1 = ⟨(b :: ds).toArray⟩ := ⟨_, rfl⟩
      rw [← hs1] at hc
      have hsz : s1.size ≤ 12 := by
        have := HP.out.len
        rw [hs1]
        simp [ByteArray.size] at this ⊢
        omega
      have HS1 : Hid _ := hs1
      clear hs1
      go_wp2_with fail
      go_ret
      refine ⟨_, rfl, ?_, by rw [ByteArray.size_append]; have : (ByteArray.mk #[105]).size = 1 := rfl; omega, HP.out.bel⟩
      rw [HS1.out]
      have := HV.out
      simp [decS, dec] at this ⊢
      exact this
    · have hq0' : ¬ ((q : Int) = 0) := by omega
      go_wp2_with fail
      go_roundw
      case rel => exact ⟨q, m + 1, k1, b :: ds, rfl, rfl, by omega, by omega, by omega, by omega, by omega, by omega, ⟨HV.out, HP.out⟩⟩
      case measure => simp [intOf]

/-! ### Maps from int64, as functions -/
def anyElem (v : Value) : Option (DataW Value × List MemPlace) := some (.held v, [])
theorem law2 : Keyed Try.prog 2 := int_keyed Try.underlying2
theorem law9 : Keyed Try.prog 9 := string_keyed Try.underlying9
def MapIs (w : World) (b n : Nat) (f : Int → Option Value) : Prop :=
  ∃ D : DataW Value, w.ownsMap Try.prog 2 anyElem b n D ∧ (∀ k, Maps.has D (.int .i64 k) = (f k).isSome) ∧ ∀ k z, D.atKey (.int .i64 k) (.held z) = .held ((f k).getD z)
theorem MapIs.made (w : World) : MapIs (w.alloc (.map #[] 0)) w.heap.size 0 (fun _ => none) :=
  ⟨.map [], World.ownsMap_made _ _ _ _, fun k => by simp [Maps.has], fun k z => atKey_of_not_has (by simp [Maps.has]) _⟩
theorem MapIs.kept {w w' : World} {b n : Nat} {f : Int → Option Value} {row : Option Nat} (h : MapIs w b n f) (hg : w.grownBy w' row) (hne : some b ≠ row) : MapIs w' b n f := by
  obtain ⟨D, h1, h2⟩ := h
  exact ⟨D, h1.kept hg hne, h2⟩
theorem MapIs.of_block {w w' : World} {b n : Nat} {f : Int → Option Value} (h : MapIs w b n f) (hb : w'.heap[b]? = w.heap[b]?) : MapIs w' b n f := by
  obtain ⟨D, ⟨es, clock, h1, h2⟩, h3⟩ := h
  exact ⟨D, ⟨es, clock, hb.trans h1, h2⟩, h3⟩
theorem MapIs.isMap {w : World} {b n : Nat} {f : Int → Option Value} (h : MapIs w b n f) : ∃ es clock, w.heap[b]? = some (.map es clock) := by
  obtain ⟨D, ⟨es, clock, h1, h2⟩, h3⟩ := h
  exact ⟨es, clock, h1⟩
def putAt (f : Int → Option Value) (k : Int) (v : Value) : Int → Option Value := fun x => if x = k then some v else f x
theorem MapIs.look {w : World} {b n : Nat} {f : Int → Option Value} (h : MapIs w b n f) {T e : TypeId} (hT : Try.prog.underlying T = some (.map 2 e)) {z : Value} (hz : (zeroValue e).run Try.prog w = .ok z w) {k : Int} (hk : (Lit.int .i64 k).wf = true) (c : Bool) :
    (Instr.lookup T (.map (some b)) (.int .i64 k) c).run Try.prog w = .ok (if c then .tuple #[(f k).getD z, .bool (f k).isSome] else (f k).getD z) w := by
  obtain ⟨D, h1, h2, h3⟩ := h
  cases c with
  | true =>
    obtain ⟨v, ps, hrun, hv⟩ := h1.look_ok law2 hT hz (zd := .held z) (zp := []) rfl (keyOf_int_mk Try.underlying2 hk)
    rw [hrun, h2 k]
    have e := hv
    rw [h3 k] at e
    simp only [anyElem, Option.some.injEq, Prod.mk.injEq, DataW.held.injEq] at e
    rw [e.1]
    simp
  | false =>
    obtain ⟨v, ps, hrun, hv⟩ := h1.lookup law2 hT hz (zd := .held z) (zp := []) rfl (keyOf_int_mk Try.underlying2 hk)
    rw [hrun]
    have e := hv
    rw [h3 k] at e
    simp only [anyElem, Option.some.injEq, Prod.mk.injEq, DataW.held.injEq] at e
    rw [e.1]
    simp
theorem MapIs.store {w : World} {b n : Nat} {f : Int → Option Value} (h : MapIs w b n f) {T e : TypeId} (hT : Try.prog.underlying T = some (.map 2 e)) {k : Int} (hk : (Lit.int .i64 k).wf = true) (hn : n < maxLen) (v : Value) :
    ∃ w', (Instr.mapUpdate T (.map (some b)) (.int .i64 k) v).run Try.prog w = .ok () w' ∧ MapIs w' b (n + 1) (putAt f k v) ∧ w.grownBy w' (some b) := by
  obtain ⟨D, h1, h2, h3⟩ := h
  have hkl : WideAt.IsKeyLit (.int .i64 k) := by trivial
  obtain ⟨w', hrun, ho, hg⟩ := h1.update law2 hT hn (keyOf_int_mk Try.underlying2 hk) (d := .held v) (ps := []) rfl
  refine ⟨w', hrun, ⟨_, ho, fun x => ?_, fun x z => ?_⟩, hg⟩
  · by_cases e : x = k
    · subst e; rw [has_put_same h1.isMap hkl]; simp [putAt]
    · rw [has_put_other (by simpa using e), h2 x]; simp [putAt, e]
  · by_cases e : x = k
    · subst e; rw [atKey_put_same h1.isMap hkl]; simp [putAt]
    · rw [atKey_put_other (by simpa using e), h3 x]; simp [putAt, e]

/-! ### The items: names, and how many -/
theorem keyOf_str (s : ByteArray) (h : s.size ≤ 100) : keyOf Try.prog 9 (.string s) = some (.string s.data.toList) := by
  have : s.size ≤ maxLen := by unfold maxLen; omega
  simp [keyOf, Try.underlying9, mapKey, this]
def ItIs (w : World) (b m : Nat) : Prop :=
  ∃ D : DataW Value, w.ownsMap Try.prog 9 anyElem b m D ∧ Maps.size D = m ∧ ∀ l : List UInt8, Maps.has D (.string l) = true → decS ⟨l.toArray⟩ < m
theorem ItIs.made (w : World) : ItIs (w.alloc (.map #[] 0)) w.heap.size 0 :=
  ⟨.map [], World.ownsMap_made _ _ _ _, rfl, fun s h => by simp [Maps.has] at h⟩
theorem ItIs.kept {w w' : World} {b m : Nat} {row : Option Nat} (h : ItIs w b m) (hg : w.grownBy w' row) (hne : some b ≠ row) : ItIs w' b m := by
  obtain ⟨D, h1, h2⟩ := h
  exact ⟨D, h1.kept hg hne, h2⟩
theorem ItIs.isMap {w : World} {b m : Nat} (h : ItIs w b m) : ∃ es clock, w.heap[b]? = some (.map es clock) := by
  obtain ⟨D, ⟨es, clock, h1, h2⟩, h3⟩ := h
  exact ⟨es, clock, h1⟩
theorem ItIs.len {w : World} {b m : Nat} (h : ItIs w b m) (ty : TypeId) : (Builtin.len_ #[61] ty #[.map (some b)]).run Try.prog w = .ok (.int .i64 m) w := by
  obtain ⟨D, h1, h2, h3⟩ := h
  rw [h1.len Try.underlying61 ty, h2]
theorem ItIs.store {w : World} {b m : Nat} (h : ItIs w b m) {s : ByteArray} (hs : decS s = m) (hsz : s.size ≤ 100) (hn : m < maxLen) (v : Value) :
    ∃ w', (Instr.mapUpdate 61 (.map (some b)) (.string s) v).run Try.prog w = .ok () w' ∧ ItIs w' b (m + 1) ∧ w.grownBy w' (some b) := by
  obtain ⟨D, h1, h2, h3⟩ := h
  have hkl : WideAt.IsKeyLit (.string s.data.toList) := by trivial
  have hs' : decS ⟨s.data.toList.toArray⟩ = m := by simpa using hs
  obtain ⟨w', hrun, ho, hg⟩ := h1.update law9 Try.underlying61 hn (keyOf_str s hsz) (d := .held v) (ps := []) rfl
  have hno : Maps.has D (.string s.data.toList) = false := by
    cases hh : Maps.has D (.string s.data.toList)
    · rfl
    · have := h3 _ hh; omega
  refine ⟨w', hrun, ⟨_, ho, ?_, fun x hx => ?_⟩, hg⟩
  · rw [size_put (h1.tidy law9), hno, h2]; simp
  · by_cases e : x = s.data.toList
    · subst e; omega
    · rw [has_put_other (by simpa using e)] at hx
      have := h3 x hx; omega
end Go.Proofs.Qxb6626314a
