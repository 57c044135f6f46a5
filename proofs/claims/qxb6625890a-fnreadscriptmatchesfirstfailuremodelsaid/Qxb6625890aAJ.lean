/-
  Seat b6625890a: the arguments opened: a ZState, a ZOp.
-/
import Derived.Test.Qxb6625890aS
import Derived.Deep.SlicePairs
import Derived.ProofKit
import Derived.OpenShut
import Derived.ChangeOld
import Derived.Below
namespace Go.Proofs.Qxb6625890a
open Go.ChangeShapes Go.WideShapes Go.ChangeAt Go.RowKit Go.Deep
set_option linter.unusedVariables false

theorem sl_all {W : World} {x : Addr} {cs : List Value} (h : ∀ i, i < cs.length → W.cell? (x.add i) = cs[i]?) : Sl W (some x) cs := by
  intro hne
  have h0 : 0 < cs.length := List.length_pos_iff.2 hne
  obtain ⟨b, off, spot⟩ := x
  have hc := h 0 h0
  rw [List.getElem?_eq_getElem h0] at hc
  have hspot : spot = none := by simpa [Addr.add] using World.cell?_spot hc
  subst hspot
  refine ⟨b, off, rfl, fun i hi => ?_⟩
  have := h i hi
  rw [add_eq] at this
  exact this
theorem sl_two {W : World} {x : Addr} {cs : List Value} {len : Nat} (hl : cs.length = len * 2) (h : ∀ i, i < len → W.cell? (x.add (i * 2)) = cs[i * 2]? ∧ W.cell? (x.add (i * 2 + 1)) = cs[i * 2 + 1]?) : Sl W (some x) cs := by
  refine sl_all fun i hi => ?_
  obtain ⟨h0, h1⟩ := h (i / 2) (by omega)
  rcases Nat.mod_two_eq_zero_or_one i with e | e
  · rw [show i / 2 * 2 = i by omega] at h0; exact h0
  · rw [show i / 2 * 2 + 1 = i by omega] at h1; exact h1
theorem getD_map_range {α : Type} (f : Nat → α) (len k : Nat) (d : α) (h : k < len) : ((List.range len).map f).getD k d = f k := by
  rw [List.getD_eq_getElem?_getD, List.getElem?_map, List.getElem?_range h]; rfl
theorem i32_of_wf {z : Int} (h : (Lit.int .i32 z).wf = true) : I32 z := by
  simp only [Lit.wf, Bool.and_eq_true, decide_eq_true_eq] at h
  unfold I32
  have h1 := h.1
  have h2 := h.2
  simp [IntKind.min, IntKind.max, IntKind.bits, IntKind.signed] at h1 h2
  omega

section
variable {H : Type} {enc : TypeId × Value → H} {W : World} {fuel : Nat}

theorem open_u8s {v : Value} {x : DataW H × List MemPlace} (h : DataW.trod enc Try.prog W 0 (fun _ => true) true fuel 22 [v] = some x) : ∃ a cap ends, v = .slice a ends.length cap ∧ Sl W a (bytes ends) := by
  rcases open_slice1 Try.underlying22 (by kernel_rfl) h with ⟨hcs, _⟩ | ⟨a, len, cap, m, n, V, D, Pl, hcs, _, hl, _, hm, _, hx⟩
  · cases hcs; exact ⟨none, 0, [], rfl, Sl.nil _ _⟩
  · cases hcs
    have hm' : len ≤ m := by rw [hm]; split <;> omega
    obtain ⟨z, hz⟩ := choose_lt (α := Int) (p := fun i k => V i = .int .u8 k) (n := len) (fun i hi => by
      obtain ⟨k, e, _⟩ := DataW.trod_int Try.underlying5 (hx i (by omega)).2
      exact ⟨k, by simpa using e⟩)
    refine ⟨some a, cap, (List.range len).map z, by simp, sl_all fun i hi => ?_⟩
    have hi' : i < len := by simpa [bytes] using hi
    rw [(hx i (by omega)).1, hz i hi']
    unfold bytes
    rw [List.getElem?_map, List.getElem?_map, List.getElem?_range hi']
    rfl
theorem open_i32s {v : Value} {x : DataW H × List MemPlace} (h : DataW.trod enc Try.prog W 0 (fun _ => true) true fuel 51 [v] = some x) : ∃ a cap zs, v = .slice a zs.length cap ∧ Sl W a (ints zs) := by
  rcases open_slice1 Try.underlying51 (by kernel_rfl) h with ⟨hcs, _⟩ | ⟨a, len, cap, m, n, V, D, Pl, hcs, _, hl, _, hm, _, hx⟩
  · cases hcs; exact ⟨none, 0, [], rfl, Sl.nil _ _⟩
  · cases hcs
    have hm' : len ≤ m := by rw [hm]; split <;> omega
    obtain ⟨z, hz⟩ := choose_lt (α := Int) (p := fun i k => V i = .int .i32 k) (n := len) (fun i hi => by
      obtain ⟨k, e, _⟩ := DataW.trod_int Try.underlying21 (hx i (by omega)).2
      exact ⟨k, by simpa using e⟩)
    refine ⟨some a, cap, (List.range len).map z, by simp, sl_all fun i hi => ?_⟩
    have hi' : i < len := by simpa [ints] using hi
    rw [(hx i (by omega)).1, hz i hi']
    unfold ints
    rw [List.getElem?_map, List.getElem?_map, List.getElem?_range hi']
    rfl
theorem open_prs {t e : TypeId} {f0 f1 : Field} {v : Value} {x : DataW H × List MemPlace} (ht : Try.prog.underlying t = some (.slice e)) (he : Try.prog.underlying e = some (.struct #[f0, f1]))
    (ce : Try.prog.cellsOf e = 2) (o0 : f0.offset = 0) (o1 : f1.offset = 1) (t0 : f0.type = 21) (t1 : f1.type = 21)
    (h : DataW.trod enc Try.prog W 0 (fun _ => true) true fuel t [v] = some x) : ∃ a cap l, v = .slice a (List.length l) cap ∧ Sl W a (flat l) ∧ ∀ i, i < l.length → I32 (l.getD i (0, 0)).1 ∧ I32 (l.getD i (0, 0)).2 := by
  rcases open_slice_pairs ht he ce o0 o1 (by rw [t0]; kernel_rfl) (by rw [t1]; kernel_rfl) h with ⟨hcs, _⟩ | ⟨a, len, cap, m, n, V0, V1, D0, D1, P0, P1, hcs, _, hl, _, hm, _, hx⟩
  · cases hcs; exact ⟨none, 0, [], rfl, Sl.nil _ _, fun i hi => absurd hi (by simp)⟩
  · cases hcs
    have hm' : len ≤ m := by rw [hm]; split <;> omega
    obtain ⟨z, hz⟩ := choose_lt (α := Int × Int) (p := fun i k => V0 i = .int .i32 k.1 ∧ V1 i = .int .i32 k.2 ∧ I32 k.1 ∧ I32 k.2) (n := len) (fun i hi => by
      obtain ⟨_, _, q0, q1⟩ := hx i (by omega)
      rw [t0] at q0
      rw [t1] at q1
      obtain ⟨k0, e0, _, w0⟩ := DataW.trod_int Try.underlying21 q0
      obtain ⟨k1, e1, _, w1⟩ := DataW.trod_int Try.underlying21 q1
      exact ⟨(k0, k1), by simpa using e0, by simpa using e1, i32_of_wf w0, i32_of_wf w1⟩)
    have hll : ((List.range len).map z).length = len := by simp
    refine ⟨some a, cap, (List.range len).map z, by rw [hll], sl_two (len := len) (by rw [flat_length, hll]) fun i hi => ?_, fun i hi => ?_⟩
    · rw [flat_fst _ i (by rw [hll]; exact hi), flat_snd _ i (by rw [hll]; exact hi), getD_map_range z len i (0, 0) hi, (hx i (by omega)).1, (hx i (by omega)).2.1, (hz i hi).1, (hz i hi).2.1]
      exact ⟨rfl, rfl⟩
    · rw [hll] at hi
      rw [getD_map_range z len i (0, 0) hi]
      exact (hz i hi).2.2
theorem open_ents {v : Value} {x : DataW H × List MemPlace} (h : DataW.trod enc Try.prog W 0 (fun _ => true) true fuel 26 [v] = some x) : ∃ a cap des, v = .slice a (List.length des) cap ∧ Sl W a (flatD des) ∧ (∀ x ∈ des, Sl W x.ad (ints x.zs)) ∧ ∀ x ∈ des, (Lit.int .i32 x.key).wf = true := by
  rcases open_slice_pairs Try.underlying26 Try.underlying58 (by kernel_rfl) rfl rfl (by kernel_rfl) (by kernel_rfl) h with ⟨hcs, _⟩ | ⟨a, len, cap, m, n, V0, V1, D0, D1, P0, P1, hcs, _, hl, _, hm, _, hx⟩
  · cases hcs; exact ⟨none, 0, [], rfl, Sl.nil _ _, fun x hx => absurd hx (by simp), fun x hx => absurd hx (by simp)⟩
  · cases hcs
    have hm' : len ≤ m := by rw [hm]; split <;> omega
    have inh : Inhabited DEnt := ⟨d0⟩
    obtain ⟨z, hz⟩ := choose_lt (α := DEnt) (p := fun i k => V0 i = .int .i32 k.key ∧ V1 i = .slice k.ad k.zs.length k.cap ∧ Sl W k.ad (ints k.zs) ∧ (Lit.int .i32 k.key).wf = true) (n := len) (fun i hi => by
      obtain ⟨_, _, q0, q1⟩ := hx i (by omega)
      obtain ⟨k0, e0, _, w0⟩ := DataW.trod_int Try.underlying21 q0
      obtain ⟨a1, c1, zs, e1, s1⟩ := open_i32s q1
      exact ⟨⟨k0, a1, c1, zs⟩, by simpa using e0, e1, s1, w0⟩)
    have hll : ((List.range len).map z).length = len := by simp
    refine ⟨some a, cap, (List.range len).map z, by rw [hll], sl_two (len := len) (by rw [flatD_len, hll]) fun i hi => ?_, fun x hx => ?_, fun x hx => ?_⟩
    · rw [flatD_key _ i (by rw [hll]; exact hi), flatD_val _ i (by rw [hll]; exact hi), getD_map_range z len i d0 hi, (hx i (by omega)).1, (hx i (by omega)).2.1, (hz i hi).1, (hz i hi).2.1]
      exact ⟨rfl, rfl⟩
    · obtain ⟨i, hi, rfl⟩ := List.mem_map.1 hx
      exact (hz i (List.mem_range.1 hi)).2.2.1
    · obtain ⟨i, hi, rfl⟩ := List.mem_map.1 hx
      exact (hz i (List.mem_range.1 hi)).2.2.2

theorem arr8 {α : Type} {cs : Array α} (h : cs.size = 8) : ∃ c0 c1 c2 c3 c4 c5 c6 c7, cs = #[c0, c1, c2, c3, c4, c5, c6, c7] := by
  obtain ⟨l⟩ := cs
  match l, h with
  | [c0, c1, c2, c3, c4, c5, c6, c7], _ => exact ⟨c0, c1, c2, c3, c4, c5, c6, c7, rfl⟩
theorem arr5 {α : Type} {cs : Array α} (h : cs.size = 5) : ∃ c0 c1 c2 c3 c4, cs = #[c0, c1, c2, c3, c4] := by
  obtain ⟨l⟩ := cs
  match l, h with
  | [c0, c1, c2, c3, c4], _ => exact ⟨c0, c1, c2, c3, c4, rfl⟩
theorem open_bools4 {c0 c1 c2 c3 : Value} {x : DataW H × List MemPlace} (h : DataW.trod enc Try.prog W 0 (fun _ => true) true fuel 25 [c0, c1, c2, c3] = some x) : ∃ b0 b1 b2 b3, c0 = .bool b0 ∧ c1 = .bool b1 ∧ c2 = .bool b2 ∧ c3 = .bool b3 := by
  obtain ⟨xs, m, _, _, _, hl, hf⟩ := DataW.trod_array Try.underlying25 h
  have hc : Try.prog.cellsOf 4 = 1 := by kernel_rfl
  rw [hc] at hf
  match xs, hl with
  | [y0, y1, y2, y3], _ =>
    obtain ⟨b0, e0, _⟩ := DataW.trod_bool Try.underlying4 (hf 0 (by omega))
    obtain ⟨b1, e1, _⟩ := DataW.trod_bool Try.underlying4 (hf 1 (by omega))
    obtain ⟨b2, e2, _⟩ := DataW.trod_bool Try.underlying4 (hf 2 (by omega))
    obtain ⟨b3, e3, _⟩ := DataW.trod_bool Try.underlying4 (hf 3 (by omega))
    simp at e0 e1 e2 e3
    exact ⟨b0, b1, b2, b3, e0, e1, e2, e3⟩

/-- A ZState, opened. -/
theorem open_state {r : Reach} {b : Nat} {v : Value} {d : DataW H} {p : List MemPlace} (hv : Value.okWide Try.prog W r b 28 v) (h : DataW.Trod enc Try.prog W 0 (fun _ => true) true 28 v d p) :
    ∃ ae ce ai ci ar cr c0 c1 c2 c3 ad cd ends items reads des, v = zst ae (List.length ends) ce ai (List.length items) ci ar (List.length reads) cr c0 c1 c2 c3 ad (List.length des) cd ∧ ZV W ae ai ar ad ends items reads des ∧ (∀ i, i < items.length → I32 (items.getD i (0, 0)).1 ∧ I32 (items.getD i (0, 0)).2) ∧ (∀ x ∈ des, (Lit.int .i32 x.key).wf = true) ∧ (∀ i, i < reads.length → I32 (reads.getD i (0, 0)).1 ∧ I32 (reads.getD i (0, 0)).2) := by
  obtain ⟨cs, rfl, hsz⟩ := okWide_struct Try.underlying28 hv
  have hC : Try.prog.cellsOf 28 = 8 := by kernel_rfl
  obtain ⟨v0, v1, v2, v3, v4, v5, v6, v7, rfl⟩ := arr8 (hsz.trans hC)
  obtain ⟨fuel, hf⟩ := h
  obtain ⟨xs, n, _, _, _, hl, hx⟩ := DataW.trod_struct Try.underlying28 hf
  match xs, hl with
  | [y0, y1, y2, y3, y4], _ =>
    have g0 : DataW.trod enc Try.prog W 0 (fun _ => true) true n 22 (([v0, v1, v2, v3, v4, v5, v6, v7].drop 0).take (Try.prog.cellsOf 22)) = some y0 := hx 0 _ rfl
    have g1 : DataW.trod enc Try.prog W 0 (fun _ => true) true n 23 (([v0, v1, v2, v3, v4, v5, v6, v7].drop 1).take (Try.prog.cellsOf 23)) = some y1 := hx 1 _ rfl
    have g2 : DataW.trod enc Try.prog W 0 (fun _ => true) true n 24 (([v0, v1, v2, v3, v4, v5, v6, v7].drop 2).take (Try.prog.cellsOf 24)) = some y2 := hx 2 _ rfl
    have g3 : DataW.trod enc Try.prog W 0 (fun _ => true) true n 25 (([v0, v1, v2, v3, v4, v5, v6, v7].drop 3).take (Try.prog.cellsOf 25)) = some y3 := hx 3 _ rfl
    have g4 : DataW.trod enc Try.prog W 0 (fun _ => true) true n 26 (([v0, v1, v2, v3, v4, v5, v6, v7].drop 7).take (Try.prog.cellsOf 26)) = some y4 := hx 4 _ rfl
    have k22 : Try.prog.cellsOf 22 = 1 := by kernel_rfl
    have k23 : Try.prog.cellsOf 23 = 1 := by kernel_rfl
    have k24 : Try.prog.cellsOf 24 = 1 := by kernel_rfl
    have k25 : Try.prog.cellsOf 25 = 4 := by kernel_rfl
    have k26 : Try.prog.cellsOf 26 = 1 := by kernel_rfl
    rw [k22] at g0
    rw [k23] at g1
    rw [k24] at g2
    rw [k25] at g3
    rw [k26] at g4
    obtain ⟨ae, ce, ends, rfl, s0⟩ := open_u8s (v := v0) g0
    obtain ⟨ai, ci, items, rfl, s1, i1⟩ := open_prs (v := v1) Try.underlying23 Try.underlying49 (by kernel_rfl) rfl rfl rfl rfl g1
    obtain ⟨ar, cr, reads, rfl, s2, i2⟩ := open_prs (v := v2) Try.underlying24 Try.underlying53 (by kernel_rfl) rfl rfl rfl rfl g2
    obtain ⟨b0, b1, b2, b3, rfl, rfl, rfl, rfl⟩ := open_bools4 (c0 := v3) (c1 := v4) (c2 := v5) (c3 := v6) g3
    obtain ⟨ad, cd, des, rfl, s4, sv, wk⟩ := open_ents (v := v7) g4
    exact ⟨ae, ce, ai, ci, ar, cr, b0, b1, b2, b3, ad, cd, ends, items, reads, des, rfl, ⟨s0, s1, s2, s4, sv⟩, i1, wk, i2⟩

/-- The cells of a ZOp. -/
theorem open_op5 {c0 c1 c2 c3 c4 : Value} {x : DataW H × List MemPlace} (h : DataW.trod enc Try.prog W 0 (fun _ => true) true fuel 39 [c0, c1, c2, c3, c4] = some x) :
    ∃ kd tx it so hs, c0 = .int .u8 kd ∧ c1 = .int .i64 tx ∧ c2 = .string it ∧ c3 = .int .i64 so ∧ c4 = .bool hs ∧ it.size ≤ maxLen := by
  obtain ⟨xs, n, _, _, _, hl, hx⟩ := DataW.trod_struct Try.underlying39 h
  match xs, hl with
  | [y0, y1, y2, y3, y4], _ =>
    have g0 : DataW.trod enc Try.prog W 0 (fun _ => true) true n 5 (([c0, c1, c2, c3, c4].drop 0).take (Try.prog.cellsOf 5)) = some y0 := hx 0 _ rfl
    have g1 : DataW.trod enc Try.prog W 0 (fun _ => true) true n 2 (([c0, c1, c2, c3, c4].drop 1).take (Try.prog.cellsOf 2)) = some y1 := hx 1 _ rfl
    have g2 : DataW.trod enc Try.prog W 0 (fun _ => true) true n 9 (([c0, c1, c2, c3, c4].drop 2).take (Try.prog.cellsOf 9)) = some y2 := hx 2 _ rfl
    have g3 : DataW.trod enc Try.prog W 0 (fun _ => true) true n 2 (([c0, c1, c2, c3, c4].drop 3).take (Try.prog.cellsOf 2)) = some y3 := hx 3 _ rfl
    have g4 : DataW.trod enc Try.prog W 0 (fun _ => true) true n 4 (([c0, c1, c2, c3, c4].drop 4).take (Try.prog.cellsOf 4)) = some y4 := hx 4 _ rfl
    have k5 : Try.prog.cellsOf 5 = 1 := by kernel_rfl
    have k2 : Try.prog.cellsOf 2 = 1 := by kernel_rfl
    have k9 : Try.prog.cellsOf 9 = 1 := by kernel_rfl
    have k4 : Try.prog.cellsOf 4 = 1 := by kernel_rfl
    rw [k5] at g0
    rw [k2] at g1
    rw [k9] at g2
    rw [k2] at g3
    rw [k4] at g4
    obtain ⟨kd, e0, _⟩ := DataW.trod_int Try.underlying5 g0
    obtain ⟨tx, e1, _⟩ := DataW.trod_int Try.underlying2 g1
    obtain ⟨it, e2, _, m2⟩ := DataW.trod_string Try.underlying9 g2
    obtain ⟨so, e3, _⟩ := DataW.trod_int Try.underlying2 g3
    obtain ⟨hs, e4, _⟩ := DataW.trod_bool Try.underlying4 g4
    simp at e0 e1 e2 e3 e4
    exact ⟨kd, tx, it, so, hs, e0, e1, e2, e3, e4, m2⟩
theorem open_op {r : Reach} {b : Nat} {v : Value} {d : DataW H} {p : List MemPlace} (hv : Value.okWide Try.prog W r b 39 v) (h : DataW.Trod enc Try.prog W 0 (fun _ => true) true 39 v d p) :
    ∃ kd tx it so hs, v = .agg #[.int .u8 kd, .int .i64 tx, .string it, .int .i64 so, .bool hs] := by
  obtain ⟨cs, rfl, hsz⟩ := okWide_struct Try.underlying39 hv
  have hC : Try.prog.cellsOf 39 = 5 := by kernel_rfl
  obtain ⟨v0, v1, v2, v3, v4, rfl⟩ := arr5 (hsz.trans hC)
  obtain ⟨fuel, hf⟩ := h
  obtain ⟨kd, tx, it, so, hs, rfl, rfl, rfl, rfl, rfl, _⟩ := open_op5 (c0 := v0) (c1 := v1) (c2 := v2) (c3 := v3) (c4 := v4) hf
  exact ⟨kd, tx, it, so, hs, rfl⟩
end

end Go.Proofs.Qxb6625890a
