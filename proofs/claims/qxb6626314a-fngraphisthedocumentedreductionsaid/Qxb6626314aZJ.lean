/-
  Seat b6626314a: zzPack, zzAddEdge, zzDedupe.
-/
import Derived.Test.Qxb6626314aZE
namespace Go.Proofs.Qxb6626314a
open Go.RowKit Go.Maps Go.Sort
set_option linter.unusedVariables false
set_option linter.unusedSimpArgs false
/-! ### zzPack, zzAddEdge, zzDedupe -/
def pk (u v : Int) : Int := u * 4294967296 + v
theorem or_pack (u v : Nat) (hu : u ≤ 100000) (hv : v ≤ 100000) : bits BinOp.or IntKind.i64 ((u : Int) * 4294967296) (v : Int) = (u : Int) * 4294967296 + v := by
  have h1 : (BitVec.ofInt 64 ((u : Int) * 4294967296)).toNat = u * 4294967296 := by
    rw [BitVec.toNat_ofInt]; omega
  have h2 : (BitVec.ofInt 64 (v : Int)).toNat = v := by
    rw [BitVec.toNat_ofInt]; omega
  have h3 : u * 4294967296 ||| v = u * 4294967296 + v := by
    have := Nat.two_pow_add_eq_or_of_lt (i := 32) (b := v) (by omega) u
    rw [Nat.mul_comm u 4294967296]
    exact this.symm
  show IntKind.i64.wrap ((BitVec.ofInt 64 ((u : Int) * 4294967296) ||| BitVec.ofInt 64 (v : Int)).toNat : Int) = _
  rw [BitVec.toNat_or, h1, h2, h3]
  unfold IntKind.wrap
  simp [IntKind.bits, IntKind.signed]
  omega
set_option maxRecDepth 100000 in
theorem pack_any (u v : Nat) (w : World) (hu : u ≤ 100000) (hv : v ≤ 100000) : Calls Try.prog 18 #[.int .i32 u, .int .i32 v] w fun e w' => e = .returned (.int .i64 (pk u v)) ∧ w' = w := by
  go_enter Try.func18, Try.ntmps18
  have ho := or_pack u v hu hv
  go_wp2_with fail
  go_ret
  exact ⟨by unfold pk; rfl, rfl⟩
def edW (e : List Int) (u v : Nat) : List Int := if u = v then e else e ++ [pk u v]
/-- What zzAddEdge answers. -/
def EdP (B : Nat) (e : List Int) (u v : Nat) (ve : Value) (w : World) (en : Ending) (w' : World) : Prop :=
  ∃ o k c, en = .returned (.slice o k c) ∧ w'.ownsRow B 2 1 (.slice o k c) (edW e u v).length (int64s (edW e u v)) ∧ KeepF (fun g => ve.ownBlock = some g) w w' ∧ ∀ g, (Value.slice o k c).ownBlock = some g → ve.ownBlock = some g ∨ w.heap.size ≤ g
set_option maxRecDepth 100000 in
set_option maxHeartbeats 2000000 in
theorem edW_any (B : Nat) (o : Option Addr) (k c : Nat) (e : List Int) (u v : Nat) (w : World) (h : w.ownsRow B 2 1 (.slice o k c) e.length (int64s e)) (hB : B ≤ w.heap.size) (hu : u ≤ 100000) (hv : v ≤ 100000) (hl : e.length ≤ 100000000) :
    Calls Try.prog 32 #[.slice o k c, .int .i32 u, .int .i32 v] w (EdP B e u v (.slice o k c) w) := by
  obtain ⟨i0, hi0, hz0, hz1, hz2⟩ := info_parts Try.info2
  have hk : k = e.length := by
    obtain ⟨ox, cx, hx⟩ := row_shape h
    simp at hx
    exact hx.2.1
  subst hk
  by_cases huv : u = v
  · subst huv
    have HR : Hid (EdP B e u u (.slice o e.length c) w (.returned (.slice o e.length c)) w) := ⟨o, e.length, c, rfl, by simpa [edW] using h, KeepF.refl _ _, fun g hg => Or.inl hg⟩
    clear h
    go_enter Try.func32, Try.ntmps32
    go_wp2_with fail
    go_ret
    exact HR.out
  · have huv' : ¬ ((u : Int) = (v : Int)) := by omega
    have hb1 : Below w.heap.size w (w.alloc (.cells #[.int .i64 (pk u v)] 2)) := (Below.refl _ _).alloc (Nat.le_refl _) _
    have HRa : Hid ((w.alloc (.cells #[.int .i64 (pk u v)] 2)).ownsRow B 2 1 (.slice o e.length c) e.length (int64s e)) := row_below h hb1
    have q1 : e.length + 1 ≤ maxLen := by unfold maxLen; omega
    have q2 : (e.length + 1) * 8 ≤ 140737488355328 := by omega
    have q3 : B ≤ (w.alloc (.cells #[.int .i64 (pk u v)] 2)).heap.size := Nat.le_trans hB hb1.size
    have HNW : Hid (∀ j x, [Value.int .i64 (pk u v)][j]? = some x → (w.alloc (.cells #[.int .i64 (pk u v)] 2)).cell? ((⟨w.heap.size, 0, none⟩ : Addr).add j) = some x) := World.news_of_block (w := w.alloc (.cells #[.int .i64 (pk u v)] 2)) (cs := #[.int .i64 (pk u v)]) (t := 2) (fr := (0, 0)) (heap_alloc_new w _)
    have HC : Hid _ := pack_any u v w hu hv
    have HB1 : Hid _ := hb1
    have hED : edW e u v = e ++ [pk u v] := by simp [edW, huv]
    have HED : Hid _ := hED
    clear h hb1 hED
    generalize hpk : pk u v = p at HC HRa HNW HB1 HED q3
    clear hpk
    go_enter Try.func32, Try.ntmps32
    go_wp2_with fail
    refine Calls.mono HC.out ?_
    rintro e1 w1 ⟨rfl, hw1⟩
    subst hw1
    go_wp2_with (at_builtin; go_must (refine wpList_append_own_at _ rfl _ _ 23 rfl B 2 i0 (.int .i64 0) 1 8 Try.underlying23 hi0 hz0 hz1 hz2 rfl Nat.zero_lt_one (.slice o e.length c) e.length (int64s e) rfl HRa.out ⟨w1.heap.size, 0, none⟩ 1 1 [.int .i64 p] rfl rfl HNW.out (one_64 p) q1 q2 q3 ?_; intro v' w5 hown5 hgrow5 hnil5 hloc5; obtain ⟨o5, cp5, hv5⟩ := row_shape hown5; subst hv5))
    go_ret
    refine ⟨o5, e.length + 1, cp5, rfl, ?_, (KeepF.of_below HB1.out).trans (KeepF.of_grown hgrow5 (fun g hg => hg)), fun g hg => ?_⟩
    · rw [HED.out]
      have e1 : int64s (e ++ [p]) = int64s e ++ [.int .i64 p] := by simp [int64s]
      rw [e1, List.length_append]; exact hown5
    · rcases hloc5 with e2 | e2
      · left; rw [← e2]; exact hg
      · right
        rw [e2] at hg
        have : w1.heap.size + 1 = g := by simpa using hg
        omega
/-- What zzDedupe answers. -/
def DedP (w : World) (s : List Int) (e : Ending) (w' : World) : Prop := ∃ o k c ys, e = .returned (.slice o k c) ∧ k = ys.length ∧ Sl w' o (int64s ys) ∧ ys.Pairwise (· < ·) ∧ SameM ys s ∧ ys.length ≤ s.length ∧ Below w.heap.size w w'
structure DI (s : List Int) (i : Nat) (ys : List Int) : Prop where
  asc : ys.Pairwise (· < ·)
  mem : ∀ x, x ∈ ys ↔ ∃ k, k < i ∧ s.getD k 0 = x
  len : ys.length ≤ i
theorem DI.skip {s : List Int} {i : Nat} {ys : List Int} (h : DI s (i + 1) ys) (he : s.getD (i + 1) 0 = s.getD i 0) : DI s (i + 1 + 1) ys := by
  refine ⟨h.asc, fun x => ?_, by have := h.len; omega⟩
  rw [h.mem x]
  constructor
  · rintro ⟨k, a, b⟩; exact ⟨k, by omega, b⟩
  · rintro ⟨k, a, b⟩
    by_cases e : k = i + 1
    · subst e; exact ⟨i, by omega, by rw [← he]; exact b⟩
    · exact ⟨k, by omega, b⟩
theorem DI.take {s : List Int} {i : Nat} {ys : List Int} (h : DI s i ys) (hs : s.Pairwise (· ≤ ·)) (hi : i < s.length) (hne : ∀ k, k + 1 = i → s.getD i 0 ≠ s.getD k 0) : DI s (i + 1) (ys ++ [s.getD i 0]) := by
  refine ⟨?_, fun x => ?_, by have := h.len; rw [List.length_append]; simp; omega⟩
  · rw [List.pairwise_append]
    refine ⟨h.asc, by simp, fun a ha b hb => ?_⟩
    simp only [List.mem_singleton] at hb
    subst hb
    obtain ⟨k, hk, rfl⟩ := (h.mem a).1 ha
    cases i with
    | zero => omega
    | succ j =>
      have h1 := sorted_getD hs (show k ≤ j by omega) (show j < s.length by omega)
      have h2 := sorted_getD hs (show j ≤ j + 1 by omega) hi
      have h3 := hne j rfl
      omega
  · rw [List.mem_append, h.mem x, List.mem_singleton]
    constructor
    · rintro (⟨k, a, b⟩ | rfl)
      · exact ⟨k, by omega, b⟩
      · exact ⟨i, by omega, rfl⟩
    · rintro ⟨k, a, b⟩
      by_cases e : k = i
      · subst e; exact Or.inr b.symm
      · exact Or.inl ⟨k, by omega, b⟩
set_option maxRecDepth 100000 in
set_option maxHeartbeats 2000000 in
theorem dedupe_any (o : Option Addr) (c : Nat) (s : List Int) (w : World) (hs : Sl w o (int64s s)) (hp : s.Pairwise (· ≤ ·)) (hn : s.length ≤ 1000000) :
    Calls Try.prog 33 #[.slice o s.length c] w (DedP w s) := by
  obtain ⟨i0, hi0, hz0, hz1, hz2⟩ := info_parts Try.info2
  have HS : Hid (Sl w o (int64s s)) := hs
  have HP : Hid (s.Pairwise (· ≤ ·)) := hp
  clear hs hp
  go_enter Try.func33, Try.ntmps33
  go_wp2_with (at_make; go_must (refine wpList_make_own _ rfl _ _ 23 rfl w.heap.size 2 i0 (.int .i64 0) 1 Try.underlying23 hi0 hz0 hz1 .i64 .i64 _ s.length rfl rfl rfl (by rw [hz2]; omega) (by unfold maxLen; omega) (Nat.le_refl _) ?_; intro w1 hown1 hgrow1))
  have H0 : Hid (∃ ys, w1.ownsRow w.heap.size 2 1 (.slice (some ⟨w.heap.size, 0, none⟩) 0 s.length) ys.length (int64s ys) ∧ DI s 0 ys ∧ Below w.heap.size w w1) := ⟨[], hown1, ⟨by simp, fun x => by simp, Nat.le_refl _⟩, below_of_grown hgrow1⟩
  clear hown1 hgrow1
  go_loopw [3, 11] (fun v3 vi wr => ∃ (i : Nat) (o' : Option Addr) (k c' : Nat), v3 = .slice o' k c' ∧ vi = .int .i64 i ∧ i ≤ s.length ∧ k ≤ i ∧ Hid (∃ ys, wr.ownsRow w.heap.size 2 1 (.slice o' k c') ys.length (int64s ys) ∧ DI s i ys ∧ Below w.heap.size w wr)) (fun _ vi _ => s.length - (intOf vi).toNat)
  case atStart => exact ⟨0, some ⟨w.heap.size, 0, none⟩, 0, s.length, rfl, rfl, Nat.zero_le _, Nat.le_refl _, H0⟩
  case round =>
    clear H0
    obtain ⟨i, o2, k2, c2, rfl, rfl, hi, hki, HO⟩ := hrel
    obtain ⟨ys, hrow, hDI, hbel⟩ := HO.out
    have hk2 : k2 = ys.length := by
      obtain ⟨ox, cx, hx⟩ := row_shape hrow
      simp at hx
      exact hx.2.1
    by_cases hil : i < s.length
    · have hil' : (i : Int) < (s.length : Int) := by omega
      obtain ⟨b, off, ho, ci⟩ := i64_cell (HS.out.below hbel) hil
      by_cases htake : ∀ k, k + 1 = i → s.getD i 0 ≠ s.getD k 0
      · obtain ⟨x, hx⟩ : ∃ x, s.getD i 0 = x := ⟨_, rfl⟩
        rw [hx] at ci
        have hb1 : Below wr.heap.size wr (wr.alloc (.cells #[.int .i64 x] 2)) := (Below.refl _ _).alloc (Nat.le_refl _) _
        have HRa : Hid ((wr.alloc (.cells #[.int .i64 x] 2)).ownsRow w.heap.size 2 1 (.slice o2 k2 c2) k2 (int64s ys)) := by rw [hk2]; have := row_below hrow hb1; rw [hk2] at this; exact this
        have hdi2 := hDI.take HP.out hil htake
        rw [hx] at hdi2
        have HDI2 : Hid _ := hdi2
        have q1 : k2 + 1 ≤ maxLen := by unfold maxLen; omega
        have q2 : (k2 + 1) * 8 ≤ 140737488355328 := by omega
        have q3 : w.heap.size ≤ (wr.alloc (.cells #[.int .i64 x] 2)).heap.size := Nat.le_trans hbel.size hb1.size
        have HNW : Hid (∀ j u, [Value.int .i64 x][j]? = some u → (wr.alloc (.cells #[.int .i64 x] 2)).cell? ((⟨wr.heap.size, 0, none⟩ : Addr).add j) = some u) := World.news_of_block (w := wr.alloc (.cells #[.int .i64 x] 2)) (cs := #[.int .i64 x]) (t := 2) (fr := (0, 0)) (heap_alloc_new wr _)
        have HBL : Hid (Below w.heap.size w (wr.alloc (.cells #[.int .i64 x] 2)) ∧ k2 = ys.length) := ⟨hbel.trans (hb1.mono hbel.size), hk2⟩
        have HTK : Hid (∀ k, k + 1 = i → x ≠ s.getD k 0) := by rw [← hx]; exact htake
        have HSB : Hid (Below w.heap.size w wr) := hbel
        clear HO hrow hDI hbel hk2 hb1 hdi2 htake hx
        cases i with
        | zero =>
          subst ho
          rw [Nat.add_zero] at ci
          have hil0 : (0 : Int) < (s.length : Int) := by omega
          go_upto_region 5 with fail
          go_wp2_with (at_builtin; go_must (refine wpList_append_own_at _ rfl _ _ 23 rfl w.heap.size 2 i0 (.int .i64 0) 1 8 Try.underlying23 hi0 hz0 hz1 hz2 rfl Nat.zero_lt_one (.slice o2 k2 c2) k2 (int64s ys) rfl HRa.out ⟨wr.heap.size, 0, none⟩ 1 1 [.int .i64 x] rfl rfl HNW.out (one_64 x) q1 q2 q3 ?_; intro v' w5 hown5 hgrow5 hnil5 hloc5; obtain ⟨o5, cp5, hv5⟩ := row_shape hown5; subst hv5))
          have HZ : Hid (∃ ys, w5.ownsRow w.heap.size 2 1 (.slice o5 (k2 + 1) cp5) ys.length (int64s ys) ∧ DI s (0 + 1) ys ∧ Below w.heap.size w w5) := by
            refine ⟨ys ++ [x], ?_, HDI2.out, HBL.out.1.trans ⟨hgrow5.os, hgrow5.tape, hgrow5.output, hgrow5.size, fun k hk => hgrow5.block k (by omega) (fun e => ?_)⟩⟩
            · have e1 : int64s (ys ++ [x]) = int64s ys ++ [.int .i64 x] := by simp [int64s]
              rw [e1, List.length_append, ← HBL.out.2]; exact hown5
            · have := (row_tag HRa.out k e.symm).1; omega
          clear hown5 hgrow5 hnil5 hloc5 HRa HNW HBL HDI2
          go_wp2_with fail
          go_roundw
          case rel => exact ⟨0 + 1, o5, k2 + 1, cp5, rfl, by go_num, by omega, by omega, HZ⟩
          case measure => simp [intOf]; omega
        | succ i' =>
          obtain ⟨b', off', ho', ci'⟩ := i64_cell (HS.out.below HSB.out) (show i' < s.length by omega)
          rw [ho] at ho'
          simp at ho'
          obtain ⟨rfl, rfl⟩ := ho'
          have hne : x ≠ s.getD i' 0 := HTK.out i' rfl
          generalize s.getD i' 0 = y at ci' hne
          have hne2 : (x != y) = true := by simpa using hne
          have hi0' : ¬ (((i' + 1 : Nat) : Int) = 0) := by omega
          have hm1 : ((i' + 1 : Nat) : Int) - 1 = (i' : Int) := by omega
          have hil2 : (i' : Int) < (s.length : Int) := by omega
          subst ho
          go_wp2_with (at_builtin; go_must (refine wpList_append_own_at _ rfl _ _ 23 rfl w.heap.size 2 i0 (.int .i64 0) 1 8 Try.underlying23 hi0 hz0 hz1 hz2 rfl Nat.zero_lt_one (.slice o2 k2 c2) k2 (int64s ys) rfl HRa.out ⟨wr.heap.size, 0, none⟩ 1 1 [.int .i64 x] rfl rfl HNW.out (one_64 x) q1 q2 q3 ?_; intro v' w5 hown5 hgrow5 hnil5 hloc5; obtain ⟨o5, cp5, hv5⟩ := row_shape hown5; subst hv5))
          have HZ : Hid (∃ ys, w5.ownsRow w.heap.size 2 1 (.slice o5 (k2 + 1) cp5) ys.length (int64s ys) ∧ DI s ((i' + 1) + 1) ys ∧ Below w.heap.size w w5) := by
            refine ⟨ys ++ [x], ?_, HDI2.out, HBL.out.1.trans ⟨hgrow5.os, hgrow5.tape, hgrow5.output, hgrow5.size, fun k hk => hgrow5.block k (by omega) (fun e => ?_)⟩⟩
            · have e1 : int64s (ys ++ [x]) = int64s ys ++ [.int .i64 x] := by simp [int64s]
              rw [e1, List.length_append, ← HBL.out.2]; exact hown5
            · have := (row_tag HRa.out k e.symm).1; omega
          clear hown5 hgrow5 hnil5 hloc5 HRa HNW HBL HDI2
          go_wp2_with fail
          go_roundw
          case rel => exact ⟨(i' + 1) + 1, o5, k2 + 1, cp5, rfl, by go_num, by omega, by omega, HZ⟩
          case measure => simp [intOf]; omega
      · obtain ⟨i', hi', heq⟩ : ∃ k, k + 1 = i ∧ s.getD i 0 = s.getD k 0 := by
          apply Classical.byContradiction
          intro hh
          exact htake (fun k hk e => hh ⟨k, hk, e⟩)
        subst hi'
        obtain ⟨b', off', ho', ci'⟩ := i64_cell (HS.out.below hbel) (show i' < s.length by omega)
        rw [ho] at ho'
        simp at ho'
        obtain ⟨rfl, rfl⟩ := ho'
        have HZ : Hid (∃ ys, wr.ownsRow w.heap.size 2 1 (.slice o2 k2 c2) ys.length (int64s ys) ∧ DI s (i' + 1 + 1) ys ∧ Below w.heap.size w wr) := ⟨ys, hrow, hDI.skip heq, hbel⟩
        rw [heq] at ci
        have hi0' : ¬ (((i' + 1 : Nat) : Int) = 0) := by omega
        have hm1 : ((i' + 1 : Nat) : Int) - 1 = (i' : Int) := by omega
        have hil2 : (i' : Int) < (s.length : Int) := by omega
        generalize s.getD i' 0 = y at ci ci'
        clear HO hrow hDI hbel hk2 heq htake
        subst ho
        go_wp2_with fail
        go_roundw
        case rel => exact ⟨i' + 1 + 1, o2, k2, c2, rfl, by go_num, by omega, by omega, HZ⟩
        case measure => simp [intOf]; omega
    · have hie : i = s.length := by omega
      have HZ : Hid (DedP w s (.returned (.slice o2 k2 c2)) wr) := ⟨o2, k2, c2, ys, rfl, hk2, by rw [hk2] at hrow; exact sl_of_row hrow, hDI.asc, fun x => by
        rw [hDI.mem x, hie]
        constructor
        · rintro ⟨k, a, b⟩; rw [← b]; exact getD_mem 0 a
        · intro hx; obtain ⟨k, a, b⟩ := mem_getD (d := 0) hx; exact ⟨k, a, b⟩, by have := hDI.len; omega, hbel⟩
      clear HO hrow hDI hbel hk2
      subst hie
      go_wp2_with fail
      go_ret
      exact HZ.out
end Go.Proofs.Qxb6626314a
