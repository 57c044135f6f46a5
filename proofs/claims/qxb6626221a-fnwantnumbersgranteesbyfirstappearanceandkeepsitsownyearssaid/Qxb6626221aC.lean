/-
  Seat b6626221a: roster.Want.
-/
import Derived.Test.Qxb6626221aB
import Derived.Test.Qxb6626221aL
namespace Go.Proofs.Qxb6626221a
open Go.RowKit Go.Maps
open Go.WideMaps (keyOf_string_mk)
set_option linter.unusedVariables false
attribute [local go_sem] eqNil23 neNil23 neNil22

theorem law9 : Keyed Try.prog 9 := string_keyed Try.underlying9
theorem zero3 (w : World) : (zeroValue 3).run Try.prog w = .ok (.int .i64 0) w := by kernel_rfl

theorem makeHint (n : Int) (w : World) : (Instr.makeMap 26 (some (.int .i64 n))).run Try.prog w = .ok (.map (some w.heap.size)) (w.alloc (.map #[] 0)) := by kernel_rfl

/-- A slice of int: nil and empty, or its elements are zs. -/
def IntsO (w : World) (c : Option Addr) (zs : List Int) : Prop := (c = none → zs = []) ∧ ∀ ad, c = some ad → Ints w ad zs

/-- The shape of a slice that owns a row. -/
theorem row_shape {w : World} {base : Nat} {e : TypeId} {size : Nat} {v : Value} {n : Nat} {xs : List Value} (h : w.ownsRow base e size v n xs) : ∃ o cp, v = .slice o n cp ∧ (v ≠ .slice none 0 0 → o ≠ none) := by
  rcases h.2 with ⟨rfl, rfl⟩ | ⟨g, cap, cur, rfl, _⟩
  · exact ⟨none, 0, rfl, fun h => absurd rfl h⟩
  · exact ⟨some ⟨g, 0, none⟩, cap, rfl, fun _ => by simp⟩

theorem row_mono {w : World} {base base' : Nat} {e : TypeId} {size : Nat} {v : Value} {n : Nat} {xs : List Value} (hb : base' ≤ base) (h : w.ownsRow base e size v n xs) : w.ownsRow base' e size v n xs := by
  refine ⟨h.1, ?_⟩
  rcases h.2 with h | ⟨g, cap, cur, e1, e2, h⟩
  · exact Or.inl h
  · exact Or.inr ⟨g, cap, cur, e1, Nat.le_trans hb e2, h⟩

theorem clone_any (c : Option Addr) (cap : Nat) (zs : List Int) (w : World) (hs : IntsO w c zs) (hl : zs.length ≤ 65536) :
    Calls Try.prog 11 #[.slice c zs.length cap] w fun e w' => ∃ o cp, e = .returned (.slice o zs.length cp) ∧ o.isNone = c.isNone ∧
      w'.ownsRow w.heap.size 3 1 (.slice o zs.length cp) zs.length (zs.map (Value.int .i64)) ∧ Below w.heap.size w w' := by
  cases c with
  | none =>
    obtain rfl := hs.1 rfl
    refine (clone_nil cap w).mono ?_
    rintro e w' ⟨rfl, hw⟩
    subst hw
    exact ⟨none, 0, rfl, rfl, World.ownsRow_nil _ _ _ _, Below.refl _ _⟩
  | some ad =>
    refine (clone_some ad cap zs w (hs.2 ad rfl) hl).mono ?_
    rintro e w' ⟨v, rfl, hv, ho, hb⟩
    obtain ⟨o, cp, rfl, hne⟩ := row_shape ho
    refine ⟨o, cp, rfl, ?_, ho, hb⟩
    cases o with
    | none => exact absurd rfl (hne hv)
    | some x => rfl

theorem IntsO.below {w w' : World} {c : Option Addr} {zs : List Int} (h : IntsO w c zs) (hb : Below w.heap.size w w') : IntsO w' c zs := ⟨h.1, fun ad e => (h.2 ad e).below hb⟩

/-- A map of names to numbers that numbers 'acc' by place. -/
def Num (D : DataW Unit) (acc : List Pl.Ky) : Prop :=
  (∀ g : Pl.Ky, Maps.has D (.string g) = decide (g ∈ acc)) ∧ (∀ g : Pl.Ky, g ∈ acc → D.atKey (.string g) (.lit (.int .i64 0)) = .lit (.int .i64 (acc.idxOf g))) ∧ Maps.size D = acc.length

theorem num_empty : Num (.map []) [] := ⟨fun g => by simp [Maps.has], fun g h => by simp at h, rfl⟩
theorem num_put {D : DataW Unit} {acc : List Pl.Ky} (h : Num D acc) (ht : Tidy D) (g : Pl.Ky) (hg : g ∉ acc) : Num (D.put (.string g) (.lit (.int .i64 (Maps.size D)))) (acc ++ [g]) := by
  obtain ⟨h1, h2, h3⟩ := h
  have hk : WideAt.IsKeyLit (.string g) := by trivial
  refine ⟨fun x => ?_, fun x hx => ?_, ?_⟩
  · by_cases e : x = g
    · subst e; rw [has_put_same ht.isMap hk]; simp
    · rw [has_put_other (by simpa using e), h1]; simp [e]
  · by_cases e : x = g
    · subst e
      rw [atKey_put_same ht.isMap hk, h3, List.idxOf_append, if_neg hg]; simp
    · have hx' : x ∈ acc := by simpa [e] using hx
      rw [atKey_put_other (by simpa using e), h2 x hx', List.idxOf_append, if_pos hx']
  · rw [size_put ht, h1]; simp [hg, h3]

def keys (ss : List ByteArray) : List Pl.Ky := ss.map (fun s => s.data.toList)
theorem keys_len (ss : List ByteArray) : (keys ss).length = ss.length := by simp [keys]
theorem keys_getD (ss : List ByteArray) (k : Nat) (h : k < ss.length) : (keys ss).getD k [] = (ss.getD k ByteArray.empty).data.toList := by simp [keys, h]

set_option maxHeartbeats 2000000 in
theorem want_any (a : Option Addr) (cap : Nat) (ss : List ByteArray) (c : Option Addr) (cap2 : Nat) (zs : List Int) (w : World) (hs : Strs w a ss) (hw : ∀ i, (ss.getD i ByteArray.empty).size ≤ maxLen) (hl : ss.length ≤ 4096) (hc : IntsO w c zs) (hz : zs.length ≤ 65536) :
    Calls Try.prog 7 #[.slice a ss.length cap, .slice c zs.length cap2] w fun e w' => ∃ (b : Nat) (o : Option Addr) (cp : Nat) (D : DataW Unit), e = .returned (.agg #[.map (some b), .slice o zs.length cp]) ∧ w.heap.size ≤ b ∧
      w'.ownsMap Try.prog 9 (plainElem Try.prog 3) b ss.length D ∧ Num D (Pl.dst (keys ss)) ∧ o.isNone = c.isNone ∧
      w'.ownsRow w.heap.size 3 1 (.slice o zs.length cp) zs.length (zs.map (Value.int .i64)) ∧ Below w.heap.size w w' := by
  have hmm := makeHint
  go_enter Try.func7, Try.ntmps7
  go_wp2
  clear hmm
  go_loopw [15] (fun i wr => ∃ (k : Nat) (D : DataW Unit), k ≤ ss.length ∧ i = .int .i64 k ∧ wr.ownsMap Try.prog 9 (plainElem Try.prog 3) (w.heap.size + 1) k D ∧ Num D (Pl.dst ((keys ss).take k)) ∧
      wr.heap[w.heap.size]? = some (.cells #[.map none, .slice none 0 0] 28 (0, 0)) ∧ Below w.heap.size w wr ∧ w.heap.size + 1 < wr.heap.size) (fun i _ => ss.length - (intOf i).toNat)
  case atStart =>
    refine ⟨0, .map [], Nat.zero_le _, rfl, ?_, num_empty, ?_, ?_, ?_⟩
    · have := World.ownsMap_made (H := Unit) (w.alloc (.cells #[.map none, .slice none 0 0] 28)) Try.prog 9 (plainElem Try.prog 3)
      simpa using this
    · rw [Below.heap_alloc _ _ _ (by simp)]; exact heap_alloc_new w _
    · exact ((Below.refl _ _).alloc (Nat.le_refl _) _).alloc (by simp) _
    · simp
  case round =>
    obtain ⟨k, D, hk, rfl, hown, hnum, hblk, hnx, hsz⟩ := hrel
    by_cases hlt : k < ss.length
    · obtain ⟨b, off, rfl, hcs⟩ := hs (ne_of_lt hlt)
      have hcx : wr.cell? ⟨b, off + k, none⟩ = some (.string (ss.getD k ByteArray.empty)) := cell_later hnx (hcs k hlt)
      have hkey : keyOf Try.prog 9 (.string (ss.getD k ByteArray.empty)) = some (.string ((keys ss).getD k [])) := by
        rw [keys_getD ss k hlt]; exact keyOf_string_mk Try.underlying9 (hw k)
      generalize ss.getD k ByteArray.empty = g at hcx hkey
      have hhas := hnum.1 ((keys ss).getD k [])
      have hkl : k < (keys ss).length := by rw [keys_len]; exact hlt
      by_cases hin : (keys ss).getD k [] ∈ Pl.dst ((keys ss).take k)
      · have hh : Maps.has D (.string ((keys ss).getD k [])) = true := by rw [hhas]; simpa using hin
        have HN : Hid (Num D (Pl.dst ((keys ss).take (k + 1)))) := by rw [Pl.dst_take_old _ _ hkl hin]; exact hnum
        generalize (keys ss).getD k [] = kg at hkey hh
        clear hhas hnum hin hcs hs hw hc
        go_wp2_with (first
          | (at_lookup; go_must (refine wpList_lookup_own_ok_int _ rfl _ _ 26 rfl 9 3 .i64 law9 Try.underlying26 Try.underlying3 (zero3 _) (w.heap.size + 1) k D rfl hown _ _ rfl hkey ?_; intro c0 hat hwc)))
        go_roundw
        case rel => exact ⟨k + 1, D, by omega, by go_num, hown.mono (Nat.le_succ _), HN, hblk, hnx, hsz⟩
        case measure => simp [intOf]; omega
      · have hh : Maps.has D (.string ((keys ss).getD k [])) = false := by rw [hhas]; simpa using hin
        have HN : Hid (Num (D.put (.string ((keys ss).getD k [])) (.lit (.int .i64 (Maps.size D)))) (Pl.dst ((keys ss).take (k + 1)))) := by rw [Pl.dst_take_new _ _ hkl hin]; exact num_put hnum (hown.tidy law9) _ hin
        have hsl := hown.size_le
        generalize (keys ss).getD k [] = kg at hkey hh HN
        clear hhas hnum hin hcs hs hw hc
        go_wp2_with (first
          | (at_lookup; go_must (refine wpList_lookup_own_ok_int _ rfl _ _ 26 rfl 9 3 .i64 law9 Try.underlying26 Try.underlying3 (zero3 _) (w.heap.size + 1) k D rfl hown _ _ rfl hkey ?_; intro c0 hat hwc))
          | (at_len; go_must (refine wpList_len_own _ rfl _ 26 rfl 9 3 Try.underlying26 _ (w.heap.size + 1) k D rfl hown ?_))
          | (at_mapUpdate; go_must (refine wpList_mapUpdate_own _ rfl _ _ _ 26 rfl 9 3 law9 Try.underlying26 _ (w.heap.size + 1) k D rfl hown (by unfold maxLen; omega) _ _ _ rfl rfl hkey _ [] (plainElem_int Try.underlying3 (WalkArith.wf_i64 (by omega))) ?_; intro w1 hown1 hgrow1)))
        go_roundw
        case rel =>
          refine ⟨k + 1, _, by omega, by go_num, hown1, HN, ?_, hnx.grown hgrow1 hnx.size (fun j hj => by cases hj; omega), Nat.lt_of_lt_of_le hsz hgrow1.size⟩
          rw [hgrow1.block _ (by omega) (by simp)]; exact hblk
        case measure => simp [intOf]; omega
    · have hke : k = ss.length := by omega
      subst hke
      rw [List.take_of_length_le (by rw [keys_len]; omega)] at hnum
      have hcw := hc.below hnx
      have HN : Hid _ := hnum
      clear hnum hc hs hw
      go_wp2_with fail
      refine (clone_any c cap2 zs _ hcw hz).mono ?_
      rintro e w2 ⟨o, cp, rfl, hv1, hrow, hb2⟩
      have hown2 : w2.ownsMap Try.prog 9 (plainElem Try.prog 3) (w.heap.size + 1) ss.length D := map_below hown hb2
      have hblk2 : w2.heap[w.heap.size]? = some (.cells #[.map none, .slice none 0 0] 28 (0, 0)) := by rw [hb2.block _ (by omega)]; exact hblk
      have c0 : w2.cell? ⟨w.heap.size, 0, none⟩ = some (.map none) := cell_of_row w2 w.heap.size 0 _ _ _ hblk2
      have c1 : w2.cell? ⟨w.heap.size, 1, none⟩ = some (.slice none 0 0) := cell_of_row w2 w.heap.size 1 _ _ _ hblk2
      have f0 := frozen_of_row w2 w.heap.size 0 _ _ hblk2
      have f1 := frozen_of_row w2 w.heap.size 1 _ _ hblk2
      have HV : Hid _ := hv1
      clear hblk hblk2 hv1 hcw
      go_wp2
      refine bodyPost_ret (v := .agg #[.map (some (w.heap.size + 1)), .slice o zs.length cp]) (by simp [results, Try.results7, go_sem, c0, c1]) rfl ⟨_, o, cp, D, rfl, Nat.le_succ _, ?_, HN, HV, ?_, ?_⟩
      · exact (hown2.setCell (by simp) _).setCell (by simp) _
      · exact row_mono (Nat.le_trans (Nat.le_succ _) (Nat.le_of_lt hsz)) (ownsRow_setCell_below (ownsRow_setCell_below hrow (by simp; omega) _) (by simp; omega) _)
      · exact ((hnx.trans (hb2.mono hnx.size)).setCell (Nat.le_refl _) _).setCell (Nat.le_refl _) _

end Go.Proofs.Qxb6626221a
