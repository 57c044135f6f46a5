/-
  Seat b6625890a: zzBuild. Frames written by program.
-/
import Derived.Test.Qxb6625890aO
namespace Go.Proofs.Qxb6625890a
open Go.RowKit Go.Maps
set_option linter.unusedVariables false

def QB (R : Value → World → Prop) : Exit → Act → World → Prop := bodyPost Try.prog Try.f8 (fun e w' => ∃ v, e = .returned v ∧ R v w')
theorem KeepF.cell {F : Nat → Prop} {w w' : World} (h : KeepF F w w') {b off : Nat} {x : Value} (hn : ¬ F b) (hc : w.cell? ⟨b, off, none⟩ = some x) : w'.cell? ⟨b, off, none⟩ = some x :=
  (World.cell?_of_block (h.block b (World.block_lt_of_cell? w _ hc) hn)).trans hc
theorem KeepF.blk {F : Nat → Prop} {w w' : World} (h : KeepF F w w') {b : Nat} {o : Obj} (hn : ¬ F b) (hc : w.heap[b]? = some o) : w'.heap[b]? = some o :=
  (h.block b (Array.getElem?_eq_some_iff.1 hc).1 hn).trans hc
theorem KeepF.row {F : Nat → Prop} {w w' : World} (h : KeepF F w w') {base : Nat} {e : TypeId} {size : Nat} {v : Value} {n : Nat} {xs : List Value} (hr : w.ownsRow base e size v n xs) (hn : ∀ g, v.ownBlock = some g → ¬ F g) : w'.ownsRow base e size v n xs := by
  refine ⟨hr.1, ?_⟩
  rcases hr.2 with h' | ⟨g, cap, cur, rfl, h2, hh, h3⟩
  · exact Or.inl h'
  · exact Or.inr ⟨g, cap, cur, rfl, h2, h.blk (hn g rfl) hh, h3⟩
theorem KeepF.drew {F : Nat → Prop} {w w' : World} (h : KeepF F w w') : KeepF F w w'.drew := ⟨h.os, h.tape, h.output, h.size, h.block⟩
theorem KeepF.undrew {F : Nat → Prop} {w w' : World} (h : KeepF F w.drew w') : KeepF F w w' := ⟨h.os, h.tape, h.output, h.size, h.block⟩
theorem ClsV.drew {w : World} {F : Nat → Prop} {cb tb db mi N lim : Nat} {vi vr vt : Value} {f : Int → Option Value} {ends : List Int} {out : Nat → Option OpC} {items reads : List (Int × Int)} {dm : Int → Option (List Int)}
    (h : ClsV w F cb tb db mi N lim vi vr vt f ends out items reads dm) : ClsV w.drew F cb tb db mi N lim vi vr vt f ends out items reads dm := h.grown (below_drewN (Below.refl _ _) 1)
theorem take_push {α : Type} (l : List α) (d : α) (k : Nat) (h : k < l.length) : l.take (k + 1) = l.take k ++ [l.getD k d] := by
  rw [List.take_add_one, List.getD_eq_getElem?_getD, List.getElem?_eq_getElem h]; simp
def dmPut (m : Int → Option (List Int)) (d : DEnt) : Int → Option (List Int) := fun x => if x = d.key then some d.zs else m x
def dmOf (l : List DEnt) : Int → Option (List Int) := l.foldl dmPut (fun _ => none)
theorem dmOf_push (l : List DEnt) (d : DEnt) : dmOf (l ++ [d]) = fun x => if x = d.key then some d.zs else dmOf l x := by unfold dmOf; rw [List.foldl_append]; rfl

section
variable {w : World} {F : Nat → Prop} {cb tb db mi N lim : Nat} {vi vr vt : Value} {f : Int → Option Value} {ends : List Int} {out : Nat → Option OpC} {items reads : List (Int × Int)} {dm : Int → Option (List Int)}
/-- ZZsetDirty, and that it writes the map alone. -/
theorem setDirty_map (h : ClsV w F cb tb db mi N lim vi vr vt f ends out items reads dm) (hl : lim ≤ 8000000) (k : Int) (hk : (Lit.int .i32 k).wf = true) (v : Value) (zs : List Int) (hv : w.ownsRow 0 21 1 v zs.length (ints zs)) (hz : zs.length ≤ lim + 1)
    (hd : ∀ k' v', k' ≠ k → f k' = some v' → v'.ownBlock = none ∨ v'.ownBlock ≠ v.ownBlock) (hFv : ∀ g, v.ownBlock = some g → F g) :
    Calls Try.prog 27 #[.pointer (some ⟨cb, 0, none⟩), .int .i32 k, v] w fun e w' => e = .returned (.tuple #[]) ∧ (ClsV w' F cb tb db mi (N + 1) (lim + 1) vi vr vt (putAt f k v) ends out items reads (fun x => if x = k then some zs else dm x) ∧ KeepF F w w') ∧ OnlyT (fun _ => False) w w' := by
  have hc := h.c7
  have hn := h.ln
  obtain ⟨w2, hrun, hm, hg⟩ := h.map.store hk (by unfold maxLen; omega) v
  have R := h.putD hg hm hv hz hd hFv
  have hO : OnlyT (fun _ => False) w w2 := by
    obtain ⟨es, cl, hmm⟩ := h.map.isMap
    exact ⟨hg.os, hg.tape, hg.output, hg.size, fun b c e fr hb _ => blk_kept hg hb (by simpa using ne_of_map hb hmm)⟩
  have HR : Hid _ := R
  have HO : Hid _ := hO
  clear hm hg R h hv hd hFv hO
  go_enter Try.func27, Try.ntmps27
  go_wp2_with fail
  go_end0
  exact ⟨rfl, HR.out, HO.out⟩
end
/-- F, and the blocks of the entries' slices. -/
def FV (F : Nat → Prop) (des' : List DEnt) : Nat → Prop := fun k => F k ∨ ∃ i a, i < des'.length ∧ (des'.getD i d0).ad = some a ∧ k = a.block
theorem KeepF.toF {F F' : Nat → Prop} {w w' : World} (h : KeepF F w w') (hF : ∀ k, F k → F' k) : KeepF F' w w' := ⟨h.os, h.tape, h.output, h.size, fun k hk hn => h.block k hk (fun hh => hn (hF k hh))⟩
abbrev dval (des' : List DEnt) (i : Nat) : Value := .slice (des'.getD i d0).ad (des'.getD i d0).zs.length (des'.getD i d0).cap

theorem own_slice_some {o : Option Addr} {n c g : Nat} (h : (Value.slice o n c).ownBlock = some g) : ∃ a, o = some a ∧ a.block = g := by
  cases o with
  | none => cases h
  | some a => exact ⟨a, rfl, Option.some.inj h⟩
theorem own_slice_dis {o1 o2 : Option Addr} {n1 c1 n2 c2 : Nat} (h : ∀ a, o1 = some a → ∀ b, o2 = some b → a.block ≠ b.block) : (Value.slice o1 n1 c1).ownBlock = none ∨ (Value.slice o1 n1 c1).ownBlock ≠ (Value.slice o2 n2 c2).ownBlock := by
  cases o1 with
  | none => exact Or.inl rfl
  | some a =>
    cases o2 with
    | none => exact Or.inr (by simp [Value.ownBlock])
    | some b => exact Or.inr (fun e => h a rfl b rfl (Option.some.inj e))
theorem OnlyT.cell {w w' : World} (h : OnlyT (fun _ => False) w w') {b off : Nat} {x : Value} (hc : w.cell? ⟨b, off, none⟩ = some x) : w'.cell? ⟨b, off, none⟩ = some x := by
  have hb := World.block_lt_of_cell? w _ hc
  cases ho : w.heap[b]? with
  | none => simp at ho; have : b < w.heap.size := hb; omega
  | some o =>
    cases o with
    | cells c e fr => exact (World.cell?_of_block ((h.cells b c e fr ho (fun h => h)).trans ho.symm)).trans hc
    | _ => exact absurd hc (by simp [World.cell?, ho])
theorem tl8_0 : tl Try.f8 0 = Code.seq (st Try.f8 0) (tl Try.f8 1) := by kernel_rfl
theorem tl8_1 : tl Try.f8 1 = Code.seq (st Try.f8 1) (tl Try.f8 2) := by kernel_rfl
theorem tl8_2 : tl Try.f8 2 = Code.seq (st Try.f8 2) (tl Try.f8 3) := by kernel_rfl
theorem tl8_3 : tl Try.f8 3 = Code.seq (st Try.f8 3) (tl Try.f8 4) := by kernel_rfl
theorem tl8_4 : tl Try.f8 4 = Code.seq (st Try.f8 4) (tl Try.f8 5) := by kernel_rfl
theorem tl8_5 : tl Try.f8 5 = Code.seq (st Try.f8 5) (tl Try.f8 6) := by kernel_rfl

set_option maxRecDepth 100000 in
set_option maxHeartbeats 2000000 in
theorem bd4 {w w0 : World} (F : Nat → Prop) (B bst cb tb db mi : Nat) (x0 x1 x2 x4 vt : Value) (c0 c1 c2 c3 : Bool) (ends : List Int) (out : Nat → Option OpC) (items reads : List (Int × Int)) (des des' : List DEnt) (lim : Nat) (vi vr : Value) (u0 u2 u4 u5 u6 u7 u8 u9 u10 u11 u12 u13 u14 u15 u16 u17 u18 u19 u20 u21 u22 u23 u24 u25 u26 u27 u28 u29 u30 u31 u32 u33 u34 u35 u36 u37 u38 u39 u40 u41 u42 u43 u44 u45 u46 u47 u48 u49 u50 u51 u52 u53 u54 u55 u56 u57 u58 u59 u60 u61 u62 u63 u64 u65 u66 u67 u68 u69 u70 u71 u72 u73 u74 u75 : Value) (R : Value → World → Prop)
    (hst : w0.heap[bst]? = some (.cells #[x0, x1, x2, .bool c0, .bool c1, .bool c2, .bool c3, x4] 28 (0, 0))) (hC : Copied w0 B x0 x1 x2 x4 ends items reads des des') (nb : ¬ F bst) (n1 : ∀ g, x1.ownBlock = some g → ¬ F g) (n2 : ∀ g, x2.ownBlock = some g → ¬ F g) (n4 : ∀ g, x4.ownBlock = some g → ¬ F g) (nv : ∀ i, i < des'.length → ∀ a, (des'.getD i d0).ad = some a → ¬ F a.block) (l1 : ends.length ≤ 1048576) (l2 : items.length ≤ 1048576) (l3 : reads.length ≤ 1048576) (l4 : des.length ≤ 1048576) (l5 : ∀ x ∈ des, x.zs.length ≤ 1048576) (wk : ∀ x ∈ des, (Lit.int .i32 x.key).wf = true) (hFs : ∀ k, w0.heap.size ≤ k → F k) (h : ClsV w F cb tb db mi 0 lim vi vr vt NoD ends out items reads (fun _ => none)) (hK0 : KeepF F w0 w) (hl : lim ≤ 3145728) (hlo : 1048576 ≤ lim) (hR : ∀ w' N lim vi vr f, ClsV w' (FV F des') cb tb db mi N lim vi vr vt f ends out items reads (dmOf des) → lim ≤ 4194304 → KeepF (FV F des') w0 w' → R (.pointer (some ⟨cb, 0, none⟩)) w') :
    Code.wp Try.prog (tl Try.f8 4) (QB R) ⟨#[u0, .pointer (some ⟨bst, 0, none⟩), u2, .pointer (some ⟨cb, 0, none⟩), u4, u5, u6, u7, u8, u9, u10, u11, u12, u13, u14, u15, u16, u17, u18, u19, u20, u21, u22, u23, u24, u25, u26, u27, u28, u29, u30, u31, u32, u33, u34, u35, u36, u37, u38, u39, u40, u41, u42, u43, u44, u45, u46, u47, u48, u49, u50, u51, u52, u53, u54, u55, u56, u57, u58, u59, u60, u61, u62, u63, u64, u65, u66, u67, u68, u69, u70, u71, u72, u73, u74, u75], []⟩ w := by
  have l6 : des'.length = des.length := hC.len
  have hvals : ∀ i, i < des'.length → w.ownsRow 0 21 1 (dval des' i) (des'.getD i d0).zs.length (ints (des'.getD i d0).zs) := fun i hi => KeepF.row hK0 (row_base (hC.co.own i hi) (Nat.zero_le _)) (fun g hg => by
    obtain ⟨a, ha, rfl⟩ := own_slice_some hg
    exact nv i hi a ha)
  have hkz : ∀ i, i < des.length → (des'.getD i d0).key = (des.getD i d0).key ∧ (des'.getD i d0).zs = (des.getD i d0).zs := fun i hi => hC.co.key i (by omega)
  have hmem : ∀ i, i < des.length → des.getD i d0 ∈ des := fun i hi => by rw [List.getD_eq_getElem?_getD, List.getElem?_eq_getElem hi]; exact List.getElem_mem _
  have hdis := hC.co.dis
  have hst' := KeepF.blk hK0 nb hst
  have hrow' := KeepF.row hK0 hC.d n4
  have hV' := h.reF (F' := FV F des') (fun g _ hg => Or.inl hg)
  have hK' := hK0.toF (F' := FV F des') (fun k hk => Or.inl hk)
  obtain ⟨a0, p0, e0⟩ := row_shape hC.d
  subst e0
  have HV : Hid _ := hV'
  have HK : Hid _ := hK'
  have HST : Hid _ := hst'
  have HROW : Hid _ := hrow'
  have HVALS : Hid _ := hvals
  have HKZ : Hid _ := hkz
  have HM : Hid _ := hmem
  have HD : Hid _ := hdis
  have HR : Hid _ := hR
  have HL5 : Hid _ := And.intro l5 wk
  clear hV' hK' hst' hrow' hvals hkz hmem hdis hR hst hC nb n1 n2 n4 nv l5 wk hFs h hK0
  rw [tl8_4]
  refine wp_seq_k (fun K hK => ?_)
  conv => arg 2; whnf
  go_wp2_with fail
  go_loopw [6] (fun i wr => ∃ (k : Nat) (f : Int → Option Value), k ≤ des.length ∧ i = .int .i64 k ∧ ClsV wr (FV F des') cb tb db mi k (lim + k) vi vr vt f ends out items reads (dmOf (des.take k)) ∧ (∀ x v, f x = some v → ∃ j, j < k ∧ v = dval des' j) ∧ KeepF (FV F des') w0 wr ∧ OnlyT (fun _ => False) w wr) (fun i _ => des.length - (intOf i).toNat)
  case atStart => exact ⟨0, _, Nat.zero_le _, rfl, HV.out, fun x v hv => (by cases hv), HK.out, OnlyT.refl _ _⟩
  case round =>
    obtain ⟨k, f, hk, rfl, hV, hf, hK1, hO⟩ := hrel
    have hst := hO.cells _ _ _ _ HST.out (fun h => h)
    have k1 : wr.cell? ⟨bst, 7, none⟩ = some (.slice a0 des.length p0) := cell_blk hst rfl
    by_cases hlt : k < des.length
    · have hrow := hO.row HROW.out (fun h => h)
      have hlt' : (k : Int) < (des.length : Int) := by omega
      have hlt0 : (0 : Int) ≤ (k : Int) := by omega
      obtain ⟨g, cp, eg, _⟩ := row_shape_pos hrow (by omega)
      cases eg
      obtain ⟨hkey, hzs⟩ := HKZ.out k hlt
      have c1 : wr.cell? ⟨g, k * 2, none⟩ = some (.int .i32 (des.getD k d0).key) := by rw [hrow.cellAt (k * 2) (by omega), flatD_key des' k (by omega), hkey]
      have c2 : wr.cell? ⟨g, k * 2 + 1, none⟩ = some (dval des' k) := by rw [hrow.cellAt (k * 2 + 1) (by omega)]; exact flatD_val des' k (by omega)
      have hv := hO.row (HVALS.out k (by omega)) (fun h => h)
      have hmk := HM.out k hlt
      have hlz : (des'.getD k d0).zs.length ≤ lim + k + 1 := by rw [hzs]; have := HL5.out.1 _ hmk; omega
      have hcall := setDirty_map (ClsV.drew hV) (by omega) (des.getD k d0).key (HL5.out.2 _ hmk) (dval des' k) (des'.getD k d0).zs hv hlz
        (fun k' v' hne hf' => by
          obtain ⟨j, hj, rfl⟩ := hf k' v' hf'
          exact own_slice_dis (HD.out j k (by omega) (by omega) (by omega)))
        (fun g' hg' => by
          obtain ⟨a, ha, rfl⟩ := own_slice_some hg'
          exact Or.inr ⟨k, a, by omega, ha, rfl⟩)
      have htp := take_push des d0 k hlt
      have hdp := dmOf_push (des.take k) (des.getD k d0)
      rw [← htp, ← hzs] at hdp
      have hfp : ∀ x v, putAt f (des.getD k d0).key (dval des' k) x = some v → ∃ j, j < k + 1 ∧ v = dval des' j := fun x v hx => by
        unfold putAt at hx
        by_cases e : x = (des.getD k d0).key
        · rw [if_pos e] at hx; cases hx; exact ⟨k, by omega, rfl⟩
        · rw [if_neg e] at hx
          obtain ⟨j, hj, hh⟩ := hf x v hx
          exact ⟨j, by omega, hh⟩
      have HK2 : Hid _ := hK1
      have HO : Hid _ := hO
      have HDP : Hid _ := hdp
      have HFP : Hid _ := hfp
      have HCALL : Hid _ := hcall
      clear hV hK1 htp hcall hst hrow HV HK hO hdp hfp hf hv hmk hlz hkey hzs
      generalize hp : des.getD k d0 = p at *
      generalize hpv : dval des' k = pv at *
      go_wp2_with fail
      refine wp_shade2 (fun KK hKK => ?_)
      have HKK : Hid _ := hKK
      clear hKK
      go_region_held3 (fun w' => w'.cell? ⟨bst, 7, none⟩ = some (.slice (some ⟨g, 0, none⟩) des.length p0) ∧ w'.cell? ⟨g, k * 2, none⟩ = some (.int .i32 p.key) ∧ w'.cell? ⟨g, k * 2 + 1, none⟩ = some pv)
        (first
          | go_keep
          | (exact ⟨OnlyT.cell hO3 k1, OnlyT.cell hO3 c1, OnlyT.cell hO3 c2⟩))
        ((go_at_call 27; refine Calls.mono HCALL.out ?_; rintro e w2 ⟨rfl, ⟨hV3, hK3⟩, hO3⟩))
      refine HKK.out _ _ ?_
      clear HKK KK
      have hK4 := HK2.out.trans hK3.undrew
      have hO4 := HO.out.trans ((OnlyT.drew (OnlyT.refl (fun _ => False) wr)).trans hO3)
      rw [← HDP.out] at hV3
      have G1 : Hid _ := hV3
      have G2 : Hid _ := hK4
      have G3 : Hid _ := hO4
      clear hV3 hK3 hK4 hO3 hO4 HK2 HO HCALL c1 c2 k1
      go_wp2_with fail
      go_roundw
      case rel => exact ⟨k + 1, _, by omega, by go_num, G1.out, HFP.out, G2.out, G3.out⟩
      case measure => simp [intOf]; omega
    · obtain rfl : k = des.length := by omega
      rw [List.take_length] at hV
      have hfin := HR.out wr _ _ _ _ _ hV (by omega) hK1
      have HF : Hid _ := hfin
      clear hfin hV hf hK1 hO hst HV HK HR
      go_wp2_with fail
      unfold QB
      conv => arg 2; whnf
      go_wp2_with fail
      go_ret
      exact ⟨_, rfl, HF.out⟩

set_option maxRecDepth 100000 in
set_option maxHeartbeats 2000000 in
theorem bd3 {w w0 : World} (F : Nat → Prop) (B bst cb tb db mi : Nat) (x0 x1 x2 x4 vt : Value) (c0 c1 c2 c3 : Bool) (ends : List Int) (out : Nat → Option OpC) (items reads : List (Int × Int)) (des des' : List DEnt) (lim : Nat) (vi : Value) (u0 u2 u4 u5 u6 u7 u8 u9 u10 u11 u12 u13 u14 u15 u16 u17 u18 u19 u20 u21 u22 u23 u24 u25 u26 u27 u28 u29 u30 u31 u32 u33 u34 u35 u36 u37 u38 u39 u40 u41 u42 u43 u44 u45 u46 u47 u48 u49 u50 u51 u52 u53 u54 u55 u56 u57 u58 u59 u60 u61 u62 u63 u64 u65 u66 u67 u68 u69 u70 u71 u72 u73 u74 u75 : Value) (R : Value → World → Prop)
    (hst : w0.heap[bst]? = some (.cells #[x0, x1, x2, .bool c0, .bool c1, .bool c2, .bool c3, x4] 28 (0, 0))) (hC : Copied w0 B x0 x1 x2 x4 ends items reads des des') (nb : ¬ F bst) (n1 : ∀ g, x1.ownBlock = some g → ¬ F g) (n2 : ∀ g, x2.ownBlock = some g → ¬ F g) (n4 : ∀ g, x4.ownBlock = some g → ¬ F g) (nv : ∀ i, i < des'.length → ∀ a, (des'.getD i d0).ad = some a → ¬ F a.block) (l1 : ends.length ≤ 1048576) (l2 : items.length ≤ 1048576) (l3 : reads.length ≤ 1048576) (l4 : des.length ≤ 1048576) (l5 : ∀ x ∈ des, x.zs.length ≤ 1048576) (wk : ∀ x ∈ des, (Lit.int .i32 x.key).wf = true) (hFs : ∀ k, w0.heap.size ≤ k → F k) (h : ClsV w F cb tb db mi 0 lim vi (.slice none 0 0) vt NoD ends out items [] (fun _ => none)) (hK0 : KeepF F w0 w) (hl : lim ≤ 2097152) (hlo : 1048576 ≤ lim) (hR : ∀ w' N lim vi vr f, ClsV w' (FV F des') cb tb db mi N lim vi vr vt f ends out items reads (dmOf des) → lim ≤ 4194304 → KeepF (FV F des') w0 w' → R (.pointer (some ⟨cb, 0, none⟩)) w') :
    Code.wp Try.prog (tl Try.f8 3) (QB R) ⟨#[u0, .pointer (some ⟨bst, 0, none⟩), u2, .pointer (some ⟨cb, 0, none⟩), u4, u5, u6, u7, u8, u9, u10, u11, u12, u13, u14, u15, u16, u17, u18, u19, u20, u21, u22, u23, u24, u25, u26, u27, u28, u29, u30, u31, u32, u33, u34, u35, u36, u37, u38, u39, u40, u41, u42, u43, u44, u45, u46, u47, u48, u49, u50, u51, u52, u53, u54, u55, u56, u57, u58, u59, u60, u61, u62, u63, u64, u65, u66, u67, u68, u69, u70, u71, u72, u73, u74, u75], []⟩ w := by
  have HST : Hid _ := hst
  have HC : Hid _ := hC
  have HV : Hid _ := h
  have HK0 : Hid _ := hK0
  have HFS : Hid _ := hFs
  have HR : Hid _ := hR
  have HNV : Hid _ := nv
  have HN1 : Hid _ := n1
  have HN2 : Hid _ := n2
  have HN4 : Hid _ := n4
  have HL5 : Hid _ := And.intro l5 wk
  obtain ⟨a0, p0, e0⟩ := row_shape hC.r
  subst e0
  clear hst hC h hK0 hFs hR nv n1 n2 n4 l5 wk
  rw [tl8_3]
  refine wp_seq_k (fun K hK => ?_)
  conv => arg 2; whnf
  go_wp2_with fail
  go_loopw [5] (fun i wr => ∃ (k : Nat) (vx : Value), k ≤ reads.length ∧ i = .int .i64 k ∧ ClsV wr F cb tb db mi 0 (lim + k) vi vx vt NoD ends out items (reads.take k) (fun _ => none) ∧ KeepF F w0 wr) (fun i _ => reads.length - (intOf i).toNat)
  case atStart => exact ⟨0, _, Nat.zero_le _, rfl, HV.out, HK0.out⟩
  case round =>
    obtain ⟨k, vx, hk, rfl, hV, hK1⟩ := hrel
    have hst := KeepF.blk hK1 nb HST.out
    have k1 : wr.cell? ⟨bst, 2, none⟩ = some (.slice a0 reads.length p0) := cell_blk hst rfl
    have hrow := KeepF.row hK1 HC.out.r HN2.out
    by_cases hlt : k < reads.length
    · have hlt' : (k : Int) < (reads.length : Int) := by omega
      have hlt0 : (0 : Int) ≤ (k : Int) := by omega
      obtain ⟨g, cp, eg, _⟩ := row_shape_pos hrow (by omega)
      cases eg
      have hng : ¬ F g := HN2.out g rfl
      have c1 : wr.cell? ⟨g, k * 2, none⟩ = some (.int .i32 (reads.getD k (0, 0)).1) := by rw [hrow.cellAt (k * 2) (by omega)]; exact flat_fst reads k hlt
      have c2 : wr.cell? ⟨g, k * 2 + 1, none⟩ = some (.int .i32 (reads.getD k (0, 0)).2) := by rw [hrow.cellAt (k * 2 + 1) (by omega)]; exact flat_snd reads k hlt
      have hcall := addRead_any (ClsV.drew hV) (fun j hj => HFS.out j (Nat.le_trans hK1.size hj)) (by omega) (reads.getD k (0, 0)).1 (reads.getD k (0, 0)).2
      have htp := take_push reads (0, 0) k hlt
      have HV2 : Hid _ := hV
      have HK2 : Hid _ := hK1
      have HTP : Hid _ := htp
      have HCALL : Hid _ := hcall
      clear hV hK1 htp hcall hst hrow HV HK0
      generalize hp : reads.getD k (0, 0) = p at *
      obtain ⟨pa, pb⟩ := p
      go_wp2_with fail
      refine wp_shade2 (fun KK hKK => ?_)
      have HKK : Hid _ := hKK
      clear hKK
      go_region_held3 (fun w' => w'.cell? ⟨bst, 2, none⟩ = some (.slice (some ⟨g, 0, none⟩) reads.length p0) ∧ w'.cell? ⟨g, k * 2, none⟩ = some (.int .i32 pa) ∧ w'.cell? ⟨g, k * 2 + 1, none⟩ = some (.int .i32 pb))
        (first
          | go_keep
          | (exact ⟨KeepF.cell hK3 nb k1, KeepF.cell hK3 hng c1, KeepF.cell hK3 hng c2⟩))
        ((go_at_call 26; refine Calls.mono HCALL.out ?_; rintro e w2 ⟨rfl, ⟨vx', hV3⟩, hK3⟩))
      refine HKK.out _ _ ?_
      clear HKK KK
      have hK4 := HK2.out.trans hK3.undrew
      have G1 : Hid _ := hV3
      have G2 : Hid _ := hK4
      clear hV3 hK3 hK4 HV2 HK2 HCALL c1 c2 k1
      go_wp2_with fail
      go_roundw
      case rel => exact ⟨k + 1, _, by omega, by go_num, by rw [HTP.out]; exact G1.out, G2.out⟩
      case measure => simp [intOf]; omega
    · obtain rfl : k = reads.length := by omega
      rw [List.take_length] at hV
      have G1 : Hid _ := hV
      have G2 : Hid _ := hK1
      clear hV hK1 hst hrow HV HK0
      go_wp2_with fail
      exact bd4 _ _ _ _ _ _ _ _ _ _ _ _ _ _ _ _ _ _ _ _ _ _ _ _ _ _ _ _ _ _ _ _ _ _ _ _ _ _ _ _ _ _ _ _ _ _ _ _ _ _ _ _ _ _ _ _ _ _ _ _ _ _ _ _ _ _ _ _ _ _ _ _ _ _ _ _ _ _ _ _ _ _ _ _ _ _ _ _ _ _ _ _ _ _ _ _ _ _ _ _ HST.out HC.out nb HN1.out HN2.out HN4.out HNV.out l1 l2 l3 l4 HL5.out.1 HL5.out.2 HFS.out G1.out G2.out (by omega) (by omega) HR.out

set_option maxRecDepth 100000 in
set_option maxHeartbeats 2000000 in
theorem bd2 {w w0 : World} (F : Nat → Prop) (B bst cb tb db mi : Nat) (x0 x1 x2 x4 vt : Value) (c0 c1 c2 c3 : Bool) (ends : List Int) (out : Nat → Option OpC) (items reads : List (Int × Int)) (des des' : List DEnt) (lim : Nat) (u0 u2 u4 u5 u6 u7 u8 u9 u10 u11 u12 u13 u14 u15 u16 u17 u18 u19 u20 u21 u22 u23 u24 u25 u26 u27 u28 u29 u30 u31 u32 u33 u34 u35 u36 u37 u38 u39 u40 u41 u42 u43 u44 u45 u46 u47 u48 u49 u50 u51 u52 u53 u54 u55 u56 u57 u58 u59 u60 u61 u62 u63 u64 u65 u66 u67 u68 u69 u70 u71 u72 u73 u74 u75 : Value) (R : Value → World → Prop)
    (hst : w0.heap[bst]? = some (.cells #[x0, x1, x2, .bool c0, .bool c1, .bool c2, .bool c3, x4] 28 (0, 0))) (hC : Copied w0 B x0 x1 x2 x4 ends items reads des des') (nb : ¬ F bst) (n1 : ∀ g, x1.ownBlock = some g → ¬ F g) (n2 : ∀ g, x2.ownBlock = some g → ¬ F g) (n4 : ∀ g, x4.ownBlock = some g → ¬ F g) (nv : ∀ i, i < des'.length → ∀ a, (des'.getD i d0).ad = some a → ¬ F a.block) (l1 : ends.length ≤ 1048576) (l2 : items.length ≤ 1048576) (l3 : reads.length ≤ 1048576) (l4 : des.length ≤ 1048576) (l5 : ∀ x ∈ des, x.zs.length ≤ 1048576) (wk : ∀ x ∈ des, (Lit.int .i32 x.key).wf = true) (hFs : ∀ k, w0.heap.size ≤ k → F k) (h : ClsV w F cb tb db mi 0 lim (.slice none 0 0) (.slice none 0 0) vt NoD ends out [] [] (fun _ => none)) (hK0 : KeepF F w0 w) (hl : lim ≤ 1048576) (hlo : 1048576 ≤ lim) (hR : ∀ w' N lim vi vr f, ClsV w' (FV F des') cb tb db mi N lim vi vr vt f ends out items reads (dmOf des) → lim ≤ 4194304 → KeepF (FV F des') w0 w' → R (.pointer (some ⟨cb, 0, none⟩)) w') :
    Code.wp Try.prog (tl Try.f8 2) (QB R) ⟨#[u0, .pointer (some ⟨bst, 0, none⟩), u2, .pointer (some ⟨cb, 0, none⟩), u4, u5, u6, u7, u8, u9, u10, u11, u12, u13, u14, u15, u16, u17, u18, u19, u20, u21, u22, u23, u24, u25, u26, u27, u28, u29, u30, u31, u32, u33, u34, u35, u36, u37, u38, u39, u40, u41, u42, u43, u44, u45, u46, u47, u48, u49, u50, u51, u52, u53, u54, u55, u56, u57, u58, u59, u60, u61, u62, u63, u64, u65, u66, u67, u68, u69, u70, u71, u72, u73, u74, u75], []⟩ w := by
  have HST : Hid _ := hst
  have HC : Hid _ := hC
  have HV : Hid _ := h
  have HK0 : Hid _ := hK0
  have HFS : Hid _ := hFs
  have HR : Hid _ := hR
  have HNV : Hid _ := nv
  have HN1 : Hid _ := n1
  have HN2 : Hid _ := n2
  have HN4 : Hid _ := n4
  have HL5 : Hid _ := And.intro l5 wk
  obtain ⟨a0, p0, e0⟩ := row_shape hC.i
  subst e0
  clear hst hC h hK0 hFs hR nv n1 n2 n4 l5 wk
  rw [tl8_2]
  refine wp_seq_k (fun K hK => ?_)
  conv => arg 2; whnf
  go_wp2_with fail
  go_loopw [4] (fun i wr => ∃ (k : Nat) (vx : Value), k ≤ items.length ∧ i = .int .i64 k ∧ ClsV wr F cb tb db mi 0 (lim + k) vx (.slice none 0 0) vt NoD ends out (items.take k) [] (fun _ => none) ∧ KeepF F w0 wr) (fun i _ => items.length - (intOf i).toNat)
  case atStart => exact ⟨0, _, Nat.zero_le _, rfl, HV.out, HK0.out⟩
  case round =>
    obtain ⟨k, vx, hk, rfl, hV, hK1⟩ := hrel
    have hst := KeepF.blk hK1 nb HST.out
    have k1 : wr.cell? ⟨bst, 1, none⟩ = some (.slice a0 items.length p0) := cell_blk hst rfl
    have hrow := KeepF.row hK1 HC.out.i HN1.out
    by_cases hlt : k < items.length
    · have hlt' : (k : Int) < (items.length : Int) := by omega
      have hlt0 : (0 : Int) ≤ (k : Int) := by omega
      obtain ⟨g, cp, eg, _⟩ := row_shape_pos hrow (by omega)
      cases eg
      have hng : ¬ F g := HN1.out g rfl
      have c1 : wr.cell? ⟨g, k * 2, none⟩ = some (.int .i32 (items.getD k (0, 0)).1) := by rw [hrow.cellAt (k * 2) (by omega)]; exact flat_fst items k hlt
      have c2 : wr.cell? ⟨g, k * 2 + 1, none⟩ = some (.int .i32 (items.getD k (0, 0)).2) := by rw [hrow.cellAt (k * 2 + 1) (by omega)]; exact flat_snd items k hlt
      have hcall := addItem_any (ClsV.drew hV) (fun j hj => HFS.out j (Nat.le_trans hK1.size hj)) (by omega) (items.getD k (0, 0)).1 (items.getD k (0, 0)).2
      have htp := take_push items (0, 0) k hlt
      have HV2 : Hid _ := hV
      have HK2 : Hid _ := hK1
      have HTP : Hid _ := htp
      have HCALL : Hid _ := hcall
      clear hV hK1 htp hcall hst hrow HV HK0
      generalize hp : items.getD k (0, 0) = p at *
      obtain ⟨pa, pb⟩ := p
      go_wp2_with fail
      refine wp_shade2 (fun KK hKK => ?_)
      have HKK : Hid _ := hKK
      clear hKK
      go_region_held3 (fun w' => w'.cell? ⟨bst, 1, none⟩ = some (.slice (some ⟨g, 0, none⟩) items.length p0) ∧ w'.cell? ⟨g, k * 2, none⟩ = some (.int .i32 pa) ∧ w'.cell? ⟨g, k * 2 + 1, none⟩ = some (.int .i32 pb))
        (first
          | go_keep
          | (exact ⟨KeepF.cell hK3 nb k1, KeepF.cell hK3 hng c1, KeepF.cell hK3 hng c2⟩))
        ((go_at_call 25; refine Calls.mono HCALL.out ?_; rintro e w2 ⟨rfl, ⟨vx', hV3⟩, hK3⟩))
      refine HKK.out _ _ ?_
      clear HKK KK
      have hK4 := HK2.out.trans hK3.undrew
      have G1 : Hid _ := hV3
      have G2 : Hid _ := hK4
      clear hV3 hK3 hK4 HV2 HK2 HCALL c1 c2 k1
      go_wp2_with fail
      go_roundw
      case rel => exact ⟨k + 1, _, by omega, by go_num, by rw [HTP.out]; exact G1.out, G2.out⟩
      case measure => simp [intOf]; omega
    · obtain rfl : k = items.length := by omega
      rw [List.take_length] at hV
      have G1 : Hid _ := hV
      have G2 : Hid _ := hK1
      clear hV hK1 hst hrow HV HK0
      go_wp2_with fail
      exact bd3 _ _ _ _ _ _ _ _ _ _ _ _ _ _ _ _ _ _ _ _ _ _ _ _ _ _ _ _ _ _ _ _ _ _ _ _ _ _ _ _ _ _ _ _ _ _ _ _ _ _ _ _ _ _ _ _ _ _ _ _ _ _ _ _ _ _ _ _ _ _ _ _ _ _ _ _ _ _ _ _ _ _ _ _ _ _ _ _ _ _ _ _ _ _ _ _ _ _ _ HST.out HC.out nb HN1.out HN2.out HN4.out HNV.out l1 l2 l3 l4 HL5.out.1 HL5.out.2 HFS.out G1.out G2.out (by omega) (by omega) HR.out

set_option maxRecDepth 100000 in
set_option maxHeartbeats 1000000 in
/-- zzBuild. -/
theorem build_any (B : Nat) (x0 x1 x2 x4 : Value) (c0 c1 c2 c3 : Bool) (ends : List Int) (items reads : List (Int × Int)) (des des' : List DEnt) (w : World)
    (hC : Copied w B x0 x1 x2 x4 ends items reads des des') (l1 : ends.length ≤ 1048576) (l2 : items.length ≤ 1048576) (l3 : reads.length ≤ 1048576) (l4 : des.length ≤ 1048576) (l5 : ∀ x ∈ des, x.zs.length ≤ 1048576) (wk : ∀ x ∈ des, (Lit.int .i32 x.key).wf = true) :
    Calls Try.prog 8 #[.agg #[x0, x1, x2, .bool c0, .bool c1, .bool c2, .bool c3, x4]] w fun e w' => ∃ v, e = .returned v ∧ ∃ cb tb db mi N lim vi vr vt f out, v = .pointer (some ⟨cb, 0, none⟩) ∧ ClsV w' (FV (fun k => w.heap.size < k) des') cb tb db mi N lim vi vr vt f ends out items reads (dmOf des) ∧ lim ≤ 4194304 ∧ (∀ k, k < 4 → (out k).isSome = c4 c0 c1 c2 c3 k) ∧ KeepF (FV (fun k => w.heap.size ≤ k) des') w w' := by
  obtain ⟨w1, hw1⟩ : ∃ w1, w1 = w.alloc (.cells #[x0, x1, x2, .bool c0, .bool c1, .bool c2, .bool c3, x4] 28) := ⟨_, rfl⟩
  have b1 : Below w.heap.size w w1 := by rw [hw1]; exact (Below.refl _ _).alloc (Nat.le_refl _) _
  have s1 : w1.heap.size = w.heap.size + 1 := by rw [hw1]; simp
  have h1 : w1.heap[w.heap.size]? = some (.cells #[x0, x1, x2, .bool c0, .bool c1, .bool c2, .bool c3, x4] 28 (0, 0)) := by rw [hw1]; exact heap_alloc_new w _
  have hC1 : Copied w1 B x0 x1 x2 x4 ends items reads des des' := ⟨hC.len, row_below hC.d b1, ⟨hC.co.len, hC.co.key, fun i hi => row_below (hC.co.own i hi) b1, hC.co.dis⟩, row_below hC.e b1, row_below hC.i b1, row_below hC.r b1⟩
  have n1 : ∀ g, x1.ownBlock = some g → ¬ w.heap.size < g := fun g hg => by have := (hC.i.lt g hg).2; omega
  have n2 : ∀ g, x2.ownBlock = some g → ¬ w.heap.size < g := fun g hg => by have := (hC.r.lt g hg).2; omega
  have n4 : ∀ g, x4.ownBlock = some g → ¬ w.heap.size < g := fun g hg => by have := (hC.d.lt g hg).2; omega
  have nv : ∀ i, i < des'.length → ∀ a, (des'.getD i d0).ad = some a → ¬ w.heap.size < a.block := fun i hi a ha => by
    have := hC.co.own i hi
    rw [ha] at this
    have := (row_ge this).2
    omega
  obtain ⟨a0, p0, e0⟩ := row_shape hC.e
  have hS : Sl w1 a0 (bytes ends) := by have := hC1.e; rw [e0] at this; exact sl_of_row this
  subst e0
  have hcall := newCls_any (fun k => w.heap.size < k) a0 p0 ends c0 c1 c2 c3 w1 hS l1 (fun k hk => by omega)
  have k0 : w1.cell? ⟨w.heap.size, 0, none⟩ = some (.slice a0 ends.length p0) := cell_blk h1 rfl
  have k3 : w1.cell? ⟨w.heap.size, 3, none⟩ = some (.bool c0) := cell_blk h1 rfl
  have k4 : w1.cell? ⟨w.heap.size, 4, none⟩ = some (.bool c1) := cell_blk h1 rfl
  have k5 : w1.cell? ⟨w.heap.size, 5, none⟩ = some (.bool c2) := cell_blk h1 rfl
  have k6 : w1.cell? ⟨w.heap.size, 6, none⟩ = some (.bool c3) := cell_blk h1 rfl
  have HH : Hid _ := And.intro h1 hC1
  have HN1 : Hid _ := n1
  have HN2 : Hid _ := n2
  have HN4 : Hid _ := n4
  have HNV : Hid _ := nv
  have HCALL : Hid _ := hcall
  have HB1 : Hid _ := b1
  have HS1 : Hid _ := s1
  have HL5 : Hid _ := And.intro l5 wk
  clear hC hC1 h1 n1 n2 n4 nv hcall hS b1 l5 wk s1
  go_enter Try.func8, Try.ntmps8
  change Code.wp Try.prog (tl Try.f8 0) (QB (fun v w' => ∃ cb tb db mi N lim vi vr vt f out, v = .pointer (some ⟨cb, 0, none⟩) ∧ ClsV w' (FV (fun k => w.heap.size < k) des') cb tb db mi N lim vi vr vt f ends out items reads (dmOf des) ∧ lim ≤ 4194304 ∧ (∀ k, k < 4 → (out k).isSome = c4 c0 c1 c2 c3 k) ∧ KeepF (FV (fun k => w.heap.size ≤ k) des') w w')) _ _
  rw [tl8_0]
  refine wp_seq_k (fun K hK => ?_)
  conv => arg 2; whnf
  go_wp2_with fail
  rw [← hw1]
  clear hw1
  rw [tl8_1]
  refine wp_seq_k (fun K hK => ?_)
  conv => arg 2; whnf
  go_wp2_with fail
  refine Calls.mono HCALL.out ?_
  rintro e w2 ⟨v, rfl, cb, tb, db, mi, vt, o, rfl, hV, ho, hb2⟩
  have hK2 : KeepF (fun k => w.heap.size < k) w1 w2 := KeepF.of_below hb2
  have HV : Hid _ := hV.wide (lim' := 1048576) (Nat.zero_le _)
  have HO : Hid _ := ho
  have HK2 : Hid _ := hK2
  clear hV ho hb2 hK2 HCALL k0 k3 k4 k5 k6
  go_wp2_with fail
  exact bd2 _ _ _ _ _ _ _ _ _ _ _ _ _ _ _ _ _ _ _ _ _ _ _ _ _ _ _ _ _ _ _ _ _ _ _ _ _ _ _ _ _ _ _ _ _ _ _ _ _ _ _ _ _ _ _ _ _ _ _ _ _ _ _ _ _ _ _ _ _ _ _ _ _ _ _ _ _ _ _ _ _ _ _ _ _ _ _ _ _ _ _ _ _ _ _ _ _ _ HH.out.1 HH.out.2 (Nat.lt_irrefl _) HN1.out HN2.out HN4.out HNV.out l1 l2 l3 l4 HL5.out.1 HL5.out.2 (fun k hk => by have := HS1.out; omega) HV.out HK2.out (Nat.le_refl _) (Nat.le_refl _) (fun w' N lim vi vr f hV' hlim hK' => ⟨cb, tb, db, mi, N, lim, vi, vr, vt, f, o, rfl, hV', hlim, HO.out, (KeepF.of_below HB1.out).trans (hK'.toF (fun k hk => hk.elim (fun h => Or.inl (Nat.le_of_lt h)) Or.inr))⟩)

end Go.Proofs.Qxb6625890a
