/-
  WALKS: the second law (4).
-/
import Derived.Test.YoefxwFmtWalkM
namespace Go.Proofs.YoefxwFmt
open Go.RowKit

/-- 'g after f', as a list. -/
def compL (f g : List Int) : List Int := f.map fun x => g.getD x.toNat 0

theorem compL_len (f g : List Int) : (compL f g).length = f.length := by simp [compL]
theorem compL_u16 {f g : List Int} (hg : U16 g) : U16 (compL f g) := by
  intro x hx
  obtain ⟨y, _, rfl⟩ := List.mem_map.1 hx
  exact getD_u16 hg _
theorem compL_at {f g : List Int} {k : Nat} {x : Int} (hx : f[k]? = some x) : (compL f g)[k]? = some (g.getD x.toNat 0) := by
  unfold compL; rw [List.getElem?_map, hx]; rfl
theorem compL_getD {f g : List Int} : ∀ j, j < f.length → (compL f g).getD j 0 = g.getD (f.getD j 0).toNat 0 := by
  intro j hj
  have h1 : f[j]? = some f[j] := List.getElem?_eq_getElem hj
  rw [List.getD_eq_getElem?_getD, compL_at h1, List.getD_eq_getElem?_getD (l := f), h1]
  rfl

theorem getD_of {f : List Int} {k : Nat} {x : Int} (hx : f[k]? = some x) : f.getD k 0 = x := by
  rw [List.getD_eq_getElem?_getD, hx]; rfl

theorem small_step {f : List Int} {k n : Nat} {x : Int} (hx : f[k]? = some x) (h : ∀ j, j < k → f.getD j 0 < (n : Int)) (hl : x < (n : Int)) : ∀ j, j < k + 1 → f.getD j 0 < (n : Int) := by
  intro j hj
  by_cases e : j = k
  · subst e; rw [getD_of hx]; exact hl
  · exact h j (by omega)

theorem toMap_len (n : Nat) (ao : Option Addr) (xs : List Int) (c : Nat) (w : World) (hn : n = xs.length) (hl : xs.length ≤ 65536) (hu : U16 xs) (hc : Nums w .u16 ao xs) :
    Calls Efxg.prog 11 #[.slice ao n c] w fun e w' => e = .returned (.map (some w.heap.size)) ∧ MapIs w' w.heap.size xs ∧ Below w.heap.size w w' := by
  subst hn
  exact toMap_any ao xs c w hl hu hc

set_option maxRecDepth 100000 in
set_option maxHeartbeats 1600000 in
theorem law4_any (N : Nat) (ap : Option Addr) (ps : List Zi) (cp : Nat) (af : Option Addr) (f : List Int) (cf : Nat) (ag : Option Addr) (g : List Int) (cg : Nat) (w : World) (t : Tab N w) (hok : ∀ z ∈ ps, z.Ok) (huf : U16 f) (hug : U16 g)
    (hpl : ps.length ≤ 9223372036854775807) (hfl : f.length ≤ 9223372036854775807) (hgl : g.length ≤ 9223372036854775807) (hi : Ins w ap ps) (hnf : Nums w .u16 af f) (hng : Nums w .u16 ag g) :
    Calls Efxg.prog 4 #[.slice ap ps.length cp, .slice af f.length cf, .slice ag g.length cg] w fun e w' => e = .returned (.bool true) ∧ Below w.heap.size w w' := by
  have T0 : Hid (Tab N w) := t
  have I0 : Hid (Ins w ap ps) := hi
  have F0 : Hid (Nums w .u16 af f) := hnf
  have G0 : Hid (Nums w .u16 ag g) := hng
  have OK : Hid (∀ z ∈ ps, z.Ok) := hok
  have UF : Hid (U16 f) := huf
  have UG : Hid (U16 g) := hug
  clear t hi hnf hng hok huf hug
  go_enter Efxg.func4, Efxg.ntmps4
  go_wp2_with fail
  refine (zz15_any ap af ag ps.length cp f.length cf g.length cg w hpl hfl hgl).mono ?_
  rintro e w0 ⟨rfl | ⟨rfl, hsum⟩, rfl⟩
  · go_wp2
    go_ret
    exact ⟨rfl, Below.refl _ _⟩
  rcases Nat.lt_or_ge 65536 ps.length with hp1 | hp1
  · go_wp2
    go_ret
    exact ⟨rfl, Below.refl _ _⟩
  rcases Nat.lt_or_ge 65536 f.length with hf1 | hf1
  · go_wp2
    go_ret
    exact ⟨rfl, Below.refl _ _⟩
  rcases Nat.lt_or_ge 65536 g.length with hg1 | hg1
  · go_wp2
    go_ret
    exact ⟨rfl, Below.refl _ _⟩
  go_wp2_with fail
  refine (refs_any ap ps cp f.length w0 OK.out hp1 I0.out).mono ?_
  rintro e w ⟨rfl | ⟨rfl, hwi⟩, rfl⟩
  · go_wp2
    go_ret
    exact ⟨rfl, Below.refl _ _⟩
  have HW : Hid (Within ps f.length) := hwi
  clear hwi
  go_wp2_with fail
  go_loop [7] (fun i => ∃ k : Nat, k ≤ f.length ∧ i = .int .i64 k ∧ ∀ j, j < k → f.getD j 0 < (g.length : Int)) (fun i => f.length - (intOf i).toNat)
  case atStart => exact ⟨0, Nat.zero_le _, rfl, fun j hj => by omega⟩
  case round =>
    obtain ⟨k, hk, rfl, hsm⟩ := hrel
    have HS : Hid (∀ j, j < k → f.getD j 0 < (g.length : Int)) := hsm
    clear hsm
    by_cases hlt : k < f.length
    · obtain ⟨x, hx⟩ : ∃ x, f[k]? = some x := ⟨_, List.getElem?_eq_getElem hlt⟩
      obtain ⟨b, off, rfl, hcx⟩ := F0.out k x hx
      have hx0 : 0 ≤ x := (UF.out x (List.mem_of_getElem? hx)).1
      have hx1 : x ≤ 65535 := (UF.out x (List.mem_of_getElem? hx)).2
      have HX : Hid (f[k]? = some x) := hx
      clear hx
      by_cases hxg : x < (g.length : Int)
      · go_wp2
        go_round
        case rel => exact ⟨k + 1, by omega, by go_num, small_step HX.out HS.out hxg⟩
        case measure => simp [intOf]; omega
      · go_wp2
        go_ret
        exact ⟨rfl, Below.refl _ _⟩
    · have e : k = f.length := by omega
      subst e
      go_wp2_with fail
      refine (cloneIns_any ap ps cp w hp1 I0.out).mono ?_
      rintro e w1 ⟨a1, c1, rfl, hi1, hb1⟩
      have T1 : Hid (Tab N w1) := T0.out.later hb1
      have F1 : Hid (Nums w1 .u16 af f) := F0.out.later hb1
      have G1 : Hid (Nums w1 .u16 ag g) := G0.out.later hb1
      have I1 : Hid (Ins w1 a1 ps) := hi1
      have B1 : Hid (Below w.heap.size w w1) := hb1
      clear hi1 hb1 T0 F0 G0 I0
      go_wp2_with fail
      refine (cloneU16_any af f cf w1 hf1 F1.out).mono ?_
      rintro e w2 ⟨a2, c2, rfl, hn2, hb2⟩
      have T2 : Hid (Tab N w2) := T1.out.later hb2
      have I2 : Hid (Ins w2 a1 ps) := I1.out.later hb2
      have F2 : Hid (Nums w2 .u16 a2 f) := hn2
      have G2 : Hid (Nums w2 .u16 ag g) := G1.out.later hb2
      have B2 : Hid (Below w.heap.size w w2) := B1.out.trans (hb2.mono B1.out.size)
      clear hn2 hb2 T1 F1 G1 I1 B1
      go_wp2_with fail
      refine (cloneU16_any ag g cg w2 hg1 G2.out).mono ?_
      rintro e w3 ⟨a3, c3, rfl, hn3, hb3⟩
      have T3 : Hid (Tab N w3) := T2.out.later hb3
      have I3 : Hid (Ins w3 a1 ps) := I2.out.later hb3
      have F3 : Hid (Nums w3 .u16 a2 f) := F2.out.later hb3
      have G3 : Hid (Nums w3 .u16 a3 g) := hn3
      have B3 : Hid (Below w.heap.size w w3) := B2.out.trans (hb3.mono B2.out.size)
      clear hn3 hb3 T2 F2 G2 I2 B2
      obtain ⟨i0, hii, hz0, hz1, hz2⟩ := info_parts Efxg.info35
      go_wp2_with (at_make; refine wpList_make_full _ rfl _ _ 23 rfl w3.heap.size 35 i0 (.int .u16 0) 1 Efxg.underlying23 hii hz0 hz1 _ _ _ _ f.length rfl rfl rfl rfl (by rw [hz2]; omega) (by unfold maxLen; omega) (Nat.le_refl _) ?_; intro wm hown hgrow)
      have hw0 : wm.ownsRow w3.heap.size 35 1 (.slice (some ⟨w3.heap.size, 0, none⟩) f.length f.length) f.length (cl .u16 (compL f g) 0) := by
        rw [cl_zero, compL_len]; have h := hown; rw [made_one] at h; exact h
      have hb0 : Below w3.heap.size w3 wm := (Below.refl _ _).grown hgrow (Nat.le_refl _) (fun k hk => by cases hk)
      clear hown hgrow
      go_loopw [9] (fun i wr => ∃ k : Nat, k ≤ f.length ∧ i = .int .i64 k ∧ wr.ownsRow w3.heap.size 35 1 (.slice (some ⟨w3.heap.size, 0, none⟩) f.length f.length) f.length (cl .u16 (compL f g) k) ∧ Below w3.heap.size w3 wr) (fun i _ => f.length - (intOf i).toNat)
      case atStart => exact ⟨0, Nat.zero_le _, rfl, hw0, hb0⟩
      case round =>
        obtain ⟨k, hk, rfl, ho, hb⟩ := hrel
        clear hw0 hb0
        by_cases hlt : k < f.length
        · obtain ⟨x, hx⟩ : ∃ x, f[k]? = some x := ⟨_, List.getElem?_eq_getElem hlt⟩
          obtain ⟨b, off, rfl, hcx⟩ := F3.out k x hx
          have hx0 : 0 ≤ x := (UF.out x (List.mem_of_getElem? hx)).1
          have hx1 : x ≤ 65535 := (UF.out x (List.mem_of_getElem? hx)).2
          have hxg : x < (g.length : Int) := by have h := HS.out k hlt; rw [getD_of hx] at h; exact h
          obtain ⟨bg, offg, rfl, hcg, y0, y1⟩ := nums_at G3.out UG.out hx0 hxg
          have hbl : b < w3.heap.size := block_lt_of_cell hcx
          have hbg : bg < w3.heap.size := block_lt_of_cell hcg
          obtain ⟨y, hy⟩ : ∃ y, y = g.getD x.toNat 0 := ⟨_, rfl⟩
          rw [← hy] at hcg y0 y1
          have hcr := (hb.cell (p := ⟨b, off + k, none⟩) hbl).trans hcx
          have hcr' := (hb.cell (p := ⟨bg, offg + x.toNat, none⟩) hbg).trans hcg
          have hyk : (compL f g)[k]? = some y := by rw [hy]; exact compL_at hx
          have hkl : k < (compL f g).length := by rw [compL_len]; exact hlt
          have hd : wr.cell? ⟨w3.heap.size, k, none⟩ = some (.int .u16 0) := (ho.cellAt k (by omega)).trans (cl_at _ _ _ hkl)
          have hfr := ho.frozenAt k
          have hst := ho.stored k (.int .u16 y)
          rw [cl_set _ _ _ _ hyk] at hst
          have R1 : Hid _ := hst.1
          have R2 : Hid _ := hb.setCell (p := ⟨w3.heap.size, k, none⟩) (Nat.le_refl _) (.int .u16 y)
          clear hst hx hcx hcg ho hb hy hyk hkl
          go_wp2
          go_roundw
          case rel => exact ⟨k + 1, by omega, by go_num, R1.out, R2.out⟩
          case measure => simp [intOf]; omega
        · have e : k = f.length := by omega
          subst e
          have B4 : Hid (Below w.heap.size w wr) := B3.out.trans (hb.mono B3.out.size)
          have T4 : Hid (Tab N wr) := T3.out.later hb
          have I4 : Hid (Ins wr a1 ps) := I3.out.later hb
          have F4 : Hid (Nums wr .u16 a2 f) := F3.out.later hb
          have G4 : Hid (Nums wr .u16 a3 g) := G3.out.later hb
          have H4 : Hid (Nums wr .u16 (some ⟨w3.heap.size, 0, none⟩) (compL f g)) := by
            have h1 := ho
            have h2 := cl_all .u16 (compL f g)
            rw [compL_len] at h2
            rw [h2, ← compL_len f g] at h1
            obtain ⟨ao, c, e, h3⟩ := ownsRow_nums h1
            cases e
            exact h3
          have HLC : Hid ((compL f g).length = f.length) := compL_len f g
          have HF : Hid (f.length = (compL f g).length) := (compL_len f g).symm
          clear ho hb T3 I3 F3 G3 B3
          go_wp2_with fail
          refine (asm_plain N a1 ps c1 _ wr T4.out OK.out hp1 I4.out).mono ?_
          rintro e w5 ⟨v5, rfl, ho5, hb5⟩
          have T5 : Hid (Tab N w5) := T4.out.later hb5
          have O5 : Hid (Own w5 wr.heap.size v5 (asmL ps)) := ho5
          have C5 : Hid (Below wr.heap.size wr w5) := hb5
          clear ho5 hb5
          go_wp2_with fail
          refine (toMap_any a2 f c2 w5 hf1 UF.out (F4.out.later C5.out)).mono ?_
          rintro e w6 ⟨rfl, hm6, hb6⟩
          have T6 : Hid (Tab N w6) := T5.out.later hb6
          have O6 : Hid (Own w6 wr.heap.size v5 (asmL ps)) := O5.out.later hb6
          have C6 : Hid (Below wr.heap.size wr w6) := C5.out.trans (hb6.mono C5.out.size)
          have M6 : Hid (MapIs w6 w5.heap.size f) := hm6
          have NE6 : Hid (v5.ownBlock ≠ some w5.heap.size) := fun e => by have := (O5.out.lt _ e).2; omega
          have HN4 : Hid (N ≤ wr.heap.size) := T4.out.size
          clear hm6 hb6 T5 O5 C5
          go_wp2_with fail
          refine (upd13 N wr.heap.size v5 w5.heap.size ps f w6 T6.out HN4.out OK.out hp1 UF.out hf1 HW.out M6.out NE6.out O6.out).mono ?_
          rintro e w7 ⟨rfl, ho7, hg7⟩
          have C7 : Hid (Below wr.heap.size wr w7) := C6.out.grown hg7 C6.out.size (fun k hk => (O6.out.lt k hk).1)
          have T7 : Hid (Tab N w7) := T4.out.below C7.out HN4.out
          have O7 : Hid (Own w7 wr.heap.size v5 (asmL (ps.map (mapI f)))) := ho7
          clear ho7 hg7 T6 O6 M6 NE6 C6
          go_wp2_with fail
          refine (toMap_any a3 g c3 w7 hg1 UG.out (G4.out.later C7.out)).mono ?_
          rintro e w8 ⟨rfl, hm8, hb8⟩
          have T8 : Hid (Tab N w8) := T7.out.later hb8
          have O8 : Hid (Own w8 wr.heap.size v5 (asmL (ps.map (mapI f)))) := O7.out.later hb8
          have C8 : Hid (Below wr.heap.size wr w8) := C7.out.trans (hb8.mono C7.out.size)
          have M8 : Hid (MapIs w8 w7.heap.size g) := hm8
          have NE8 : Hid (v5.ownBlock ≠ some w7.heap.size) := fun e => by have := (O7.out.lt _ e).2; omega
          have OKf : Hid (∀ z ∈ ps.map (mapI f), z.Ok) := fun z' hz' => by
            obtain ⟨z, hz, rfl⟩ := List.mem_map.1 hz'
            exact mapI_ok UF.out (OK.out z hz)
          have HWg : Hid (Within (ps.map (mapI f)) g.length) := mapI_within HS.out OK.out HW.out
          have hp2 : (ps.map (mapI f)).length ≤ 65536 := by rw [List.length_map]; exact hp1
          clear hm8 hb8 T7 O7 C7
          go_wp2_with fail
          refine (upd13 N wr.heap.size v5 w7.heap.size (ps.map (mapI f)) g w8 T8.out HN4.out OKf.out hp2 UG.out hg1 HWg.out M8.out NE8.out O8.out).mono ?_
          rintro e w9 ⟨rfl, ho9, hg9⟩
          have C9 : Hid (Below wr.heap.size wr w9) := C8.out.grown hg9 C8.out.size (fun k hk => (O8.out.lt k hk).1)
          have T9 : Hid (Tab N w9) := T4.out.below C9.out HN4.out
          have EQ := mapI_mapI (f := f) (g := g) (gf := compL f g) compL_getD OK.out HW.out
          rw [EQ] at ho9
          have O9 : Hid (Own w9 wr.heap.size v5 (asmL (ps.map (mapI (compL f g))))) := ho9
          clear ho9 hg9 T8 O8 M8 NE8 C8 EQ hp2 OKf HWg
          go_wp2_with fail
          refine (asm_plain N a1 ps c1 _ w9 T9.out OK.out hp1 (I4.out.later C9.out)).mono ?_
          rintro e w10 ⟨v10, rfl, ho10, hb10⟩
          have T10 : Hid (Tab N w10) := T9.out.later hb10
          have P10 : Hid (Own w10 w9.heap.size v10 (asmL ps)) := ho10
          have O10 : Hid (Own w10 wr.heap.size v5 (asmL (ps.map (mapI (compL f g))))) := O9.out.later hb10
          have C10 : Hid (Below wr.heap.size wr w10) := C9.out.trans (hb10.mono C9.out.size)
          have L9 : Hid (∀ k, v5.ownBlock = some k → k < w9.heap.size) := fun k hk => (O9.out.lt k hk).2
          have HN9 : Hid (N ≤ w9.heap.size) := T9.out.size
          have S9 : Hid (wr.heap.size ≤ w9.heap.size) := C9.out.size
          clear ho10 hb10 T9 O9 C9
          go_wp2_with fail
          refine (toMap_len f.length _ (compL f g) f.length w10 HF.out (HLC.out ▸ hf1) (compL_u16 UG.out) (H4.out.later C10.out)).mono ?_
          rintro e w11 ⟨rfl, hm11, hb11⟩
          have T11 : Hid (Tab N w11) := T10.out.later hb11
          have P11 : Hid (Own w11 w9.heap.size v10 (asmL ps)) := P10.out.later hb11
          have O11 : Hid (Own w11 wr.heap.size v5 (asmL (ps.map (mapI (compL f g))))) := O10.out.later hb11
          have C11 : Hid (Below wr.heap.size wr w11) := C10.out.trans (hb11.mono C10.out.size)
          have M11 : Hid (MapIs w11 w10.heap.size (compL f g)) := hm11
          have NE11 : Hid (v10.ownBlock ≠ some w10.heap.size) := fun e => by have := (P10.out.lt _ e).2; omega
          have HWc : Hid (Within ps (compL f g).length) := by have h := HW.out; rw [HF.out] at h; exact h
          have hcl : (compL f g).length ≤ 65536 := by rw [HLC.out]; exact hf1
          clear hm11 hb11 T10 P10 O10 C10
          go_wp2_with fail
          refine (upd13 N w9.heap.size v10 w10.heap.size ps (compL f g) w11 T11.out HN9.out OK.out hp1 (compL_u16 UG.out) hcl HWc.out M11.out NE11.out P11.out).mono ?_
          rintro e w12 ⟨rfl, ho12, hg12⟩
          have C12 : Hid (Below wr.heap.size wr w12) := C11.out.grown hg12 C11.out.size (fun k hk => Nat.le_trans S9.out (P11.out.lt k hk).1)
          have B12 : Hid (Below w.heap.size w w12) := B4.out.trans (C12.out.mono B4.out.size)
          have O12 : Hid (Own w12 wr.heap.size v5 (asmL (ps.map (mapI (compL f g))))) := O11.out.kept hg12 (by
            cases hv : v5.ownBlock with
            | none => exact Or.inl rfl
            | some k =>
              refine Or.inr (fun e => ?_)
              have h1 := L9.out k hv
              have h2 := (P11.out.lt k e.symm).1
              omega)
          obtain ⟨a6, c6, e4, n6⟩ := ownsRow_nums O12.out
          obtain ⟨a7, c7, e5, n7⟩ := ownsRow_nums ho12
          have N6 : Hid (Nums w12 .u8 a6 (asmL (ps.map (mapI (compL f g))))) := n6
          have N7 : Hid (Nums w12 .u8 a7 (asmL (ps.map (mapI (compL f g))))) := n7
          have hlen : (asmL (ps.map (mapI (compL f g)))).length ≤ 1000000 := by
            have := asmL_len_le (ps.map (mapI (compL f g)))
            rw [List.length_map] at this
            omega
          clear ho12 hg12 n6 n7 O12 O11 P11 M11 T11 C11 C12 L9 NE11 HWc hcl S9 HN9 HN4 H4 G4 F4 I4 T4 B4 HLC HF
          subst e4 e5
          go_wp2_with fail
          refine (bytesEq_same a6 a7 (asmL (ps.map (mapI (compL f g)))) c6 c7 w12 hlen N6.out N7.out).mono ?_
          rintro e w13 ⟨rfl, hb13⟩
          have B13 : Hid (Below w.heap.size w w13) := B12.out.trans (hb13.mono B12.out.size)
          clear hb13
          go_wp2
          go_ret
          exact ⟨rfl, B13.out⟩
end Go.Proofs.YoefxwFmt
