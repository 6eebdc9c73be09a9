/-
  WALKS: what the two laws use besides: the clones in one form, what is kept in later worlds; the first law (3).
-/
import Derived.Test.YoefxwFmtWalkL
namespace Go.Proofs.YoefxwFmt
open Go.RowKit

theorem Ins.later {w w' : World} {a : Option Addr} {ps : List Zi} (h : Ins w a ps) (hb : Below w.heap.size w w') : Ins w' a ps := by
  intro k z hz
  obtain ⟨b, off, e, h0, h1, h2⟩ := h k z hz
  have hbl : b < w.heap.size := block_lt_of_cell h0
  exact ⟨b, off, e, (hb.cell (p := ⟨b, off + k * 3, none⟩) hbl).trans h0, (hb.cell (p := ⟨b, off + k * 3 + 1, none⟩) hbl).trans h1, (hb.cell (p := ⟨b, off + k * 3 + 2, none⟩) hbl).trans h2⟩

theorem Nums.later {w w' : World} {q : IntKind} {a : Option Addr} {xs : List Int} (h : Nums w q a xs) (hb : Below w.heap.size w w') : Nums w' q a xs := by
  intro k x hx
  obtain ⟨b, off, e, h0⟩ := h k x hx
  have hbl : b < w.heap.size := block_lt_of_cell h0
  exact ⟨b, off, e, (hb.cell (p := ⟨b, off + k, none⟩) hbl).trans h0⟩

theorem Own.later {w w' : World} {B : Nat} {v : Value} {xs : List Int} (h : Own w B v xs) (hb : Below w.heap.size w w') : Own w' B v xs :=
  h.kept (row := none) ⟨hb.os, hb.tape, hb.output, hb.size, fun k hk _ => hb.block k hk⟩ (by cases hv : v.ownBlock <;> simp)

theorem MapIs.later {w w' : World} {b : Nat} {xs : List Int} (h : MapIs w b xs) (hb : Below w.heap.size w w') : MapIs w' b xs := h.below hb h.lt

theorem Tab.later {N : Nat} {w w' : World} (t : Tab N w) (hb : Below w.heap.size w w') : Tab N w' := t.below hb t.size

theorem ownsRow_nums {w : World} {B e : Nat} {q : IntKind} {v : Value} {xs : List Int} (h : w.ownsRow B e 1 v xs.length (xs.map (.int q))) : ∃ ao c, v = .slice ao xs.length c ∧ Nums w q ao xs := by
  rcases h.2 with ⟨rfl, h0⟩ | ⟨g, cap, cur, rfl, hBg, hcur, hnc, hcm, hcs, htake⟩
  · refine ⟨none, 0, by rw [h0], ?_⟩
    intro k x hx
    have := (List.getElem?_eq_some_iff.1 hx).1
    omega
  · refine ⟨_, _, rfl, ?_⟩
    intro k x hx
    have hk := (List.getElem?_eq_some_iff.1 hx).1
    refine ⟨g, 0, rfl, ?_⟩
    rw [Nat.zero_add, h.cellAt k (by omega), List.getElem?_map, hx]
    rfl

theorem ins_none {w : World} {ps : List Zi} (h : Ins w none ps) : ps = [] := by
  cases ps with
  | nil => rfl
  | cons z ps =>
    obtain ⟨b, off, e, _⟩ := h 0 z rfl
    cases e

theorem nums_none {w : World} {q : IntKind} {xs : List Int} (h : Nums w q none xs) : xs = [] := by
  cases xs with
  | nil => rfl
  | cons z ps =>
    obtain ⟨b, off, e, _⟩ := h 0 z rfl
    cases e

def GotIns (ps : List Zi) (w : World) (e : Ending) (w' : World) : Prop := ∃ a c, e = .returned (.slice a ps.length c) ∧ Ins w' a ps ∧ Below w.heap.size w w'
def GotNums (xs : List Int) (w : World) (e : Ending) (w' : World) : Prop := ∃ a c, e = .returned (.slice a xs.length c) ∧ Nums w' .u16 a xs ∧ Below w.heap.size w w'

theorem cloneIns_any (a : Option Addr) (ps : List Zi) (c : Nat) (w : World) (hl : ps.length ≤ 65536) (hc : Ins w a ps) :
    Calls Efxg.prog 9 #[.slice a ps.length c] w fun e w' => GotIns ps w e w' := by
  cases a with
  | none =>
    obtain rfl := ins_none hc
    refine (cloneIns_nil _ _ _).mono ?_
    rintro e w' ⟨rfl, rfl⟩
    exact ⟨none, 0, rfl, hc, Below.refl _ _⟩
  | some a =>
    refine (cloneIns_some a ps c w hl hc).mono ?_
    rintro e w' ⟨rfl, h1, h2⟩
    refine ⟨_, _, rfl, ?_, h2⟩
    intro k z hz
    obtain ⟨h3, h4, h5⟩ := h1.2 k z hz (List.getElem?_eq_some_iff.1 hz).1
    exact ⟨w.heap.size, 0, rfl, by rw [Nat.zero_add]; exact h3, by rw [Nat.zero_add]; exact h4, by rw [Nat.zero_add]; exact h5⟩

theorem cloneU16_any (a : Option Addr) (xs : List Int) (c : Nat) (w : World) (hl : xs.length ≤ 65536) (hc : Nums w .u16 a xs) :
    Calls Efxg.prog 10 #[.slice a xs.length c] w fun e w' => GotNums xs w e w' := by
  cases a with
  | none =>
    obtain rfl := nums_none hc
    refine (cloneU16_nil _ _ _).mono ?_
    rintro e w' ⟨rfl, rfl⟩
    exact ⟨none, 0, rfl, hc, Below.refl _ _⟩
  | some a =>
    refine (cloneU16_some a xs c w hl hc).mono ?_
    rintro e w' ⟨rfl, h1, h2⟩
    obtain ⟨ao, c', e, hn⟩ := ownsRow_nums h1
    cases e
    exact ⟨_, _, rfl, hn, h2⟩

set_option maxRecDepth 100000 in
set_option maxHeartbeats 800000 in
theorem law3_any (N : Nat) (ap : Option Addr) (ps : List Zi) (cp : Nat) (am : Option Addr) (to : List Int) (cm : Nat) (w : World) (t : Tab N w) (hok : ∀ z ∈ ps, z.Ok) (hu : U16 to)
    (hpl : ps.length ≤ 9223372036854775807) (htl : to.length ≤ 9223372036854775807) (hi : Ins w ap ps) (hn : Nums w .u16 am to) :
    Calls Efxg.prog 3 #[.slice ap ps.length cp, .slice am to.length cm] w fun e w' => e = .returned (.bool true) ∧ Below w.heap.size w w' := by
  have T0 : Hid (Tab N w) := t
  have I0 : Hid (Ins w ap ps) := hi
  have N0 : Hid (Nums w .u16 am to) := hn
  have OK : Hid (∀ z ∈ ps, z.Ok) := hok
  have HU : Hid (U16 to) := hu
  clear t hi hn hok hu
  go_enter Efxg.func3, Efxg.ntmps3
  go_wp2_with fail
  refine (zz7_any ap am ps.length cp to.length cm w hpl htl).mono ?_
  rintro e w0 ⟨rfl | ⟨rfl, hsum⟩, rfl⟩
  · go_wp2
    go_ret
    exact ⟨rfl, Below.refl _ _⟩
  rcases Nat.lt_or_ge 65536 ps.length with hp1 | hp1
  · go_wp2
    go_ret
    exact ⟨rfl, Below.refl _ _⟩
  rcases Nat.lt_or_ge 65536 to.length with ht1 | ht1
  · go_wp2
    go_ret
    exact ⟨rfl, Below.refl _ _⟩
  go_wp2_with fail
  refine (refs_any ap ps cp to.length w0 OK.out hp1 I0.out).mono ?_
  rintro e w ⟨rfl | ⟨rfl, hwi⟩, rfl⟩
  · go_wp2
    go_ret
    exact ⟨rfl, Below.refl _ _⟩
  have HW : Hid (Within ps to.length) := hwi
  clear hwi
  go_wp2_with fail
  refine (cloneIns_any ap ps cp w hp1 I0.out).mono ?_
  rintro e w1 ⟨a1, c1, rfl, hi1, hb1⟩
  have T1 : Hid (Tab N w1) := T0.out.later hb1
  have N1 : Hid (Nums w1 .u16 am to) := N0.out.later hb1
  have I1 : Hid (Ins w1 a1 ps) := hi1
  have B1 : Hid (Below w.heap.size w w1) := hb1
  clear hi1 hb1 T0 N0 I0
  go_wp2_with fail
  refine (cloneU16_any am to cm w1 ht1 N1.out).mono ?_
  rintro e w2 ⟨a2, c2, rfl, hn2, hb2⟩
  have T2 : Hid (Tab N w2) := T1.out.later hb2
  have I2 : Hid (Ins w2 a1 ps) := I1.out.later hb2
  have N2 : Hid (Nums w2 .u16 a2 to) := hn2
  have B2 : Hid (Below w.heap.size w w2) := B1.out.trans (hb2.mono B1.out.size)
  clear hn2 hb2 T1 N1 I1 B1
  go_wp2_with fail
  refine (toMap_any a2 to c2 w2 ht1 HU.out N2.out).mono ?_
  rintro e w3 ⟨rfl, hm3, hb3⟩
  have T3 : Hid (Tab N w3) := T2.out.later hb3
  have I3 : Hid (Ins w3 a1 ps) := I2.out.later hb3
  have N3 : Hid (Nums w3 .u16 a2 to) := N2.out.later hb3
  have M3 : Hid (MapIs w3 w2.heap.size to) := hm3
  have B3 : Hid (Below w.heap.size w w3) := B2.out.trans (hb3.mono B2.out.size)
  clear hm3 hb3 T2 N2 I2 B2
  go_wp2_with fail
  refine (asm_plain N a1 ps c1 _ w3 T3.out OK.out hp1 I3.out).mono ?_
  rintro e w4 ⟨v4, rfl, ho4, hb4⟩
  have T4 : Hid (Tab N w4) := T3.out.later hb4
  have I4 : Hid (Ins w4 a1 ps) := I3.out.later hb4
  have N4 : Hid (Nums w4 .u16 a2 to) := N3.out.later hb4
  have M4 : Hid (MapIs w4 w2.heap.size to) := M3.out.later hb4
  have B4 : Hid (Below w.heap.size w w4) := B3.out.trans (hb4.mono B3.out.size)
  have O4 : Hid (Own w4 w3.heap.size v4 (asmL ps)) := ho4
  have NE4 : Hid (v4.ownBlock ≠ some w2.heap.size) := fun e => by have := (ho4.lt _ e).1; have := M3.out.lt; omega
  have HN3 : Hid (N ≤ w3.heap.size) := T3.out.size
  have BS3 : Hid (w.heap.size ≤ w3.heap.size) := B3.out.size
  clear ho4 hb4 T3 N3 I3 B3 M3
  go_wp2_with fail
  refine (asm_mapped N a1 ps c1 a2 to c2 w4 T4.out OK.out hp1 I4.out HU.out N4.out HW.out).mono ?_
  rintro e w5 ⟨v5, rfl, ho5, hb5⟩
  have T5 : Hid (Tab N w5) := T4.out.later hb5
  have M5 : Hid (MapIs w5 w2.heap.size to) := M4.out.later hb5
  have B5 : Hid (Below w.heap.size w w5) := B4.out.trans (hb5.mono B4.out.size)
  have O5 : Hid (Own w5 w3.heap.size v4 (asmL ps)) := O4.out.later hb5
  have P5 : Hid (Own w5 w4.heap.size v5 (asmL (ps.map (mapI to)))) := ho5
  have L4 : Hid (∀ k, v4.ownBlock = some k → w3.heap.size ≤ k ∧ k < w4.heap.size) := O4.out.lt
  clear ho5 hb5 T4 N4 I4 B4 M4 O4
  go_wp2_with fail
  refine (upd13 N w3.heap.size v4 w2.heap.size ps to w5 T5.out HN3.out OK.out hp1 HU.out ht1 HW.out M5.out NE4.out O5.out).mono ?_
  rintro e w6 ⟨rfl, ho6, hg6⟩
  have B6 : Hid (Below w.heap.size w w6) := B5.out.grown hg6 B5.out.size (fun k hk => Nat.le_trans BS3.out (L4.out k hk).1)
  have P6 : Hid (Own w6 w4.heap.size v5 (asmL (ps.map (mapI to)))) := P5.out.kept hg6 (by
    cases hv : v5.ownBlock with
    | none => exact Or.inl rfl
    | some k =>
      refine Or.inr (fun e => ?_)
      have h1 := (P5.out.lt _ hv).1
      have h2 := (L4.out k e.symm).2
      omega)
  obtain ⟨a6, c6, e4, n6⟩ := ownsRow_nums ho6
  obtain ⟨a7, c7, e5, n7⟩ := ownsRow_nums P6.out
  have N6 : Hid (Nums w6 .u8 a6 (asmL (ps.map (mapI to)))) := n6
  have N7 : Hid (Nums w6 .u8 a7 (asmL (ps.map (mapI to)))) := n7
  have hlen : (asmL (ps.map (mapI to))).length ≤ 1000000 := by
    have := asmL_len_le (ps.map (mapI to))
    rw [List.length_map] at this
    omega
  clear ho6 hg6 n6 n7 P6 P5 M5 T5 B5 O5 L4 NE4
  subst e4 e5
  go_wp2_with fail
  refine (bytesEq_same a6 a7 (asmL (ps.map (mapI to))) c6 c7 w6 hlen N6.out N7.out).mono ?_
  rintro e w7 ⟨rfl, hb7⟩
  have B7 : Hid (Below w.heap.size w w7) := B6.out.trans (hb7.mono B6.out.size)
  clear hb7
  go_wp2
  go_ret
  exact ⟨rfl, B7.out⟩
end Go.Proofs.YoefxwFmt
