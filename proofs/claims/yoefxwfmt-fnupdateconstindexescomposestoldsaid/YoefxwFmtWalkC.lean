import Derived.Test.YoefxwFmtWalkB
namespace Go.Proofs.YoefxwFmt
open Go.RowKit
set_option maxHeartbeats 400000 in
theorem cloneIns_nil (n c : Nat) (w : World) :
    Calls Efxg.prog 9 #[.slice none n c] w fun e w' => e = .returned (.slice none 0 0) ∧ w' = w := by
  have hq := fun w => Lib.run_eql_slice_nil (P := Efxg.prog) w 22 69 none n c 0 0 Efxg.underlying22
  go_enter Efxg.func9, Efxg.ntmps9
  go_wp2
  go_ret
  exact ⟨rfl, rfl⟩

/-- After k rounds: the first k instructions lie in block B; every cell of the row is there and may be written. -/
def ClI (B : Nat) (ps : List Zi) (k : Nat) (w : World) : Prop :=
  (∀ j, j < ps.length * 3 → (∃ v, w.cell? ⟨B, j, none⟩ = some v) ∧ w.frozen? ⟨B, j, none⟩ = false) ∧
  ∀ j z, ps[j]? = some z → j < k → w.cell? ⟨B, j * 3, none⟩ = some (.int .u8 z.k) ∧ w.cell? ⟨B, j * 3 + 1, none⟩ = some (.int .u16 z.i) ∧ w.cell? ⟨B, j * 3 + 2, none⟩ = some (.int .u8 z.f)

theorem cell_set_ne {w : World} {B i j : Nat} {v : Value} (h : i ≠ j) : (w.setCell ⟨B, i, none⟩ v).cell? ⟨B, j, none⟩ = w.cell? ⟨B, j, none⟩ :=
  World.cell?_setCell_other _ _ _ _ (by intro e; exact h (congrArg Addr.off e))

theorem clI_step {B : Nat} {ps : List Zi} {k : Nat} {w : World} {z : Zi} (h : ClI B ps k w) (hz : ps[k]? = some z) :
    ClI B ps (k + 1) (((w.setCell ⟨B, k * 3, none⟩ (.int .u8 z.k)).setCell ⟨B, k * 3 + 1, none⟩ (.int .u16 z.i)).setCell ⟨B, k * 3 + 2, none⟩ (.int .u8 z.f)) := by
  have hk : k < ps.length := (List.getElem?_eq_some_iff.1 hz).1
  obtain ⟨h1, h2⟩ := h
  refine ⟨fun j hj => ⟨?_, by simpa using (h1 j hj).2⟩, fun j y hy hjk => ?_⟩
  · obtain ⟨v, hv⟩ := (h1 j hj).1
    obtain ⟨v, hv⟩ := cell?_setCell_some (p := ⟨B, k * 3, none⟩) (x := .int .u8 z.k) hv
    obtain ⟨v, hv⟩ := cell?_setCell_some (p := ⟨B, k * 3 + 1, none⟩) (x := .int .u16 z.i) hv
    exact cell?_setCell_some hv
  · by_cases hjk' : j = k
    · subst hjk'
      obtain rfl : y = z := by rw [hz] at hy; exact (Option.some.inj hy).symm
      obtain ⟨v0, hv0⟩ := (h1 (j * 3) (by omega)).1
      obtain ⟨v1, hv1⟩ := (h1 (j * 3 + 1) (by omega)).1
      obtain ⟨v2, hv2⟩ := (h1 (j * 3 + 2) (by omega)).1
      refine ⟨?_, ?_, ?_⟩
      · rw [cell_set_ne (by omega), cell_set_ne (by omega)]; exact World.cell?_setCell_same _ _ _ hv0
      · rw [cell_set_ne (by omega)]; exact World.cell?_setCell_same _ _ _ (u := v1) (by rw [cell_set_ne (by omega)]; exact hv1)
      · exact World.cell?_setCell_same _ _ _ (u := v2) (by rw [cell_set_ne (by omega), cell_set_ne (by omega)]; exact hv2)
    · obtain ⟨a0, a1, a2⟩ := h2 j y hy (by omega)
      refine ⟨?_, ?_, ?_⟩ <;> (rw [cell_set_ne (by omega), cell_set_ne (by omega), cell_set_ne (by omega)]; assumption)

set_option maxHeartbeats 400000 in
theorem cloneIns_some (a : Addr) (ps : List Zi) (c : Nat) (w : World) (hl : ps.length ≤ 65536) (hc : Ins w (some a) ps) :
    Calls Efxg.prog 9 #[.slice (some a) ps.length c] w fun e w' => e = .returned (.slice (some ⟨w.heap.size, 0, none⟩) ps.length ps.length) ∧ ClI w.heap.size ps ps.length w' ∧ Below w.heap.size w w' := by
  have hq := fun w => Lib.run_eql_slice_nil (P := Efxg.prog) w 22 69 (some a) ps.length c 0 0 Efxg.underlying22
  obtain ⟨i0, hi, hz0, hz1, hz2⟩ := info_parts Efxg.info69
  go_enter Efxg.func9, Efxg.ntmps9
  go_wp2_with (at_make; refine wpList_make_full _ rfl _ _ 22 rfl w.heap.size 69 i0 (.agg #[.int .u8 0, .int .u16 0, .int .u8 0]) 3 Efxg.underlying22 hi hz0 hz1 _ _ _ _ ps.length rfl rfl rfl rfl (by rw [hz2]; omega) (by unfold maxLen; omega) (Nat.le_refl _) ?_; intro w1 hown hgrow)
  have hw0 : ClI w.heap.size ps 0 w1 := by
    refine ⟨fun j hj => ⟨?_, hown.frozenAt j⟩, fun _ _ _ h => by omega⟩
    rw [hown.cellAt j hj]
    exact ⟨_, List.getElem?_eq_getElem (by rw [hown.1]; exact hj)⟩
  have hb0 : Below w.heap.size w w1 := (Below.refl _ _).grown hgrow (Nat.le_refl _) (fun k hk => by cases hk)
  clear hown hgrow
  go_loopw [4] (fun i wr => ∃ k : Nat, k ≤ ps.length ∧ i = .int .i64 k ∧ ClI w.heap.size ps k wr ∧ Below w.heap.size w wr) (fun i _ => ps.length - (intOf i).toNat)
  case atStart => exact ⟨0, Nat.zero_le _, rfl, hw0, hb0⟩
  case round =>
    obtain ⟨k, hk, rfl, ho, hb⟩ := hrel
    by_cases hlt : k < ps.length
    · obtain ⟨z, hz⟩ : ∃ z, ps[k]? = some z := ⟨_, List.getElem?_eq_getElem hlt⟩
      obtain ⟨b, off, he, hc0, hc1, hc2⟩ := hc k z hz
      obtain rfl := Option.some.inj he
      have hbl : b < w.heap.size := block_lt_of_cell hc0
      have hr0 := (hb.cell (p := ⟨b, off + k * 3, none⟩) hbl).trans hc0
      have hr1 := (hb.cell (p := ⟨b, off + k * 3 + 1, none⟩) hbl).trans hc1
      have hr2 := (hb.cell (p := ⟨b, off + k * 3 + 2, none⟩) hbl).trans hc2
      obtain ⟨⟨v0, hv0⟩, hf0⟩ := ho.1 (k * 3) (by omega)
      obtain ⟨⟨v1, hv1⟩, hf1⟩ := ho.1 (k * 3 + 1) (by omega)
      obtain ⟨⟨v2, hv2⟩, hf2⟩ := ho.1 (k * 3 + 2) (by omega)
      have HX : Hid (ps[k]? = some z) := hz
      have HO : Hid (ClI w.heap.size ps k wr) := ho
      clear hz hc0 hc1 hc2 hc hw0 hb0 ho
      have R2 := ((hb.setCell (p := ⟨w.heap.size, k * 3, none⟩) (Nat.le_refl _) (.int .u8 z.k)).setCell (p := ⟨w.heap.size, k * 3 + 1, none⟩) (Nat.le_refl _) (.int .u16 z.i)).setCell (p := ⟨w.heap.size, k * 3 + 2, none⟩) (Nat.le_refl _) (.int .u8 z.f)
      clear hb
      go_wp2
      go_roundw
      case rel => exact ⟨k + 1, by omega, by go_num, clI_step HO.out HX.out, R2⟩
      case measure => simp [intOf]; omega
    · go_wp2
      go_ret
      have hkl : k = ps.length := by omega
      subst hkl
      exact ⟨rfl, ho, hb⟩
end Go.Proofs.YoefxwFmt
