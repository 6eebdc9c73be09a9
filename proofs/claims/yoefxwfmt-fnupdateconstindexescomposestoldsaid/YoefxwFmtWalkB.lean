import Derived.Test.YoefxwFmtWalkA
namespace Go.Proofs.YoefxwFmt
open Go.RowKit
theorem Efxg.info35 : (Efxg.prog.info? 35).map (fun i => (i.zero, i.size, i.bytes)) = some (some (.int .u16 0), 1, 2) := by kernel_rfl
theorem Efxg.info5 : (Efxg.prog.info? 5).map (fun i => (i.zero, i.size, i.bytes)) = some (some (.int .u8 0), 1, 1) := by kernel_rfl
theorem Efxg.info3 : (Efxg.prog.info? 3).map (fun i => (i.zero, i.size, i.bytes)) = some (some (.int .i64 0), 1, 8) := by kernel_rfl
theorem Efxg.info69 : (Efxg.prog.info? 69).map (fun i => (i.zero, i.size, i.bytes)) = some (some (.agg #[.int .u8 0, .int .u16 0, .int .u8 0]), 3, 6) := by kernel_rfl

def cl (q : IntKind) (xs : List Int) (k : Nat) : List Value := (xs.take k).map (.int q) ++ List.replicate (xs.length - k) (.int q 0)
theorem cl_len (q : IntKind) (xs : List Int) (k : Nat) (hk : k ≤ xs.length) : (cl q xs k).length = xs.length := by simp [cl]; omega
theorem cl_set (q : IntKind) (xs : List Int) (k : Nat) (x : Int) (hx : xs[k]? = some x) : (cl q xs k).set k (.int q x) = cl q xs (k + 1) := by
  have hk : k < xs.length := (List.getElem?_eq_some_iff.1 hx).1
  unfold cl
  rw [List.set_append_right _ _ (by simp; omega)]
  obtain ⟨m, hm⟩ : ∃ m, xs.length - k = m + 1 := ⟨xs.length - k - 1, by omega⟩
  rw [hm, List.replicate_succ, show k - (List.map (Value.int q) (List.take k xs)).length = 0 from by simp; omega]
  rw [List.set_cons_zero, List.take_add_one, hx, show xs.length - (k + 1) = m from by omega]
  simp
theorem cl_at (q : IntKind) (xs : List Int) (k : Nat) (hk : k < xs.length) : (cl q xs k)[k]? = some (.int q 0) := by
  unfold cl
  rw [List.getElem?_append_right (by simp; omega), show k - (List.map (Value.int q) (List.take k xs)).length = 0 from by simp; omega, List.getElem?_replicate, if_pos (by omega)]
theorem cl_zero (q : IntKind) (xs : List Int) : cl q xs 0 = List.replicate xs.length (.int q 0) := by simp [cl]
theorem cl_all (q : IntKind) (xs : List Int) : cl q xs xs.length = xs.map (.int q) := by simp [cl]

theorem made_one (q : IntKind) (n : Nat) : (madeCells (Value.int q 0).cells (n * 1)).toList = List.replicate n (.int q 0) := by
  rw [show (Value.int q 0).cells = #[.int q 0] from rfl, toList_madeCells_one, Nat.mul_one]
set_option maxHeartbeats 400000 in
theorem cloneU16_nil (n c : Nat) (w : World) :
    Calls Efxg.prog 10 #[.slice none n c] w fun e w' => e = .returned (.slice none 0 0) ∧ w' = w := by
  have hq := fun w => Lib.run_eql_slice_nil (P := Efxg.prog) w 23 35 none n c 0 0 Efxg.underlying23
  go_enter Efxg.func10, Efxg.ntmps10
  go_wp2
  go_ret
  exact ⟨rfl, rfl⟩
set_option maxHeartbeats 400000 in
theorem cloneU16_some (a : Addr) (xs : List Int) (c : Nat) (w : World) (hl : xs.length ≤ 65536) (hc : Nums w .u16 (some a) xs) :
    Calls Efxg.prog 10 #[.slice (some a) xs.length c] w fun e w' => e = .returned (.slice (some ⟨w.heap.size, 0, none⟩) xs.length xs.length) ∧ w'.ownsRow w.heap.size 35 1 (.slice (some ⟨w.heap.size, 0, none⟩) xs.length xs.length) xs.length (xs.map (.int .u16)) ∧ Below w.heap.size w w' := by
  have hq := fun w => Lib.run_eql_slice_nil (P := Efxg.prog) w 23 35 (some a) xs.length c 0 0 Efxg.underlying23
  obtain ⟨i0, hi, hz0, hz1, hz2⟩ := info_parts Efxg.info35
  go_enter Efxg.func10, Efxg.ntmps10
  go_wp2_with (at_make; refine wpList_make_full _ rfl _ _ 23 rfl w.heap.size 35 i0 (.int .u16 0) 1 Efxg.underlying23 hi hz0 hz1 _ _ _ _ xs.length rfl rfl rfl rfl (by rw [hz2]; omega) (by unfold maxLen; omega) (Nat.le_refl _) ?_; intro w1 hown hgrow)
  have hw0 : w1.ownsRow w.heap.size 35 1 (.slice (some ⟨w.heap.size, 0, none⟩) xs.length xs.length) xs.length (cl .u16 xs 0) := by
    rw [cl_zero]; have h := hown; rw [made_one] at h; exact h
  have hb0 : Below w.heap.size w w1 := (Below.refl _ _).grown hgrow (Nat.le_refl _) (fun k hk => by cases hk)
  clear hown hgrow
  go_loopw [4] (fun i wr => ∃ k : Nat, k ≤ xs.length ∧ i = .int .i64 k ∧ wr.ownsRow w.heap.size 35 1 (.slice (some ⟨w.heap.size, 0, none⟩) xs.length xs.length) xs.length (cl .u16 xs k) ∧ Below w.heap.size w wr) (fun i _ => xs.length - (intOf i).toNat)
  case atStart => exact ⟨0, Nat.zero_le _, rfl, hw0, hb0⟩
  case round =>
    obtain ⟨k, hk, rfl, ho, hb⟩ := hrel
    by_cases hlt : k < xs.length
    · obtain ⟨x, hx⟩ : ∃ x, xs[k]? = some x := ⟨_, List.getElem?_eq_getElem hlt⟩
      obtain ⟨b, off, he, hcx⟩ := hc k x hx
      obtain rfl := Option.some.inj he
      have hbl : b < w.heap.size := block_lt_of_cell hcx
      have hcr : wr.cell? ⟨b, off + k, none⟩ = some (.int .u16 x) := (hb.cell hbl).trans hcx
      have hd : wr.cell? ⟨w.heap.size, k, none⟩ = some (.int .u16 0) := (ho.cellAt k (by omega)).trans (cl_at _ _ _ hlt)
      have hf := ho.frozenAt k
      have hst := ho.stored k (.int .u16 x)
      rw [cl_set _ _ _ _ hx] at hst
      have R1 := hst.1
      have R2 := hb.setCell (p := ⟨w.heap.size, k, none⟩) (Nat.le_refl _) (.int .u16 x)
      have HX : Hid (xs[k]? = some x) := hx
      clear hst hx hcx hc hw0 hb0 ho hb
      go_wp2
      go_roundw
      case rel => exact ⟨k + 1, by omega, by go_num, R1, R2⟩
      case measure => simp [intOf]; omega
    · go_wp2
      go_ret
      have hkl : k = xs.length := by omega
      subst hkl
      exact ⟨rfl, by rw [cl_all] at ho; exact ho, hb⟩
end Go.Proofs.YoefxwFmt
