import Derived.Test.YoefxwFmtWalkF
namespace Go.Proofs.YoefxwFmt
open Go.RowKit

theorem after_make {W : World} {B : Nat} {v : Value} {L bs : List Int} (h : Own W B v L) :
    Own (W.alloc (.cells (bs.map (Value.int .u8)).toArray 5)) B v L ∧ Blk (W.alloc (.cells (bs.map (Value.int .u8)).toArray 5)) W.heap.size bs ∧ v.ownBlock ≠ some W.heap.size := by
  refine ⟨h.alloc _, heap_alloc_new _ _, fun e => ?_⟩
  have := (h.lt _ e).2
  omega

theorem asm_step {ps : List Zi} {k : Nat} {z : Zi} (hz : ps[k]? = some z) : asmL (ps.take (k + 1)) = asmL (ps.take k) ++ enc1 z := by
  rw [List.take_add_one, hz, asmL_append]
  simp [asmL]

theorem asm_bound {ps : List Zi} {k : Nat} {bs : List Int} (hl : ps.length ≤ 65536) (hb : bs.length ≤ 4) : (asmL (ps.take k)).length + bs.length ≤ 1000000 := by
  have h1 := asmL_len_le (ps.take k)
  have h2 : (ps.take k).length ≤ ps.length := by simp; omega
  omega

set_option maxRecDepth 100000 in
set_option maxHeartbeats 800000 in
theorem asm_plain (N : Nat) (ap : Option Addr) (ps : List Zi) (cp : Nat) (vm : Value) (w : World) (t : Tab N w) (hok : ∀ z ∈ ps, z.Ok) (hl : ps.length ≤ 65536) (hi : Ins w ap ps) :
    Calls Efxg.prog 12 #[.slice ap ps.length cp, vm, .bool false] w fun e w' => Back w.heap.size w (asmL ps) e w' := by
  go_enter Efxg.func12, Efxg.ntmps12
  go_wp2
  go_loopw [7, 8] (fun v i wr => ∃ k : Nat, k ≤ ps.length ∧ i = .int .i64 k ∧ Own wr w.heap.size v (asmL (ps.take k)) ∧ Below w.heap.size w wr) (fun _ i _ => ps.length - (intOf i).toNat)
  case atStart => exact ⟨0, Nat.zero_le _, rfl, World.ownsRow_nil _ _ _ _, Below.refl _ _⟩
  case round =>
    obtain ⟨k, hk, rfl, ho, hb⟩ := hrel
    by_cases hlt : k < ps.length
    · obtain ⟨z, hz⟩ : ∃ z, ps[k]? = some z := ⟨_, List.getElem?_eq_getElem hlt⟩
      obtain ⟨b, off, rfl, hk0, hk1, hk2⟩ := hi k z hz
      have hzo := hok z (List.mem_of_getElem? hz)
      have := hzo.k0; have := hzo.k1; have z0 := hzo.i0; have z1 := hzo.i1; have f0 := hzo.f0; have f1 := hzo.f1
      have hbl : b < w.heap.size := block_lt_of_cell hk0
      have hr0 := (hb.cell (p := ⟨b, off + k * 3, none⟩) hbl).trans hk0
      have hr1 := (hb.cell (p := ⟨b, off + k * 3 + 1, none⟩) hbl).trans hk1
      have hr2 := (hb.cell (p := ⟨b, off + k * 3 + 2, none⟩) hbl).trans hk2
      have hbr : b < wr.heap.size := Nat.lt_of_lt_of_le hbl hb.size
      have hbs := hb.size
      have HT : Hid (Tab N wr) := t.below hb t.size
      have HO : Hid (Own wr w.heap.size _ (asmL (ps.take k))) := ho
      have HZ : Hid (ps[k]? = some z) := hz
      clear hz ho hk0 hk1 hk2 hi hok t
      rcases (show z.k % 4 = 0 ∨ z.k % 4 = 1 ∨ z.k % 4 = 2 ∨ z.k % 4 = 3 by omega) with h | h | h | h
      · have HM : Hid (z.k % 4 = 0) := h
        go_wp2_with fail
        refine (make_0 N wr.heap.size z.i _ (HT.out.below ((Below.refl _ _).alloc (Nat.le_refl _) _) HT.out.size) z0 z1 (by simp) (by simp)).mono ?_
        rintro e w1 ⟨rfl, rfl⟩
        go_wp2_with fail
        have A := after_make (bs := [0, z.i / 256, z.i % 256]) (HO.out.alloc (.cells #[.int .i64 z.i] 3))
        rw [World.size_alloc] at A
        refine (append_any w.heap.size _ (asmL (ps.take k)) [0, z.i / 256, z.i % 256] (wr.heap.size + 1) 3 _ (by simp; omega) A.1 A.2.1 A.2.2 (asm_bound hl (by simp))).mono ?_
        rintro e w2 ⟨v2, rfl, ho2, hb2⟩
        have HO2 : Hid (Own w2 w.heap.size v2 (asmL (ps.take (k + 1)))) := by show Own _ _ _ _; rw [asm_step HZ.out, enc1_0 HM.out]; exact ho2
        have R2 := (((hb.alloc hbs _).alloc (by simp; omega) _).trans hb2)
        clear ho2 hb2 A
        go_wp2
        go_roundw
        case rel => exact ⟨k + 1, by omega, by go_num, HO2.out, R2⟩
        case measure => simp [intOf]; omega
      · have HM : Hid (z.k % 4 = 1) := h
        go_wp2_with fail
        refine (make_35 N wr.heap.size z.i z.f _ (HT.out.below ((Below.refl _ _).alloc (Nat.le_refl _) _) HT.out.size) z0 z1 f0 f1 (by simp) (by simp) (by simp)).mono ?_
        rintro e w1 ⟨rfl, rfl⟩
        go_wp2_with fail
        have A := after_make (bs := [35, z.i / 256, z.i % 256, z.f]) (HO.out.alloc (.cells #[.int .i64 z.i, .int .i64 z.f] 3))
        rw [World.size_alloc] at A
        refine (append_any w.heap.size _ (asmL (ps.take k)) [35, z.i / 256, z.i % 256, z.f] (wr.heap.size + 1) 4 _ (by simp; omega) A.1 A.2.1 A.2.2 (asm_bound hl (by simp))).mono ?_
        rintro e w2 ⟨v2, rfl, ho2, hb2⟩
        have HO2 : Hid (Own w2 w.heap.size v2 (asmL (ps.take (k + 1)))) := by show Own _ _ _ _; rw [asm_step HZ.out, enc1_1 HM.out]; exact ho2
        have R2 := (((hb.alloc hbs _).alloc (by simp; omega) _).trans hb2)
        clear ho2 hb2 A
        go_wp2
        go_roundw
        case rel => exact ⟨k + 1, by omega, by go_num, HO2.out, R2⟩
        case measure => simp [intOf]; omega
      · have HM : Hid (z.k % 4 = 2) := h
        go_wp2_with fail
        refine (make_22 N wr.heap.size z.i _ (HT.out.below ((Below.refl _ _).alloc (Nat.le_refl _) _) HT.out.size) z0 z1 (by simp) (by simp)).mono ?_
        rintro e w1 ⟨rfl, rfl⟩
        go_wp2_with fail
        have A := after_make (bs := [22, z.i / 256, z.i % 256]) (HO.out.alloc (.cells #[.int .i64 z.i] 3))
        rw [World.size_alloc] at A
        refine (append_any w.heap.size _ (asmL (ps.take k)) [22, z.i / 256, z.i % 256] (wr.heap.size + 1) 3 _ (by simp; omega) A.1 A.2.1 A.2.2 (asm_bound hl (by simp))).mono ?_
        rintro e w2 ⟨v2, rfl, ho2, hb2⟩
        have HO2 : Hid (Own w2 w.heap.size v2 (asmL (ps.take (k + 1)))) := by show Own _ _ _ _; rw [asm_step HZ.out, enc1_2 HM.out]; exact ho2
        have R2 := (((hb.alloc hbs _).alloc (by simp; omega) _).trans hb2)
        clear ho2 hb2 A
        go_wp2
        go_roundw
        case rel => exact ⟨k + 1, by omega, by go_num, HO2.out, R2⟩
        case measure => simp [intOf]; omega
      · have HM : Hid (z.k % 4 = 3) := h
        go_wp2_with fail
        refine (make_2 N _ HT.out).mono ?_
        rintro e w1 ⟨rfl, rfl⟩
        go_wp2_with fail
        have A := after_make (bs := [2]) HO.out
        refine (append_any w.heap.size _ (asmL (ps.take k)) [2] wr.heap.size 1 _ (by simp; omega) A.1 A.2.1 A.2.2 (asm_bound hl (by simp))).mono ?_
        rintro e w2 ⟨v2, rfl, ho2, hb2⟩
        have HO2 : Hid (Own w2 w.heap.size v2 (asmL (ps.take (k + 1)))) := by show Own _ _ _ _; rw [asm_step HZ.out, enc1_3 HM.out]; exact ho2
        have R2 := ((hb.alloc hbs _).trans hb2)
        clear ho2 hb2 A
        go_wp2
        go_roundw
        case rel => exact ⟨k + 1, by omega, by go_num, HO2.out, R2⟩
        case measure => simp [intOf]; omega
    · have HO : Hid (Own wr w.heap.size _ (asmL (ps.take k))) := ho
      clear ho
      go_wp2
      go_ret
      have hkl : k = ps.length := by omega
      subst hkl
      exact ⟨_, rfl, by have h := HO.out; rw [List.take_length] at h; exact h, hb⟩

theorem asm_stepM {ps : List Zi} {to : List Int} {k : Nat} {z : Zi} (hz : ps[k]? = some z) : asmL ((ps.take (k + 1)).map (mapI to)) = asmL ((ps.take k).map (mapI to)) ++ enc1 (mapI to z) := by
  rw [List.take_add_one, hz, List.map_append, asmL_append]
  simp [asmL]

theorem asm_boundM {ps : List Zi} {to : List Int} {k : Nat} {bs : List Int} (hl : ps.length ≤ 65536) (hb : bs.length ≤ 4) : (asmL ((ps.take k).map (mapI to))).length + bs.length ≤ 1000000 := by
  have h1 := asmL_len_le ((ps.take k).map (mapI to))
  have h2 : ((ps.take k).map (mapI to)).length ≤ ps.length := by simp; omega
  omega

theorem encM_0 {z : Zi} {to : List Int} (h : z.k % 4 = 0) : enc1 (mapI to z) = [0, to.getD z.i.toNat 0 / 256, to.getD z.i.toNat 0 % 256] := by
  rw [mapI_ref (Or.inl h)]; exact enc1_0 h
theorem encM_1 {z : Zi} {to : List Int} (h : z.k % 4 = 1) : enc1 (mapI to z) = [35, to.getD z.i.toNat 0 / 256, to.getD z.i.toNat 0 % 256, z.f] := by
  rw [mapI_ref (Or.inr h)]; exact enc1_1 h
theorem encM_2 {z : Zi} {to : List Int} (h : z.k % 4 = 2) : enc1 (mapI to z) = [22, z.i / 256, z.i % 256] := by
  rw [mapI_not (by unfold Zi.ref; omega)]; exact enc1_2 h
theorem encM_3 {z : Zi} {to : List Int} (h : z.k % 4 = 3) : enc1 (mapI to z) = [2] := by
  rw [mapI_not (by unfold Zi.ref; omega)]; exact enc1_3 h

/-- The number at a place that an instruction names, and its cell. -/
theorem nums_at {w : World} {am : Option Addr} {to : List Int} (hn : Nums w .u16 am to) (hu : U16 to) {i : Int} (h0 : 0 ≤ i) (h1 : i < (to.length : Int)) :
    ∃ b off, am = some ⟨b, off, none⟩ ∧ w.cell? ⟨b, off + i.toNat, none⟩ = some (.int .u16 (to.getD i.toNat 0)) ∧ 0 ≤ to.getD i.toNat 0 ∧ to.getD i.toNat 0 ≤ 65535 := by
  have hj : i.toNat < to.length := by omega
  obtain ⟨b, off, h2, h3⟩ := hn i.toNat _ (List.getElem?_eq_getElem hj)
  refine ⟨b, off, h2, ?_, getD_u16 hu _⟩
  rw [List.getD_eq_getElem?_getD, List.getElem?_eq_getElem hj]
  exact h3

set_option maxRecDepth 100000 in
set_option maxHeartbeats 800000 in
theorem asm_mapped (N : Nat) (ap : Option Addr) (ps : List Zi) (cp : Nat) (am : Option Addr) (to : List Int) (cm : Nat) (w : World) (t : Tab N w) (hok : ∀ z ∈ ps, z.Ok) (hl : ps.length ≤ 65536) (hi : Ins w ap ps) (hu : U16 to) (hn : Nums w .u16 am to) (hwi : Within ps to.length) :
    Calls Efxg.prog 12 #[.slice ap ps.length cp, .slice am to.length cm, .bool true] w fun e w' => Back w.heap.size w (asmL (ps.map (mapI to))) e w' := by
  go_enter Efxg.func12, Efxg.ntmps12
  go_wp2
  go_loopw [7, 8] (fun v i wr => ∃ k : Nat, k ≤ ps.length ∧ i = .int .i64 k ∧ Own wr w.heap.size v (asmL ((ps.take k).map (mapI to))) ∧ Below w.heap.size w wr) (fun _ i _ => ps.length - (intOf i).toNat)
  case atStart => exact ⟨0, Nat.zero_le _, rfl, World.ownsRow_nil _ _ _ _, Below.refl _ _⟩
  case round =>
    obtain ⟨k, hk, rfl, ho, hb⟩ := hrel
    by_cases hlt : k < ps.length
    · obtain ⟨z, hz⟩ : ∃ z, ps[k]? = some z := ⟨_, List.getElem?_eq_getElem hlt⟩
      obtain ⟨b, off, rfl, hk0, hk1, hk2⟩ := hi k z hz
      have hzo := hok z (List.mem_of_getElem? hz)
      have := hzo.k0; have := hzo.k1; have z0 := hzo.i0; have z1 := hzo.i1; have f0 := hzo.f0; have f1 := hzo.f1
      have hbl : b < w.heap.size := block_lt_of_cell hk0
      have hr0 := (hb.cell (p := ⟨b, off + k * 3, none⟩) hbl).trans hk0
      have hr1 := (hb.cell (p := ⟨b, off + k * 3 + 1, none⟩) hbl).trans hk1
      have hr2 := (hb.cell (p := ⟨b, off + k * 3 + 2, none⟩) hbl).trans hk2
      have hbr : b < wr.heap.size := Nat.lt_of_lt_of_le hbl hb.size
      have hbs := hb.size
      have HT : Hid (Tab N wr) := t.below hb t.size
      have HO : Hid (Own wr w.heap.size _ (asmL ((ps.take k).map (mapI to)))) := ho
      have HZ : Hid (ps[k]? = some z) := hz
      have HW := hwi z (List.mem_of_getElem? hz)
      have HW2 : Hid (z.ref → z.i < (to.length : Int)) := HW
      have HU : Hid (U16 to) := hu
      have HN : Hid (Nums w .u16 am to) := hn
      clear hz ho hk0 hk1 hk2 hi hok t HW hu hn hwi
      rcases (show z.k % 4 = 0 ∨ z.k % 4 = 1 ∨ z.k % 4 = 2 ∨ z.k % 4 = 3 by omega) with h | h | h | h
      · have HM : Hid (z.k % 4 = 0) := h
        obtain ⟨bm, offm, rfl, hmc, x0, x1⟩ := nums_at HN.out HU.out z0 (HW2.out (Or.inl HM.out))
        have hil : z.i < (to.length : Int) := HW2.out (Or.inl HM.out)
        have hbm : bm < w.heap.size := block_lt_of_cell hmc
        have hbmr : bm < wr.heap.size := Nat.lt_of_lt_of_le hbm hb.size
        have hmr := (hb.cell (p := ⟨bm, offm + z.i.toNat, none⟩) hbm).trans hmc
        clear hmc
        obtain ⟨x, hx⟩ : ∃ x, x = to.getD z.i.toNat 0 := ⟨_, rfl⟩
        rw [← hx] at hmr x0 x1
        have HX : Hid (x = to.getD z.i.toNat 0) := hx
        clear hx
        go_wp2_with fail
        refine (make_0 N wr.heap.size x _ (HT.out.below ((Below.refl _ _).alloc (Nat.le_refl _) _) HT.out.size) x0 x1 (by simp) (by simp)).mono ?_
        rintro e w1 ⟨rfl, rfl⟩
        go_wp2_with fail
        have A := after_make (bs := [0, x / 256, x % 256]) (HO.out.alloc (.cells #[.int .i64 x] 3))
        rw [World.size_alloc] at A
        refine (append_any w.heap.size _ (asmL ((ps.take k).map (mapI to))) [0, x / 256, x % 256] (wr.heap.size + 1) 3 _ (by simp; omega) A.1 A.2.1 A.2.2 (asm_boundM hl (by simp))).mono ?_
        rintro e w2 ⟨v2, rfl, ho2, hb2⟩
        have HO2 : Hid (Own w2 w.heap.size v2 (asmL ((ps.take (k + 1)).map (mapI to)))) := by show Own _ _ _ _; rw [asm_stepM HZ.out, encM_0 HM.out, ← HX.out]; exact ho2
        have R2 := (((hb.alloc hbs _).alloc (by simp; omega) _).trans hb2)
        clear ho2 hb2 A
        go_wp2
        go_roundw
        case rel => exact ⟨k + 1, by omega, by go_num, HO2.out, R2⟩
        case measure => simp [intOf]; omega
      · have HM : Hid (z.k % 4 = 1) := h
        obtain ⟨bm, offm, rfl, hmc, x0, x1⟩ := nums_at HN.out HU.out z0 (HW2.out (Or.inr HM.out))
        have hil : z.i < (to.length : Int) := HW2.out (Or.inr HM.out)
        have hbm : bm < w.heap.size := block_lt_of_cell hmc
        have hbmr : bm < wr.heap.size := Nat.lt_of_lt_of_le hbm hb.size
        have hmr := (hb.cell (p := ⟨bm, offm + z.i.toNat, none⟩) hbm).trans hmc
        clear hmc
        obtain ⟨x, hx⟩ : ∃ x, x = to.getD z.i.toNat 0 := ⟨_, rfl⟩
        rw [← hx] at hmr x0 x1
        have HX : Hid (x = to.getD z.i.toNat 0) := hx
        clear hx
        go_wp2_with fail
        refine (make_35 N wr.heap.size x z.f _ (HT.out.below ((Below.refl _ _).alloc (Nat.le_refl _) _) HT.out.size) x0 x1 f0 f1 (by simp) (by simp) (by simp)).mono ?_
        rintro e w1 ⟨rfl, rfl⟩
        go_wp2_with fail
        have A := after_make (bs := [35, x / 256, x % 256, z.f]) (HO.out.alloc (.cells #[.int .i64 x, .int .i64 z.f] 3))
        rw [World.size_alloc] at A
        refine (append_any w.heap.size _ (asmL ((ps.take k).map (mapI to))) [35, x / 256, x % 256, z.f] (wr.heap.size + 1) 4 _ (by simp; omega) A.1 A.2.1 A.2.2 (asm_boundM hl (by simp))).mono ?_
        rintro e w2 ⟨v2, rfl, ho2, hb2⟩
        have HO2 : Hid (Own w2 w.heap.size v2 (asmL ((ps.take (k + 1)).map (mapI to)))) := by show Own _ _ _ _; rw [asm_stepM HZ.out, encM_1 HM.out, ← HX.out]; exact ho2
        have R2 := (((hb.alloc hbs _).alloc (by simp; omega) _).trans hb2)
        clear ho2 hb2 A
        go_wp2
        go_roundw
        case rel => exact ⟨k + 1, by omega, by go_num, HO2.out, R2⟩
        case measure => simp [intOf]; omega
      · have HM : Hid (z.k % 4 = 2) := h
        go_wp2_with fail
        refine (make_22 N wr.heap.size z.i _ (HT.out.below ((Below.refl _ _).alloc (Nat.le_refl _) _) HT.out.size) z0 z1 (by simp) (by simp)).mono ?_
        rintro e w1 ⟨rfl, rfl⟩
        go_wp2_with fail
        have A := after_make (bs := [22, z.i / 256, z.i % 256]) (HO.out.alloc (.cells #[.int .i64 z.i] 3))
        rw [World.size_alloc] at A
        refine (append_any w.heap.size _ (asmL ((ps.take k).map (mapI to))) [22, z.i / 256, z.i % 256] (wr.heap.size + 1) 3 _ (by simp; omega) A.1 A.2.1 A.2.2 (asm_boundM hl (by simp))).mono ?_
        rintro e w2 ⟨v2, rfl, ho2, hb2⟩
        have HO2 : Hid (Own w2 w.heap.size v2 (asmL ((ps.take (k + 1)).map (mapI to)))) := by show Own _ _ _ _; rw [asm_stepM HZ.out, encM_2 HM.out]; exact ho2
        have R2 := (((hb.alloc hbs _).alloc (by simp; omega) _).trans hb2)
        clear ho2 hb2 A
        go_wp2
        go_roundw
        case rel => exact ⟨k + 1, by omega, by go_num, HO2.out, R2⟩
        case measure => simp [intOf]; omega
      · have HM : Hid (z.k % 4 = 3) := h
        go_wp2_with fail
        refine (make_2 N _ HT.out).mono ?_
        rintro e w1 ⟨rfl, rfl⟩
        go_wp2_with fail
        have A := after_make (bs := [2]) HO.out
        refine (append_any w.heap.size _ (asmL ((ps.take k).map (mapI to))) [2] wr.heap.size 1 _ (by simp; omega) A.1 A.2.1 A.2.2 (asm_boundM hl (by simp))).mono ?_
        rintro e w2 ⟨v2, rfl, ho2, hb2⟩
        have HO2 : Hid (Own w2 w.heap.size v2 (asmL ((ps.take (k + 1)).map (mapI to)))) := by show Own _ _ _ _; rw [asm_stepM HZ.out, encM_3 HM.out]; exact ho2
        have R2 := ((hb.alloc hbs _).trans hb2)
        clear ho2 hb2 A
        go_wp2
        go_roundw
        case rel => exact ⟨k + 1, by omega, by go_num, HO2.out, R2⟩
        case measure => simp [intOf]; omega
    · have HO : Hid (Own wr w.heap.size _ (asmL ((ps.take k).map (mapI to)))) := ho
      clear ho
      go_wp2
      go_ret
      have hkl : k = ps.length := by omega
      subst hkl
      exact ⟨_, rfl, by have h := HO.out; rw [List.take_length] at h; exact h, hb⟩
end Go.Proofs.YoefxwFmt
