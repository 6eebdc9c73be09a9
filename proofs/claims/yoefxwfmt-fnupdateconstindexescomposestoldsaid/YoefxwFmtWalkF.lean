import Derived.Test.YoefxwFmtWalkE
import Derived.Deep.AppendLies
namespace Go.Proofs.YoefxwFmt
open Go.RowKit

/-- v owns these bytes, from block B on. -/
def Own (w : World) (B : Nat) (v : Value) (xs : List Int) : Prop := w.ownsRow B 5 1 v xs.length (xs.map (.int .u8))

/-- Block g holds just these bytes. -/
def Blk (w : World) (g : Nat) (ys : List Int) : Prop := w.heap[g]? = some (.cells (ys.map (Value.int .u8)).toArray 5 (0, 0))

theorem Blk.lt {w : World} {g : Nat} {ys : List Int} (h : Blk w g ys) : g < w.heap.size := (Array.getElem?_eq_some_iff.1 h).1
theorem Blk.cell {w : World} {g : Nat} {ys : List Int} (h : Blk w g ys) {k : Nat} {y : Int} (hy : ys[k]? = some y) : w.cell? ⟨g, k, none⟩ = some (.int .u8 y) := by
  rw [cell_of_row w g k _ _ _ h]; simp [hy]
theorem Blk.below {w w' : World} {B g : Nat} {ys : List Int} (h : Blk w g ys) (hb : Below B w w') (hg : g < B) : Blk w' g ys := (hb.block g hg).trans h

def Back (B : Nat) (w : World) (xs : List Int) (e : Ending) (w' : World) : Prop := ∃ v, e = .returned v ∧ Own w' B v xs ∧ Below B w w'

theorem app_step {B gx g cap : Nat} {xs ys L : List Int} {k : Nat} {y : Int} {v : Value} {w wr w1 : World} {o : Obj} (hL : L = xs ++ ys.take k) (hy : ys[k]? = some y) (hB : B ≤ wr.heap.size)
    (hx : Blk wr gx ys) (hne : v.ownBlock ≠ some gx) (hb : Below B w wr) (hov : Own wr B v L)
    (ho : w1.ownsRow B 5 1 (.slice (some ⟨g, 0, none⟩) (L.length + 1) cap) (L.length + 1) (L.map (.int .u8) ++ [.int .u8 y]))
    (hg : (wr.alloc o).grownBy w1 v.ownBlock) (hat : v.ownBlock = some g ∨ g = wr.heap.size + 1) :
    Own w1 B (.slice (some ⟨g, 0, none⟩) (L.length + 1) cap) (xs ++ ys.take (k + 1)) ∧ Blk w1 gx ys ∧ (Value.slice (some ⟨g, 0, none⟩) (L.length + 1) cap).ownBlock ≠ some gx ∧ Below B w w1 := by
  have hlt := hx.lt
  have e : xs ++ ys.take (k + 1) = L ++ [y] := by rw [hL, List.take_add_one, hy]; simp
  refine ⟨?_, ?_, ?_, ?_⟩
  · unfold Own
    rw [e, List.map_append, List.length_append]
    exact ho
  · unfold Blk
    rw [hg.block gx (by simp; omega) (fun h => hne h.symm), heap_alloc_old _ _ hlt]
    exact hx
  · intro h
    have h' : g = gx := by simpa [Value.ownBlock] using h
    subst h'
    rcases hat with h | h
    · exact hne h
    · omega
  · exact (hb.alloc hB o).grown hg (by simp; omega) (fun j hj => (hov.lt j hj).1)

set_option maxRecDepth 100000 in
set_option maxHeartbeats 400000 in
theorem append_any (B : Nat) (v : Value) (xs ys : List Int) (gx c : Nat) (w : World) (hB : B ≤ w.heap.size) (hown : Own w B v xs) (hx : Blk w gx ys) (hne : v.ownBlock ≠ some gx) (hl : xs.length + ys.length ≤ 1000000) :
    Calls Efxg.prog 22 #[v, .slice (some ⟨gx, 0, none⟩) ys.length c] w fun e w' => Back B w (xs ++ ys) e w' := by
  obtain ⟨i0, hi, hz0, hz1, hz2⟩ := info_parts Efxg.info5
  go_enter Efxg.func22, Efxg.ntmps22
  go_wp2
  go_loopw [0, 5] (fun vr i wr => ∃ k : Nat, k ≤ ys.length ∧ i = .int .i64 k ∧ Own wr B vr (xs ++ ys.take k) ∧ Blk wr gx ys ∧ vr.ownBlock ≠ some gx ∧ Below B w wr) (fun _ i _ => ys.length - (intOf i).toNat)
  case atStart => exact ⟨0, Nat.zero_le _, rfl, by simpa using hown, hx, hne, Below.refl _ _⟩
  case round =>
    obtain ⟨k, hk, rfl, ho, hxr, hner, hb⟩ := hrel
    clear hown hx hne
    by_cases hlt : k < ys.length
    · obtain ⟨y, hy⟩ : ∃ y, ys[k]? = some y := ⟨_, List.getElem?_eq_getElem hlt⟩
      have hcy := hxr.cell hy
      have hgl := hxr.lt
      obtain ⟨L, hL⟩ : ∃ L, L = xs ++ ys.take k := ⟨_, rfl⟩
      rw [← hL] at ho
      have hl2 : L.length ≤ 1000000 := by rw [hL]; simp; omega
      have hBr : B ≤ wr.heap.size := Nat.le_trans hB hb.size
      have HY : Hid (ys[k]? = some y) := hy
      have HX : Hid (Blk wr gx ys) := hxr
      have HO : Hid (Own wr B _ L) := ho
      have HL : Hid (L = xs ++ ys.take k) := hL
      have HN : Hid (Value.ownBlock _ ≠ some gx) := hner
      clear hy hxr ho hL hner
      go_wp2_with (at_builtin; refine wpList_append_lies _ rfl _ _ 30 rfl B 5 i0 (.int .u8 0) 1 1 Efxg.underlying30 hi hz0 hz1 hz2 rfl (by decide) _ _ _ rfl (HO.out.alloc _) ⟨wr.heap.size, 0, none⟩ 1 1 [.int .u8 y] rfl rfl (cell_one_new _ _ _) (ints_oneCell .u8 [y]) (by decide) (by unfold maxLen; omega) (by omega) (by simp; omega) (wr.heap.size + 1) (by simp) ?_; intro g cap w1 hown1 hgrow hat hlt1)
      have R := app_step HL.out HY.out hBr HX.out HN.out hb HO.out hown1 hgrow hat
      clear hown1 hgrow hat
      go_roundw
      case rel => exact ⟨k + 1, by omega, by go_num, R.1, R.2.1, R.2.2.1, R.2.2.2⟩
      case measure => simp [intOf]; omega
    · have HO : Hid (Own wr B _ (xs ++ ys.take k)) := ho
      clear ho
      go_wp2
      go_ret
      have hkl : k = ys.length := by omega
      subst hkl
      exact ⟨_, rfl, by have h := HO.out; rw [List.take_length] at h; exact h, hb⟩
end Go.Proofs.YoefxwFmt
