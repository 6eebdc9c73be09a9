import Derived.Test.YoefxwFmtWalkC
import Derived.Maps.OwnSet
namespace Go.Proofs.YoefxwFmt
open Go.RowKit Go.Maps

theorem law3 : Keyed Efxg.prog 3 := int_keyed Efxg.underlying3
theorem zero3 (w : World) : (zeroValue 3).run Efxg.prog w = .ok (.int .i64 0) w := by kernel_rfl
theorem makeMap_hint (n : Int) (w : World) : (Instr.makeMap 28 (some (.int .i64 n))).run Efxg.prog w = .ok (.map (some w.heap.size)) (w.alloc (.map #[] 0)) := by kernel_rfl

/-- The map after k rounds, as a datum. -/
def mD (xs : List Int) : Nat → DataW Unit
  | 0 => .map []
  | k + 1 => (mD xs k).put (.int .i64 k) (.lit (.int .i64 (xs.getD k 0)))

theorem mD_isMap (xs : List Int) : ∀ k, IsMap (mD xs k)
  | 0 => isMap_empty
  | k + 1 => (mD_isMap xs k).put _ _

theorem keyLit (j : Nat) : WideAt.IsKeyLit (.int .i64 (j : Int)) := by simp [WideAt.IsKeyLit]

theorem mD_at (xs : List Int) (z : DataW Unit) : ∀ k j : Nat, j < k → (mD xs k).atKey (.int .i64 j) z = .lit (.int .i64 (xs.getD j 0)) ∧ Maps.has (mD xs k) (.int .i64 j) = true
  | 0, _, h => by omega
  | k + 1, j, h => by
    by_cases e : j = k
    · subst e
      exact ⟨atKey_put_same (mD_isMap xs j) (keyLit j) _ _, has_put_same (mD_isMap xs j) (keyLit j) _⟩
    · have hne : (Lit.int .i64 (j : Int)) ≠ .int .i64 (k : Int) := by intro h'; simp at h'; omega
      have ih := mD_at xs z k j (by omega)
      exact ⟨(atKey_put_other hne _ _).trans ih.1, (has_put_other hne _).trans ih.2⟩

/-- Block b is a map from each place of xs to what stands there. -/
def MapIs (w : World) (b : Nat) (xs : List Int) : Prop := ∃ n, w.ownsMap Efxg.prog 3 (plainElem (H := Unit) Efxg.prog 3) b n (mD xs xs.length)

theorem MapIs.lt {w : World} {b : Nat} {xs : List Int} (h : MapIs w b xs) : b < w.heap.size := let ⟨_, h⟩ := h; h.lt
theorem MapIs.below {w w' : World} {B b : Nat} {xs : List Int} (h : MapIs w b xs) (hb : Below B w w') (hlt : b < B) : MapIs w' b xs := by
  obtain ⟨n, es, clock, h1, h2⟩ := h
  exact ⟨n, es, clock, (hb.block b hlt).trans h1, h2⟩

theorem MapIs.look {w : World} {b : Nat} {xs : List Int} (h : MapIs w b xs) {j : Nat} (hj : j < xs.length) (hm : xs.length ≤ 65536) :
    (Instr.lookup 28 (.map (some b)) (.int .i64 j) true).run Efxg.prog w = .ok (.tuple #[.int .i64 (xs.getD j 0), .bool true]) w := by
  obtain ⟨n, h⟩ := h
  obtain ⟨v, ps, hr, hv⟩ := h.look_ok law3 Efxg.underlying28 (zero3 w) (plainElem_int Efxg.underlying3 (by decide)) (keyOf_int_mk Efxg.underlying3 (WalkArith.wf_i64 (by omega : -9223372036854775808 ≤ (j : Int) ∧ (j : Int) ≤ 9223372036854775807)))
  obtain ⟨h1, h2⟩ := mD_at xs (.lit (.int .i64 0)) xs.length j hj
  obtain ⟨c, rfl, hc, _⟩ := plainElem_int_inv Efxg.underlying3 hv
  simp only [Prod.mk.injEq] at hc
  rw [h1] at hc
  have e : c = xs.getD j 0 := by have := hc.1; simp only [DataW.lit.injEq, Lit.int.injEq, true_and] at this; exact this.symm
  rw [hr, h2, e]

set_option maxHeartbeats 400000 in
theorem toMap_any (ao : Option Addr) (xs : List Int) (c : Nat) (w : World) (hl : xs.length ≤ 65536) (hu : U16 xs) (hc : Nums w .u16 ao xs) :
    Calls Efxg.prog 11 #[.slice ao xs.length c] w fun e w' => e = .returned (.map (some w.heap.size)) ∧ MapIs w' w.heap.size xs ∧ Below w.heap.size w w' := by
  have hmm := makeMap_hint
  go_enter Efxg.func11, Efxg.ntmps11
  go_wp2
  clear hmm
  go_loopw [4] (fun i wr => ∃ k : Nat, k ≤ xs.length ∧ i = .int .i64 k ∧ wr.ownsMap Efxg.prog 3 (plainElem (H := Unit) Efxg.prog 3) w.heap.size k (mD xs k) ∧ Below w.heap.size w wr)
    (fun i _ => xs.length - (intOf i).toNat)
  case atStart => exact ⟨0, Nat.zero_le _, rfl, World.ownsMap_made _ _ _ _, (Below.refl _ _).alloc (Nat.le_refl _) _⟩
  case round =>
    obtain ⟨k, hk, rfl, hown, hnx⟩ := hrel
    by_cases hlt : k < xs.length
    · obtain ⟨x, hx⟩ : ∃ x, xs[k]? = some x := ⟨_, List.getElem?_eq_getElem hlt⟩
      obtain ⟨b, off, rfl, hcx⟩ := hc k x hx
      have hbl : b < w.heap.size := block_lt_of_cell hcx
      have hcr : wr.cell? ⟨b, off + k, none⟩ = some (.int .u16 x) := (hnx.cell hbl).trans hcx
      have hxb : 0 ≤ x ∧ x ≤ 65535 := hu x (List.mem_of_getElem? hx)
      have hx0 := hxb.1
      have hx1 := hxb.2
      have hkey : keyOf Efxg.prog 3 (.int .i64 (k : Int)) = some (.int .i64 (k : Int)) := keyOf_int_mk Efxg.underlying3 (WalkArith.wf_i64 (by omega))
      have HX : Hid (xs.getD k 0 = x) := by rw [List.getD_eq_getElem?_getD, hx]; rfl
      clear hx hcx hc hxb hu
      go_wp2_with (at_mapUpdate; refine wpList_mapUpdate_own _ rfl _ _ _ 28 rfl 3 3 law3 Efxg.underlying28 _ w.heap.size k _ rfl hown (by unfold maxLen; omega) _ _ _ rfl rfl hkey _ [] (plainElem_int Efxg.underlying3 (WalkArith.wf_i64 (by omega))) ?_; intro w1 hown1 hgrow1)
      go_roundw
      case rel => exact ⟨k + 1, by omega, by go_num, by have h := hown1; rw [← HX.out] at h; exact h, hnx.grown hgrow1 hnx.size (fun j hj => by cases hj; exact Nat.le_refl _)⟩
      case measure => simp [intOf]; omega
    · go_wp2
      go_ret
      have hkl : k = xs.length := by omega
      subst hkl
      exact ⟨rfl, ⟨_, hown⟩, hnx⟩
end Go.Proofs.YoefxwFmt
