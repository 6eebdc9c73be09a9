/-
  WALKS: 'updateConstIndexes' through its wrapper (13), said of a value that owns its bytes.
-/
import Derived.Test.YoefxwFmtWalkK
namespace Go.Proofs.YoefxwFmt
open Go.RowKit

set_option maxHeartbeats 400000 in
theorem upd_nil (vm : Value) (w : World) :
    Calls Efxg.prog 27 #[.slice none 0 0, vm] w fun e w' => e = .returned (.tuple #[]) ∧ w' = w := by
  go_enter Efxg.func27, Efxg.ntmps27
  go_wp2
  refine wp_loop_rounds 1 ?_
  rw [rounds_succ]
  go_wp2
  go_end0
  exact ⟨rfl, rfl⟩

def Upd (B : Nat) (v : Value) (xs : List Int) (w : World) (e : Ending) (w' : World) : Prop := e = .returned (.tuple #[]) ∧ Own w' B v xs ∧ w.grownBy w' v.ownBlock

theorem upd_own (N B : Nat) (v : Value) (mb : Nat) (ps : List Zi) (to : List Int) (w : World) (t : Tab N w) (hNB : N ≤ B) (hok : ∀ z ∈ ps, z.Ok) (hl : ps.length ≤ 65536) (hu : U16 to) (htl : to.length ≤ 65536)
    (hwi : Within ps to.length) (hm : MapIs w mb to) (hne : v.ownBlock ≠ some mb) (hown : Own w B v (asmL ps)) :
    Calls Efxg.prog 27 #[v, .map (some mb)] w fun e w' => Upd B v (asmL (ps.map (mapI to))) w e w' := by
  obtain ⟨hlen, h⟩ := hown
  rcases h with ⟨rfl, hn⟩ | ⟨g, cap, cur, rfl, hBg, hcur, hnc, hcm, hcs, htake⟩
  · have h0 : ps = [] := List.eq_nil_of_length_eq_zero (by have := len_le_asmL ps; omega)
    subst h0
    refine (upd_nil _ w).mono ?_
    rintro e w' ⟨rfl, rfl⟩
    exact ⟨rfl, World.ownsRow_nil _ _ _ _, World.grownBy.refl _ _⟩
  · have hrow : Row w g (asmL ps) (cur.toList.drop (asmL ps).length) := by
      unfold Row
      rw [hcur]
      have e : cur.toList = (asmL ps).map (Value.int .u8) ++ cur.toList.drop (asmL ps).length := by
        have h1 := List.take_append_drop (asmL ps).length cur.toList
        rw [Nat.mul_one] at htake
        rw [htake] at h1
        exact h1.symm
      rw [← e]
    refine (upd_any N g (asmL ps).length cap mb ps to _ w t (Nat.le_trans hNB hBg) hok hl hu htl hwi hm (fun e => hne (by simp [Value.ownBlock, e])) rfl hnc hrow).mono ?_
    rintro e w' ⟨rfl, hr, hg⟩
    refine ⟨rfl, ?_, hg⟩
    have hll := asm_len_map to ps
    rw [List.take_length, List.drop_length, asmL_nil, List.append_nil] at hr
    unfold Own
    rw [hll]
    refine ⟨by simp [hll], Or.inr ⟨g, cap, _, rfl, hBg, hr, hnc, hcm, ?_, ?_⟩⟩
    · simp only [List.size_toArray, List.length_append, List.length_map, List.length_drop, hll]
      have := hcs
      rw [← Array.length_toList] at this
      omega
    · rw [Nat.mul_one, ← hll]
      simp

set_option maxHeartbeats 400000 in
theorem upd13 (N B : Nat) (v : Value) (mb : Nat) (ps : List Zi) (to : List Int) (w : World) (t : Tab N w) (hNB : N ≤ B) (hok : ∀ z ∈ ps, z.Ok) (hl : ps.length ≤ 65536) (hu : U16 to) (htl : to.length ≤ 65536)
    (hwi : Within ps to.length) (hm : MapIs w mb to) (hne : v.ownBlock ≠ some mb) (hown : Own w B v (asmL ps)) :
    Calls Efxg.prog 13 #[v, .map (some mb)] w fun e w' => Upd B v (asmL (ps.map (mapI to))) w e w' := by
  have H := upd_own N B v mb ps to w t hNB hok hl hu htl hwi hm hne hown
  have H' : Hid (Calls Efxg.prog 27 #[v, .map (some mb)] w fun e w' => Upd B v (asmL (ps.map (mapI to))) w e w') := H
  clear H t hok hu hwi hm hne hown
  go_enter Efxg.func13, Efxg.ntmps13
  go_wp2_with fail
  refine H'.out.mono ?_
  rintro e w' ⟨rfl, h1, h2⟩
  go_wp2
  go_end0
  exact ⟨rfl, h1, h2⟩
end Go.Proofs.YoefxwFmt
