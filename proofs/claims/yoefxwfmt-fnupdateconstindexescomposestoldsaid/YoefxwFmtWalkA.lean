/-
  WALKS: the bounds on lengths (7, 15), 'refsWithin' (8).
-/
import Derived.Test.YoefxwFmtRows
import Derived.Test.YoefxwFmtPlain
import Derived.WalkKit
import Derived.WalkSpells
import Derived.WalkLawsBesides
namespace Go.Proofs.YoefxwFmt
open Go.RowKit

/-- The slice's cells hold these instructions. -/
def Ins (w : World) (ao : Option Addr) (ps : List Zi) : Prop :=
  ∀ k z, ps[k]? = some z → ∃ b off, ao = some ⟨b, off, none⟩ ∧ w.cell? ⟨b, off + k * 3, none⟩ = some (.int .u8 z.k) ∧ w.cell? ⟨b, off + k * 3 + 1, none⟩ = some (.int .u16 z.i) ∧ w.cell? ⟨b, off + k * 3 + 2, none⟩ = some (.int .u8 z.f)

/-- The slice's cells hold these numbers of kind q. -/
def Nums (w : World) (q : IntKind) (ao : Option Addr) (xs : List Int) : Prop :=
  ∀ k x, xs[k]? = some x → ∃ b off, ao = some ⟨b, off, none⟩ ∧ w.cell? ⟨b, off + k, none⟩ = some (.int q x)

set_option maxHeartbeats 400000 in
theorem zz7_any (a b : Option Addr) (n c m d : Nat) (w : World) (hn : n ≤ 9223372036854775807) (hm : m ≤ 9223372036854775807) :
    Calls Efxg.prog 7 #[.slice a n c, .slice b m d] w fun e w' => (e = .returned (.bool false) ∨ (e = .returned (.bool true) ∧ n + m ≤ 1048576)) ∧ w' = w := by
  go_enter Efxg.func7, Efxg.ntmps7
  go_wp2
  all_goals (go_ret; refine ⟨?_, rfl⟩)
  all_goals first | exact Or.inl rfl | exact Or.inr ⟨rfl, by omega⟩

set_option maxHeartbeats 400000 in
theorem zz15_any (a b b' : Option Addr) (n c m d m' d' : Nat) (w : World) (hn : n ≤ 9223372036854775807) (hm : m ≤ 9223372036854775807) (hm' : m' ≤ 9223372036854775807) :
    Calls Efxg.prog 15 #[.slice a n c, .slice b m d, .slice b' m' d'] w fun e w' => (e = .returned (.bool false) ∨ (e = .returned (.bool true) ∧ n + m + m' ≤ 1048576)) ∧ w' = w := by
  go_enter Efxg.func15, Efxg.ntmps15
  go_wp2
  all_goals (go_ret; refine ⟨?_, rfl⟩)
  all_goals first | exact Or.inl rfl | exact Or.inr ⟨rfl, by omega⟩

theorem within_step {ps : List Zi} {k n : Nat} {z : Zi} (hz : ps[k]? = some z) (hw : Within (ps.take k) n) (h : z.ref → z.i < (n : Int)) : Within (ps.take (k + 1)) n := by
  intro y hy hr
  rw [List.take_add_one, hz] at hy
  simp only [Option.toList_some, List.mem_append, List.mem_singleton] at hy
  rcases hy with hy | rfl
  · exact hw y hy hr
  · exact h hr

set_option maxHeartbeats 400000 in
theorem refs_any (ao : Option Addr) (ps : List Zi) (cap n : Nat) (w : World) (hok : ∀ z ∈ ps, z.Ok) (hl : ps.length ≤ 65536) (hi : Ins w ao ps) :
    Calls Efxg.prog 8 #[.slice ao ps.length cap, .int .i64 n] w fun e w' => (e = .returned (.bool false) ∨ (e = .returned (.bool true) ∧ Within ps n)) ∧ w' = w := by
  go_enter Efxg.func8, Efxg.ntmps8
  go_wp2
  go_loop [5] (fun i => ∃ k : Nat, k ≤ ps.length ∧ i = .int .i64 k ∧ Within (ps.take k) n) (fun i => ps.length - (intOf i).toNat)
  case atStart => exact ⟨0, Nat.zero_le _, rfl, by intro z hz; simp at hz⟩
  case round =>
    obtain ⟨k, hk, rfl, hw⟩ := hrel
    by_cases hlt : k < ps.length
    · obtain ⟨z, hz⟩ : ∃ z, ps[k]? = some z := ⟨_, List.getElem?_eq_getElem hlt⟩
      obtain ⟨b, off, rfl, hk0, hk1, hk2⟩ := hi k z hz
      have hzo := hok z (List.mem_of_getElem? hz)
      have := hzo.k0; have := hzo.k1; have := hzo.i0; have := hzo.i1
      have HZ : Hid (ps[k]? = some z) := hz
      have HW : Hid (Within (ps.take k) n) := hw
      clear hz hi hok hw hk2
      go_wp2
      all_goals first
        | (go_ret; exact ⟨Or.inl rfl, rfl⟩)
        | (go_round
           case rel => exact ⟨k + 1, by omega, by go_num, within_step HZ.out HW.out (fun hr => by unfold Zi.ref at hr; omega)⟩
           case measure => simp [intOf]; omega)
    · have HW : Hid (Within (ps.take k) n) := hw
      clear hw
      go_wp2
      go_ret
      exact ⟨Or.inr ⟨rfl, by have h := HW.out; rw [List.take_of_length_le (by omega)] at h; exact h⟩, rfl⟩

end Go.Proofs.YoefxwFmt
