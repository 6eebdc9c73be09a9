import Derived.Test.YoefxwFmtWalkF
import Derived.Deep.QuietTactic
import Derived.BigQuiet
import Derived.WalkSmall
namespace Go.Proofs.YoefxwFmt
open Go.RowKit

set_option maxRecDepth 100000 in
set_option maxHeartbeats 400000 in
theorem bytesEq_same (ao bo : Option Addr) (xs : List Int) (ca cb : Nat) (w : World) (hl : xs.length ≤ 1000000) (hx : Nums w .u8 ao xs) (hy : Nums w .u8 bo xs) :
    Calls Efxg.prog 14 #[.slice ao xs.length ca, .slice bo xs.length cb] w fun e w' => e = .returned (.bool true) ∧ Below w.heap.size w w' := by
  go_enter Efxg.func14, Efxg.ntmps14
  go_wp2
  go_loopw [5] (fun i wr => ∃ k : Nat, k ≤ xs.length ∧ i = .int .i64 k ∧ Below w.heap.size w wr) (fun i _ => xs.length - (intOf i).toNat)
  case atStart => exact ⟨0, Nat.zero_le _, rfl, Below.refl _ _⟩
  case round =>
    obtain ⟨k, hk, rfl, hb⟩ := hrel
    by_cases hlt : k < xs.length
    · obtain ⟨x, hk'⟩ : ∃ x, xs[k]? = some x := ⟨_, List.getElem?_eq_getElem hlt⟩
      obtain ⟨b, off, rfl, hcx⟩ := hx k x hk'
      obtain ⟨b', off', rfl, hcy⟩ := hy k x hk'
      have hbl : b < w.heap.size := block_lt_of_cell hcx
      have hbl' : b' < w.heap.size := block_lt_of_cell hcy
      have hcr : wr.cell? ⟨b, off + k, none⟩ = some (.int .u8 x) := (hb.cell hbl).trans hcx
      have hcr' : wr.cell? ⟨b', off' + k, none⟩ = some (.int .u8 x) := (hb.cell hbl').trans hcy
      have hi0 : (0 : Int) ≤ (k : Int) := by omega
      have hi1 : (k : Int) < (xs.length : Int) := by omega
      clear hx hy hcx hcy hk'
      go_wp2
      go_quiet (fail)
      go_wp2
      go_roundw
      case rel => exact ⟨k + 1, by omega, by go_num, below_drewN hb _⟩
      case measure => simp [intOf]; omega
    · go_wp2
      go_ret
      exact ⟨rfl, hb⟩
end Go.Proofs.YoefxwFmt
