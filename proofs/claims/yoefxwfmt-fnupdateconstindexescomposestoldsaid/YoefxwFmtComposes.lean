/-
  THE SECOND CARD, by the builder for a row that tells fmt's texts and whose listed variable is tied.
-/
import Derived.Test.YoefxwFmtWalkQ
namespace Go.Proofs.YoefxwFmt
open Go.Extern.Stop Go.Stop Go.Extern

theorem Efxg.stopsC : Efxg.pinned.checked.prog.stops = ["fmt.errorf"] := by kernel_rfl
theorem Efxg.stopKnobsC : Efxg.pinned.checked.prog.stopKnobs = [] := by kernel_rfl
theorem Efxg.quietC (os : Os) : Stop.quiet Efxg.pinned.checked.prog os := by
  intro k hk
  rw [Efxg.stopKnobsC] at hk
  cases hk

theorem composes_holds : Rows.FnUpdateConstIndexesComposesToldSaid :=
  Claim7.holds_of_told_tied_any_at .later 4 Efxg.f4 "fmt.errorf" [] [] _ _ _ _ _ (by kernel_rfl) rfl rfl rfl Efxg.laidOut (by kernel_rfl) rfl ⟨rfl, rfl, rfl, rfl, rfl, rfl, rfl⟩ rfl rfl (by kernel_rfl) (by kernel_rfl) Efxg.func4 (by kernel_rfl)
    (of_decide_eq_true (by kernel_rfl)) (of_decide_eq_true (by kernel_rfl)) Efxg.stopsC.symm rfl Efxg.stopKnobsC.symm (by kernel_rfl)
    (by kernel_rfl) (by kernel_rfl) (by kernel_rfl) (by kernel_rfl) (by kernel_rfl) (by kernel_rfl) (by kernel_rfl) (by kernel_rfl) (by kernel_rfl) rfl (by kernel_rfl) rfl rfl
    rfl rfl
    rfl (by kernel_rfl) (by kernel_rfl) (by kernel_rfl) (by decide) (by kernel_rfl) fnUpdateConstIndexesComposes_row_tie
    (OpenClaim.moreEntering_of (by kernel_rfl) (by kernel_rfl) (by kernel_rfl) (by kernel_rfl) (by kernel_rfl) (by kernel_rfl) (by kernel_rfl) (by kernel_rfl) (by kernel_rfl) (by kernel_rfl))
    ⟨_, WideRow.started_initial, Efxg.quietC _⟩
    (fun os started _ H enc _ => t_lifted4 os started H enc)

end Go.Proofs.YoefxwFmt
