/-
  THE FIRST CARD, by the builder for a row that tells fmt's texts and whose listed variable is tied.
-/
import Derived.Test.YoefxwFmtWalkP
namespace Go.Proofs.YoefxwFmt
open Go.Extern.Stop Go.Stop Go.Extern

theorem Efxg.stops : Efxg.pinned.checked.prog.stops = ["fmt.errorf"] := by kernel_rfl
theorem Efxg.stopKnobs : Efxg.pinned.checked.prog.stopKnobs = [] := by kernel_rfl
theorem Efxg.quiet (os : Os) : Stop.quiet Efxg.pinned.checked.prog os := by
  intro k hk
  rw [Efxg.stopKnobs] at hk
  cases hk

theorem matches_holds : Rows.FnUpdateConstIndexesMatchesRebuiltProgramToldSaid :=
  Claim7.holds_of_told_tied_any_at .later 3 Efxg.f3 "fmt.errorf" [] [] _ _ _ _ _ (by kernel_rfl) rfl rfl rfl Efxg.laidOut (by kernel_rfl) rfl ⟨rfl, rfl, rfl, rfl, rfl, rfl, rfl⟩ rfl rfl (by kernel_rfl) (by kernel_rfl) Efxg.func3 (by kernel_rfl)
    (of_decide_eq_true (by kernel_rfl)) (of_decide_eq_true (by kernel_rfl)) Efxg.stops.symm rfl Efxg.stopKnobs.symm (by kernel_rfl)
    (by kernel_rfl) (by kernel_rfl) (by kernel_rfl) (by kernel_rfl) (by kernel_rfl) (by kernel_rfl) (by kernel_rfl) (by kernel_rfl) (by kernel_rfl) rfl (by kernel_rfl) rfl rfl
    rfl rfl
    rfl (by kernel_rfl) (by kernel_rfl) (by kernel_rfl) (by decide) (by kernel_rfl) fnUpdateConstIndexesMatchesRebuiltProgram_row_tie
    (OpenClaim.moreEntering_of (by kernel_rfl) (by kernel_rfl) (by kernel_rfl) (by kernel_rfl) (by kernel_rfl) (by kernel_rfl) (by kernel_rfl) (by kernel_rfl) (by kernel_rfl) (by kernel_rfl))
    ⟨_, WideRow.started_initial, Efxg.quiet _⟩
    (fun os started _ H enc _ => t_lifted3 os started H enc)

end Go.Proofs.YoefxwFmt
