/-
  DERIVED. GIVEN WITH THE SEED: THE CARDS: each row of YoefxwFmtRows.lean that lists a variable, with what it lists TIED to the program's text (the seventh form; the later family's looks); each row that meets fmt, with fmt's text TOLD by the authors' own Lean function (tested against real Go, not proved from fmt's source: count such statements apart). THE CARD IS WHAT COUNTS. Prove the row's statement (the work); the ties are given (YoefxwFmtTie.lean); close each card by the builder's one call (the guide's Derived/Test/ToyasCard.lean, 'card_holds'). Laid BY PROGRAM, IN A SANDBOX (cutbox-door.mjs). By AI agents, Wed Nov 11 2026. No macro, syntax, notation, axiom, sorry.
-/
import Derived.Test.YoefxwFmtRows
import GoSem.ClaimSeven
namespace Go.Proofs.YoefxwFmt
namespace Rows

/-- THE TOLD AND TIED CARD OF 'zzlaws_root_b2.FnUpdateConstIndexesMatchesRebuiltProgram'. -/
def fnUpdateConstIndexesMatchesRebuiltProgramCard : Claim7 := { stood := { row := fnUpdateConstIndexesMatchesRebuiltProgramRow, standIns := [], harness := (true, "505551f21f4b200d87c83d3d10585211aef0b81ed24baa4c7d0413dcf93cb8a0"), looks := true }, told := true, laidByText := true, laidKinds := [.widerDeep], laidTests := true, laidLooks := .later, goes := false }
def FnUpdateConstIndexesMatchesRebuiltProgramToldSaid : Prop := Claim7.holds Efxg.pinned (.plain (OpenSpec.ofChange fnUpdateConstIndexesMatchesRebuiltProgramSpec)) fnUpdateConstIndexesMatchesRebuiltProgramCard
/-- ITS FALSE NEIGHBOUR. Refute it at one input. -/
def FnUpdateConstIndexesMatchesRebuiltProgramToldWrongFalsely : Prop := Claim7.holds Efxg.pinned (.plain (OpenSpec.ofChange fnUpdateConstIndexesMatchesRebuiltProgramWrong)) fnUpdateConstIndexesMatchesRebuiltProgramCard

/-- THE TOLD AND TIED CARD OF 'zzlaws_root_b2.FnUpdateConstIndexesComposes'. -/
def fnUpdateConstIndexesComposesCard : Claim7 := { stood := { row := fnUpdateConstIndexesComposesRow, standIns := [], harness := (true, "505551f21f4b200d87c83d3d10585211aef0b81ed24baa4c7d0413dcf93cb8a0"), looks := true }, told := true, laidByText := true, laidKinds := [.widerDeep], laidTests := true, laidLooks := .later, goes := false }
def FnUpdateConstIndexesComposesToldSaid : Prop := Claim7.holds Efxg.pinned (.plain (OpenSpec.ofChange fnUpdateConstIndexesComposesSpec)) fnUpdateConstIndexesComposesCard
/-- ITS FALSE NEIGHBOUR. Refute it at one input. -/
def FnUpdateConstIndexesComposesToldWrongFalsely : Prop := Claim7.holds Efxg.pinned (.plain (OpenSpec.ofChange fnUpdateConstIndexesComposesWrong)) fnUpdateConstIndexesComposesCard

/-- THE TOLD AND TIED CARD OF 'zzlaws_root_b2.FnRemoveDuplicatesKeepsFirstOccurrences'. -/
def fnRemoveDuplicatesKeepsFirstOccurrencesCard : Claim7 := { stood := { row := fnRemoveDuplicatesKeepsFirstOccurrencesRow, standIns := [], harness := (true, "505551f21f4b200d87c83d3d10585211aef0b81ed24baa4c7d0413dcf93cb8a0"), looks := true }, told := true, laidByText := true, laidKinds := [.widerDeep], laidTests := true, laidLooks := .later, goes := false }
def FnRemoveDuplicatesKeepsFirstOccurrencesToldSaid : Prop := Claim7.holds Efxg.pinned (.plain (OpenSpec.ofChange fnRemoveDuplicatesKeepsFirstOccurrencesSpec)) fnRemoveDuplicatesKeepsFirstOccurrencesCard
/-- ITS FALSE NEIGHBOUR. Refute it at one input. -/
def FnRemoveDuplicatesKeepsFirstOccurrencesToldWrongFalsely : Prop := Claim7.holds Efxg.pinned (.plain (OpenSpec.ofChange fnRemoveDuplicatesKeepsFirstOccurrencesWrong)) fnRemoveDuplicatesKeepsFirstOccurrencesCard

/-- THE TOLD AND TIED CARD OF 'zzlaws_root_b2.FnRemoveDuplicatesIdempotent'. -/
def fnRemoveDuplicatesIdempotentCard : Claim7 := { stood := { row := fnRemoveDuplicatesIdempotentRow, standIns := [], harness := (true, "505551f21f4b200d87c83d3d10585211aef0b81ed24baa4c7d0413dcf93cb8a0"), looks := true }, told := true, laidByText := true, laidKinds := [.widerDeep], laidTests := true, laidLooks := .later, goes := false }
def FnRemoveDuplicatesIdempotentToldSaid : Prop := Claim7.holds Efxg.pinned (.plain (OpenSpec.ofChange fnRemoveDuplicatesIdempotentSpec)) fnRemoveDuplicatesIdempotentCard
/-- ITS FALSE NEIGHBOUR. Refute it at one input. -/
def FnRemoveDuplicatesIdempotentToldWrongFalsely : Prop := Claim7.holds Efxg.pinned (.plain (OpenSpec.ofChange fnRemoveDuplicatesIdempotentWrong)) fnRemoveDuplicatesIdempotentCard
end Rows
end Go.Proofs.YoefxwFmt
