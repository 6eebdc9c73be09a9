/-
  NARROWER THAN 'FOR EVERY INPUT', by the rows' own cells (each row's printed sentence says how): FnUpdateConstIndexesMatchesRebuiltProgram: laid · FnUpdateConstIndexesComposes: laid · FnRemoveDuplicatesKeepsFirstOccurrences: laid · FnRemoveDuplicatesIdempotent: laid.
  DERIVED. THE GIVEN ROWS OF THIS SEAT. 4 by the template 'for every input the law returns true; each argument reads behind the call as it read before'; 0 by the template 'total and deterministic' (their statements: YoefxwFmtTotals.lean).
  GIVEN WITH THE SEED: the statements are not yours to turn. If you find one false, say at which input.
  Laid BY PROGRAM, IN A SANDBOX (cutbox-rows.mjs): the forced cells as the released guide's own fill.sh prints them over the translation 2c79846384881765… (all of the seat's roots in one cut). By AI agents, Wed Nov 11 2026. No macro, syntax, notation, axiom, sorry.
-/
import Derived.Test.YoefxwFmtChecked
import GoSem.Claim
import GoSem.ClaimJoined
import GoSem.ClaimMapViews
import Derived.JoinedTies
import Derived.KernelRfl
namespace Go.Proofs.YoefxwFmt
/- THE CELL 'sum', in the pinned program and in every row, IS THE sha256 OF THE DUMP (.gsa) THAT YoefxwFmtProg.lean LOADS. Nothing in Lean hashes anything: it is a label: what it is worth is what the hold of that sum in a sandbox is worth. -/
noncomputable def Efxg.pinned : Pinned := { name := "yoefxwfmt", sum := "2c7984638488176510da702240658a7014e2ca4a3c50a9374b044f5ec33d18a4", checked := Efxg.checked }
namespace Rows
def none {H : Type} : Left H := { results := [], args := [] }

/- WHAT THE LISTED PACKAGE-LEVEL VARIABLES READ AS WHEN THE CALL BEGINS. Each datum BY PROGRAM (the guide's laid-datum.mjs) off the statement by which the dump's own 'gosem.cut.vars' lays the variable. In a bare row this is a premise. The card (YoefxwFmtCards.lean) ties it to the program's text. -/
def laid_github_com_d5_tengo_v2_parser_OpcodeOperands {H : Type} : DataW H := .agg [.slice [.lit (.int .i64 2)] [], .slice [] [], .slice [] [], .slice [] [], .slice [] [], .slice [] [], .slice [] [], .slice [] [], .slice [] [], .slice [.lit (.int .i64 4)] [], .slice [.lit (.int .i64 4)] [], .slice [.lit (.int .i64 4)] [], .slice [.lit (.int .i64 4)] [], .slice [] [], .slice [.lit (.int .i64 2)] [], .slice [.lit (.int .i64 2)] [], .slice [] [], .slice [] [], .slice [] [], .slice [] [], .slice [.lit (.int .i64 1), .lit (.int .i64 1)] [], .slice [.lit (.int .i64 1)] [], .slice [.lit (.int .i64 2)] [], .slice [.lit (.int .i64 2)] [], .slice [.lit (.int .i64 2), .lit (.int .i64 1)] [], .slice [.lit (.int .i64 1)] [], .slice [.lit (.int .i64 1)] [], .slice [.lit (.int .i64 1)] [], .slice [.lit (.int .i64 1), .lit (.int .i64 1)] [], .slice [.lit (.int .i64 1)] [], .slice [.lit (.int .i64 1)] [], .slice [.lit (.int .i64 1)] [], .slice [.lit (.int .i64 1)] [], .slice [.lit (.int .i64 1), .lit (.int .i64 1)] [], .slice [.lit (.int .i64 1)] [], .slice [.lit (.int .i64 2), .lit (.int .i64 1)] [], .slice [] [], .slice [] [], .slice [] [], .slice [] [], .slice [.lit (.int .i64 1)] [], .slice [] []]

/-- 'zzlaws_root_b2.FnUpdateConstIndexesMatchesRebuiltProgram': WHATEVER THE INPUT: true; the input reads as it did. -/
def fnUpdateConstIndexesMatchesRebuiltProgramSpec : ChangeSpec := { name := "fnUpdateConstIndexesMatchesRebuiltProgram", vars := ["github.com/d5/tengo/v2/parser.OpcodeOperands"], fn := fun _ => fun
  | [d1, d2, g1] => { results := [.lit (.bool true)], args := [d1, d2], vars := [g1] }
  | _ => none }
def fnUpdateConstIndexesMatchesRebuiltProgramRow : OpenClaim := { program := "yoefxwfmt", sum := "2c7984638488176510da702240658a7014e2ca4a3c50a9374b044f5ec33d18a4", func := "github.com/d5/tengo/v2/zzlaws_root_b2.FnUpdateConstIndexesMatchesRebuiltProgram", spec := "fnUpdateConstIndexesMatchesRebuiltProgram", stops := ["fmt.errorf"], inPlace := ["fmt.errorf"], named := ["github.com/d5/tengo/v2/parser.OpcodeOperands"], apart := false, laid := [("github.com/d5/tengo/v2/parser.OpcodeOperands", laid_github_com_d5_tengo_v2_parser_OpcodeOperands)] }
/-- NO THEOREM (fmt's text is open here; it may be false): for the released tool's asking of the row's closed facts alone. THE STATEMENT IS 'FnUpdateConstIndexesMatchesRebuiltProgramToldSaid' (YoefxwFmtCards.lean). -/
def FnUpdateConstIndexesMatchesRebuiltProgramFormAsk : Prop := fnUpdateConstIndexesMatchesRebuiltProgramRow.holds Efxg.pinned (OpenSpec.ofChange fnUpdateConstIndexesMatchesRebuiltProgramSpec)

/-- ITS FALSE NEIGHBOUR: 'it returns false'. Refute it at one input. -/
def fnUpdateConstIndexesMatchesRebuiltProgramWrong : ChangeSpec := { name := "fnUpdateConstIndexesMatchesRebuiltProgram", vars := ["github.com/d5/tengo/v2/parser.OpcodeOperands"], fn := fun _ => fun
  | [d1, d2, g1] => { results := [.lit (.bool false)], args := [d1, d2], vars := [g1] }
  | _ => none }
def FnUpdateConstIndexesMatchesRebuiltProgramWrongFormAsk : Prop := fnUpdateConstIndexesMatchesRebuiltProgramRow.holds Efxg.pinned (OpenSpec.ofChange fnUpdateConstIndexesMatchesRebuiltProgramWrong)

/-- 'zzlaws_root_b2.FnUpdateConstIndexesComposes': WHATEVER THE INPUT: true; the input reads as it did. -/
def fnUpdateConstIndexesComposesSpec : ChangeSpec := { name := "fnUpdateConstIndexesComposes", vars := ["github.com/d5/tengo/v2/parser.OpcodeOperands"], fn := fun _ => fun
  | [d1, d2, d3, g1] => { results := [.lit (.bool true)], args := [d1, d2, d3], vars := [g1] }
  | _ => none }
def fnUpdateConstIndexesComposesRow : OpenClaim := { program := "yoefxwfmt", sum := "2c7984638488176510da702240658a7014e2ca4a3c50a9374b044f5ec33d18a4", func := "github.com/d5/tengo/v2/zzlaws_root_b2.FnUpdateConstIndexesComposes", spec := "fnUpdateConstIndexesComposes", stops := ["fmt.errorf"], inPlace := ["fmt.errorf"], named := ["github.com/d5/tengo/v2/parser.OpcodeOperands"], apart := false, laid := [("github.com/d5/tengo/v2/parser.OpcodeOperands", laid_github_com_d5_tengo_v2_parser_OpcodeOperands)] }
/-- NO THEOREM (fmt's text is open here; it may be false): for the released tool's asking of the row's closed facts alone. THE STATEMENT IS 'FnUpdateConstIndexesComposesToldSaid' (YoefxwFmtCards.lean). -/
def FnUpdateConstIndexesComposesFormAsk : Prop := fnUpdateConstIndexesComposesRow.holds Efxg.pinned (OpenSpec.ofChange fnUpdateConstIndexesComposesSpec)

/-- ITS FALSE NEIGHBOUR: 'it returns false'. Refute it at one input. -/
def fnUpdateConstIndexesComposesWrong : ChangeSpec := { name := "fnUpdateConstIndexesComposes", vars := ["github.com/d5/tengo/v2/parser.OpcodeOperands"], fn := fun _ => fun
  | [d1, d2, d3, g1] => { results := [.lit (.bool false)], args := [d1, d2, d3], vars := [g1] }
  | _ => none }
def FnUpdateConstIndexesComposesWrongFormAsk : Prop := fnUpdateConstIndexesComposesRow.holds Efxg.pinned (OpenSpec.ofChange fnUpdateConstIndexesComposesWrong)

/-- 'zzlaws_root_b2.FnRemoveDuplicatesKeepsFirstOccurrences': WHATEVER THE INPUT: true; the input reads as it did. -/
def fnRemoveDuplicatesKeepsFirstOccurrencesSpec : ChangeSpec := { name := "fnRemoveDuplicatesKeepsFirstOccurrences", vars := ["github.com/d5/tengo/v2/parser.OpcodeOperands"], fn := fun _ => fun
  | [d1, d2, d3, g1] => { results := [.lit (.bool true)], args := [d1, d2, d3], vars := [g1] }
  | _ => none }
def fnRemoveDuplicatesKeepsFirstOccurrencesRow : OpenClaim := { program := "yoefxwfmt", sum := "2c7984638488176510da702240658a7014e2ca4a3c50a9374b044f5ec33d18a4", func := "github.com/d5/tengo/v2/zzlaws_root_b2.FnRemoveDuplicatesKeepsFirstOccurrences", spec := "fnRemoveDuplicatesKeepsFirstOccurrences", stops := ["fmt.errorf"], inPlace := ["fmt.errorf"], unfollowed := true, recurses := true, named := ["github.com/d5/tengo/v2/parser.OpcodeOperands"], apart := false, laid := [("github.com/d5/tengo/v2/parser.OpcodeOperands", laid_github_com_d5_tengo_v2_parser_OpcodeOperands)] }
/-- NO THEOREM (fmt's text is open here; it may be false): for the released tool's asking of the row's closed facts alone. THE STATEMENT IS 'FnRemoveDuplicatesKeepsFirstOccurrencesToldSaid' (YoefxwFmtCards.lean). -/
def FnRemoveDuplicatesKeepsFirstOccurrencesFormAsk : Prop := fnRemoveDuplicatesKeepsFirstOccurrencesRow.holds Efxg.pinned (OpenSpec.ofChange fnRemoveDuplicatesKeepsFirstOccurrencesSpec)

/-- ITS FALSE NEIGHBOUR: 'it returns false'. Refute it at one input. -/
def fnRemoveDuplicatesKeepsFirstOccurrencesWrong : ChangeSpec := { name := "fnRemoveDuplicatesKeepsFirstOccurrences", vars := ["github.com/d5/tengo/v2/parser.OpcodeOperands"], fn := fun _ => fun
  | [d1, d2, d3, g1] => { results := [.lit (.bool false)], args := [d1, d2, d3], vars := [g1] }
  | _ => none }
def FnRemoveDuplicatesKeepsFirstOccurrencesWrongFormAsk : Prop := fnRemoveDuplicatesKeepsFirstOccurrencesRow.holds Efxg.pinned (OpenSpec.ofChange fnRemoveDuplicatesKeepsFirstOccurrencesWrong)

/-- 'zzlaws_root_b2.FnRemoveDuplicatesIdempotent': WHATEVER THE INPUT: true; the input reads as it did. -/
def fnRemoveDuplicatesIdempotentSpec : ChangeSpec := { name := "fnRemoveDuplicatesIdempotent", vars := ["github.com/d5/tengo/v2/parser.OpcodeOperands"], fn := fun _ => fun
  | [d1, d2, d3, g1] => { results := [.lit (.bool true)], args := [d1, d2, d3], vars := [g1] }
  | _ => none }
def fnRemoveDuplicatesIdempotentRow : OpenClaim := { program := "yoefxwfmt", sum := "2c7984638488176510da702240658a7014e2ca4a3c50a9374b044f5ec33d18a4", func := "github.com/d5/tengo/v2/zzlaws_root_b2.FnRemoveDuplicatesIdempotent", spec := "fnRemoveDuplicatesIdempotent", stops := ["fmt.errorf"], inPlace := ["fmt.errorf"], unfollowed := true, recurses := true, named := ["github.com/d5/tengo/v2/parser.OpcodeOperands"], apart := false, laid := [("github.com/d5/tengo/v2/parser.OpcodeOperands", laid_github_com_d5_tengo_v2_parser_OpcodeOperands)] }
/-- NO THEOREM (fmt's text is open here; it may be false): for the released tool's asking of the row's closed facts alone. THE STATEMENT IS 'FnRemoveDuplicatesIdempotentToldSaid' (YoefxwFmtCards.lean). -/
def FnRemoveDuplicatesIdempotentFormAsk : Prop := fnRemoveDuplicatesIdempotentRow.holds Efxg.pinned (OpenSpec.ofChange fnRemoveDuplicatesIdempotentSpec)

/-- ITS FALSE NEIGHBOUR: 'it returns false'. Refute it at one input. -/
def fnRemoveDuplicatesIdempotentWrong : ChangeSpec := { name := "fnRemoveDuplicatesIdempotent", vars := ["github.com/d5/tengo/v2/parser.OpcodeOperands"], fn := fun _ => fun
  | [d1, d2, d3, g1] => { results := [.lit (.bool false)], args := [d1, d2, d3], vars := [g1] }
  | _ => none }
def FnRemoveDuplicatesIdempotentWrongFormAsk : Prop := fnRemoveDuplicatesIdempotentRow.holds Efxg.pinned (OpenSpec.ofChange fnRemoveDuplicatesIdempotentWrong)

end Rows
end Go.Proofs.YoefxwFmt
