/-
  NARROWER THAN 'FOR EVERY INPUT', by the rows' own cells (each row's printed sentence says how): FnLevelStringNamesDistinctUpperCase: laid · FnLevelStringAgreesWithNewOutcome: laid.
  DERIVED. THE GIVEN ROWS OF THIS SEAT. 2 by the template 'for every input the law returns true; each argument reads behind the call as it read before'; 0 by the template 'total and deterministic' (their statements: Qxb6614862aDoorTotals.lean).
  GIVEN WITH THE SEED: the statements are not yours to turn. If you find one false, say at which input.
  Laid BY PROGRAM, IN A SANDBOX (cutbox-rows.mjs): the forced cells as the released guide's own fill.sh prints them over the translation 4d076de0fbd526f6… (all of the seat's roots in one cut). By AI agents, Wed Nov 11 2026. No macro, syntax, notation, axiom, sorry.
-/
import Derived.Test.Qxb6614862aDoorChecked
import GoSem.Claim
import GoSem.ClaimJoined
import GoSem.ClaimMapViews
import Derived.JoinedTies
import Derived.KernelRfl
namespace Go.Proofs.Qxb6614862aDoor
/- THE CELL 'sum', in the pinned program and in every row, IS THE sha256 OF THE DUMP (.gsa) THAT Qxb6614862aDoorProg.lean LOADS. Nothing in Lean hashes anything: it is a label: what it is worth is what the hold of that sum in a sandbox is worth. -/
noncomputable def Tryd.pinned : Pinned := { name := "qxb6614862adoor", sum := "4d076de0fbd526f66ce49de9dd82f4776a6d6b83f3aa91dfb11e7a607acaa1d9", checked := Tryd.checked }
namespace Rows
def none {H : Type} : Left H := { results := [], args := [] }

/- WHAT THE LISTED PACKAGE-LEVEL VARIABLES READ AS WHEN THE CALL BEGINS. Each datum BY PROGRAM (the guide's laid-datum.mjs) off the statement by which the dump's own 'gosem.cut.vars' lays the variable. In a bare row this is a premise. The card (Qxb6614862aDoorCards.lean) ties it to the program's text. -/
def laid_example_com_zoneprobe_zoneprobe_internal_report_levelNames {H : Type} : DataW H := .agg [.lit (.string [68, 69, 66, 85, 71]), .lit (.string [73, 78, 70, 79]), .lit (.string [78, 79, 84, 73, 67, 69]), .lit (.string [87, 65, 82, 78, 73, 78, 71]), .lit (.string [69, 82, 82, 79, 82]), .lit (.string [67, 82, 73, 84, 73, 67, 65, 76])]

/-- 'zzlaws_internal_report_b1.FnLevelStringNamesDistinctUpperCase': WHATEVER THE INPUT: true; the input reads as it did. -/
def fnLevelStringNamesDistinctUpperCaseSpec : ChangeSpec := { name := "fnLevelStringNamesDistinctUpperCase", vars := ["example.com/zoneprobe/zoneprobe/internal/report.levelNames"], fn := fun _ => fun
  | [d1, d2, g1] => { results := [.lit (.bool true)], args := [d1, d2], vars := [g1] }
  | _ => none }
def fnLevelStringNamesDistinctUpperCaseRow : OpenClaim := { program := "qxb6614862adoor", sum := "4d076de0fbd526f66ce49de9dd82f4776a6d6b83f3aa91dfb11e7a607acaa1d9", func := "example.com/zoneprobe/zoneprobe/zzlaws_internal_report_b1.FnLevelStringNamesDistinctUpperCase", spec := "fnLevelStringNamesDistinctUpperCase", named := ["example.com/zoneprobe/zoneprobe/internal/report.levelNames"], apart := false, laid := [("example.com/zoneprobe/zoneprobe/internal/report.levelNames", laid_example_com_zoneprobe_zoneprobe_internal_report_levelNames)] }
def FnLevelStringNamesDistinctUpperCaseSaid : Prop := fnLevelStringNamesDistinctUpperCaseRow.holds Tryd.pinned (OpenSpec.ofChange fnLevelStringNamesDistinctUpperCaseSpec)

/-- ITS FALSE NEIGHBOUR: 'it returns false'. Refute it at one input. -/
def fnLevelStringNamesDistinctUpperCaseWrong : ChangeSpec := { name := "fnLevelStringNamesDistinctUpperCase", vars := ["example.com/zoneprobe/zoneprobe/internal/report.levelNames"], fn := fun _ => fun
  | [d1, d2, g1] => { results := [.lit (.bool false)], args := [d1, d2], vars := [g1] }
  | _ => none }
def FnLevelStringNamesDistinctUpperCaseWrongFalsely : Prop := fnLevelStringNamesDistinctUpperCaseRow.holds Tryd.pinned (OpenSpec.ofChange fnLevelStringNamesDistinctUpperCaseWrong)

/-- 'zzlaws_internal_report_b1.FnLevelStringAgreesWithNewOutcome': WHATEVER THE INPUT: true; the input reads as it did. -/
def fnLevelStringAgreesWithNewOutcomeSpec : ChangeSpec := { name := "fnLevelStringAgreesWithNewOutcome", vars := ["example.com/zoneprobe/zoneprobe/internal/report.levelNames"], fn := fun _ => fun
  | [d, g1] => { results := [.lit (.bool true)], args := [d], vars := [g1] }
  | _ => none }
def fnLevelStringAgreesWithNewOutcomeRow : OpenClaim := { program := "qxb6614862adoor", sum := "4d076de0fbd526f66ce49de9dd82f4776a6d6b83f3aa91dfb11e7a607acaa1d9", func := "example.com/zoneprobe/zoneprobe/zzlaws_internal_report_b1.FnLevelStringAgreesWithNewOutcome", spec := "fnLevelStringAgreesWithNewOutcome", named := ["example.com/zoneprobe/zoneprobe/internal/report.levelNames"], apart := false, laid := [("example.com/zoneprobe/zoneprobe/internal/report.levelNames", laid_example_com_zoneprobe_zoneprobe_internal_report_levelNames)] }
def FnLevelStringAgreesWithNewOutcomeSaid : Prop := fnLevelStringAgreesWithNewOutcomeRow.holds Tryd.pinned (OpenSpec.ofChange fnLevelStringAgreesWithNewOutcomeSpec)

/-- ITS FALSE NEIGHBOUR: 'it returns false'. Refute it at one input. -/
def fnLevelStringAgreesWithNewOutcomeWrong : ChangeSpec := { name := "fnLevelStringAgreesWithNewOutcome", vars := ["example.com/zoneprobe/zoneprobe/internal/report.levelNames"], fn := fun _ => fun
  | [d, g1] => { results := [.lit (.bool false)], args := [d], vars := [g1] }
  | _ => none }
def FnLevelStringAgreesWithNewOutcomeWrongFalsely : Prop := fnLevelStringAgreesWithNewOutcomeRow.holds Tryd.pinned (OpenSpec.ofChange fnLevelStringAgreesWithNewOutcomeWrong)

end Rows
end Go.Proofs.Qxb6614862aDoor
