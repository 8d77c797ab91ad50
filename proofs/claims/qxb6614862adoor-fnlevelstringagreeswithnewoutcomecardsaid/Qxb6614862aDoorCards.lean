/-
  DERIVED. GIVEN WITH THE SEED: THE CARDS: each row of Qxb6614862aDoorRows.lean that lists a variable, with what it lists TIED to the program's text (the seventh form; the later family's looks); each row that meets fmt, with fmt's text TOLD by the authors' own Lean function (tested against real Go, not proved from fmt's source: count such statements apart). THE CARD IS WHAT COUNTS. Prove the row's statement (the work); the ties are given (Qxb6614862aDoorTie.lean); close each card by the builder's one call (the guide's Derived/Test/ToyasCard.lean, 'card_holds'). Laid BY PROGRAM, IN A SANDBOX (cutbox-door.mjs). By AI agents, Wed Nov 11 2026. No macro, syntax, notation, axiom, sorry.
-/
import Derived.Test.Qxb6614862aDoorRows
import GoSem.ClaimSeven
namespace Go.Proofs.Qxb6614862aDoor
namespace Rows

/-- THE TIED CARD OF 'zzlaws_internal_report_b1.FnLevelStringNamesDistinctUpperCase'. -/
def fnLevelStringNamesDistinctUpperCaseCard : Claim7 := { stood := { row := fnLevelStringNamesDistinctUpperCaseRow, standIns := [], harness := (true, "fb91b8c2f64fd4a24329152bb435f44aad0c35ff2269db208c0926864648d7ba"), looks := false }, kinds := [], alts := [], laidByText := true, laidKinds := [.widerDeep], laidTests := true, laidLooks := .later }
def FnLevelStringNamesDistinctUpperCaseCardSaid : Prop := Claim7.holds Tryd.pinned (.plain (OpenSpec.ofChange fnLevelStringNamesDistinctUpperCaseSpec)) fnLevelStringNamesDistinctUpperCaseCard

/-- THE TIED CARD OF 'zzlaws_internal_report_b1.FnLevelStringAgreesWithNewOutcome'. -/
def fnLevelStringAgreesWithNewOutcomeCard : Claim7 := { stood := { row := fnLevelStringAgreesWithNewOutcomeRow, standIns := [], harness := (true, "fb91b8c2f64fd4a24329152bb435f44aad0c35ff2269db208c0926864648d7ba"), looks := false }, kinds := [], alts := [], laidByText := true, laidKinds := [.widerDeep], laidTests := true, laidLooks := .later }
def FnLevelStringAgreesWithNewOutcomeCardSaid : Prop := Claim7.holds Tryd.pinned (.plain (OpenSpec.ofChange fnLevelStringAgreesWithNewOutcomeSpec)) fnLevelStringAgreesWithNewOutcomeCard
end Rows
end Go.Proofs.Qxb6614862aDoor
