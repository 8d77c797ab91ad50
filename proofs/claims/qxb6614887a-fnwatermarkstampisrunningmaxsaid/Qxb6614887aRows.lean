/-
  No cell of these rows narrows 'for every input' (looked for: loops, veiled, ifaces, maps, wideKeys, modest, calm, conditions, laid).
  DERIVED. THE GIVEN ROWS OF THIS SEAT. 4 by the template 'for every input the law returns true; each argument reads behind the call as it read before'; 0 by the template 'total and deterministic' (their statements: Qxb6614887aTotals.lean).
  GIVEN WITH THE SEED: the statements are not yours to turn. If you find one false, say at which input.
  Laid BY PROGRAM, IN A SANDBOX (cutbox-rows.mjs): the forced cells as the released guide's own fill.sh prints them over the translation e05aacc6c8d1e47d… (all of the seat's roots in one cut). By AI agents, Wed Nov 11 2026. No macro, syntax, notation, axiom, sorry.
-/
import Derived.Test.Qxb6614887aChecked
import GoSem.Claim
import GoSem.ClaimJoined
import GoSem.ClaimMapViews
import Derived.JoinedTies
import Derived.KernelRfl
namespace Go.Proofs.Qxb6614887a
/- THE CELL 'sum', in the pinned program and in every row, IS THE sha256 OF THE DUMP (.gsa) THAT Qxb6614887aProg.lean LOADS. Nothing in Lean hashes anything: it is a label: what it is worth is what the hold of that sum in a sandbox is worth. -/
noncomputable def Try.pinned : Pinned := { name := "qxb6614887a", sum := "e05aacc6c8d1e47de53807851d6dd9e67a7f90d13eeea7ac035ca887208508d3", checked := Try.checked }
namespace Rows
def none {H : Type} : Left H := { results := [], args := [] }

/-- 'zzlaws_root_b1.FnWallAndLogicalRebuildStamp': WHATEVER THE INPUT: true; the input reads as it did. -/
def fnWallAndLogicalRebuildStampSpec : ChangeSpec := { name := "fnWallAndLogicalRebuildStamp", fn := fun _ => fun
  | [d] => { results := [.lit (.bool true)], args := [d] }
  | _ => none }
def fnWallAndLogicalRebuildStampRow : OpenClaim := { program := "qxb6614887a", sum := "e05aacc6c8d1e47de53807851d6dd9e67a7f90d13eeea7ac035ca887208508d3", func := "example.com/causatick/causatick/zzlaws_root_b1.FnWallAndLogicalRebuildStamp", spec := "fnWallAndLogicalRebuildStamp", apart := false }
def FnWallAndLogicalRebuildStampSaid : Prop := fnWallAndLogicalRebuildStampRow.holds Try.pinned (OpenSpec.ofChange fnWallAndLogicalRebuildStampSpec)

/-- ITS FALSE NEIGHBOUR: 'it returns false'. Refute it at one input. -/
def fnWallAndLogicalRebuildStampWrong : ChangeSpec := { name := "fnWallAndLogicalRebuildStamp", fn := fun _ => fun
  | [d] => { results := [.lit (.bool false)], args := [d] }
  | _ => none }
def FnWallAndLogicalRebuildStampWrongFalsely : Prop := fnWallAndLogicalRebuildStampRow.holds Try.pinned (OpenSpec.ofChange fnWallAndLogicalRebuildStampWrong)

/-- 'zzlaws_root_b1.FnWallStepsWithCarry': WHATEVER THE INPUT: true; the input reads as it did. -/
def fnWallStepsWithCarrySpec : ChangeSpec := { name := "fnWallStepsWithCarry", fn := fun _ => fun
  | [d1, d2] => { results := [.lit (.bool true)], args := [d1, d2] }
  | _ => none }
def fnWallStepsWithCarryRow : OpenClaim := { program := "qxb6614887a", sum := "e05aacc6c8d1e47de53807851d6dd9e67a7f90d13eeea7ac035ca887208508d3", func := "example.com/causatick/causatick/zzlaws_root_b1.FnWallStepsWithCarry", spec := "fnWallStepsWithCarry", apart := false }
def FnWallStepsWithCarrySaid : Prop := fnWallStepsWithCarryRow.holds Try.pinned (OpenSpec.ofChange fnWallStepsWithCarrySpec)

/-- ITS FALSE NEIGHBOUR: 'it returns false'. Refute it at one input. -/
def fnWallStepsWithCarryWrong : ChangeSpec := { name := "fnWallStepsWithCarry", fn := fun _ => fun
  | [d1, d2] => { results := [.lit (.bool false)], args := [d1, d2] }
  | _ => none }
def FnWallStepsWithCarryWrongFalsely : Prop := fnWallStepsWithCarryRow.holds Try.pinned (OpenSpec.ofChange fnWallStepsWithCarryWrong)

/-- 'zzlaws_root_b1.FnWatermarkStampReturnsMadeStamp': WHATEVER THE INPUT: true; the input reads as it did. -/
def fnWatermarkStampReturnsMadeStampSpec : ChangeSpec := { name := "fnWatermarkStampReturnsMadeStamp", fn := fun _ => fun
  | [d] => { results := [.lit (.bool true)], args := [d] }
  | _ => none }
def fnWatermarkStampReturnsMadeStampRow : OpenClaim := { program := "qxb6614887a", sum := "e05aacc6c8d1e47de53807851d6dd9e67a7f90d13eeea7ac035ca887208508d3", func := "example.com/causatick/causatick/zzlaws_root_b1.FnWatermarkStampReturnsMadeStamp", spec := "fnWatermarkStampReturnsMadeStamp", inPlace := ["sync/atomic.StoreUint64", "sync/atomic.LoadUint64"], apart := false }
def FnWatermarkStampReturnsMadeStampSaid : Prop := fnWatermarkStampReturnsMadeStampRow.holds Try.pinned (OpenSpec.ofChange fnWatermarkStampReturnsMadeStampSpec)

/-- ITS FALSE NEIGHBOUR: 'it returns false'. Refute it at one input. -/
def fnWatermarkStampReturnsMadeStampWrong : ChangeSpec := { name := "fnWatermarkStampReturnsMadeStamp", fn := fun _ => fun
  | [d] => { results := [.lit (.bool false)], args := [d] }
  | _ => none }
def FnWatermarkStampReturnsMadeStampWrongFalsely : Prop := fnWatermarkStampReturnsMadeStampRow.holds Try.pinned (OpenSpec.ofChange fnWatermarkStampReturnsMadeStampWrong)

/-- 'zzlaws_root_b1.FnWatermarkStampIsRunningMax': WHATEVER THE INPUT: true; the input reads as it did. -/
def fnWatermarkStampIsRunningMaxSpec : ChangeSpec := { name := "fnWatermarkStampIsRunningMax", fn := fun _ => fun
  | [d1, d2] => { results := [.lit (.bool true)], args := [d1, d2] }
  | _ => none }
def fnWatermarkStampIsRunningMaxRow : OpenClaim := { program := "qxb6614887a", sum := "e05aacc6c8d1e47de53807851d6dd9e67a7f90d13eeea7ac035ca887208508d3", func := "example.com/causatick/causatick/zzlaws_root_b1.FnWatermarkStampIsRunningMax", spec := "fnWatermarkStampIsRunningMax", inPlace := ["sync/atomic.StoreUint64", "sync/atomic.LoadUint64", "(*internal/sync.Mutex).Lock", "internal/race.Disable", "sync/atomic.CompareAndSwapInt32", "internal/race.Enable", "internal/race.Acquire", "(*internal/sync.Mutex).lockSlow", "internal/sync.runtime_canSpin", "internal/sync.runtime_doSpin", "internal/sync.throw", "internal/sync.runtime_nanotime", "internal/sync.runtime_SemacquireMutex", "sync/atomic.AddInt32", "(*internal/sync.Mutex).Unlock", "internal/race.ReleaseMerge", "(*internal/sync.Mutex).unlockSlow", "internal/sync.fatal", "internal/sync.runtime_Semrelease"], unfollowed := true, recurses := true, apart := false }
def FnWatermarkStampIsRunningMaxSaid : Prop := fnWatermarkStampIsRunningMaxRow.holds Try.pinned (OpenSpec.ofChange fnWatermarkStampIsRunningMaxSpec)

/-- ITS FALSE NEIGHBOUR: 'it returns false'. Refute it at one input. -/
def fnWatermarkStampIsRunningMaxWrong : ChangeSpec := { name := "fnWatermarkStampIsRunningMax", fn := fun _ => fun
  | [d1, d2] => { results := [.lit (.bool false)], args := [d1, d2] }
  | _ => none }
def FnWatermarkStampIsRunningMaxWrongFalsely : Prop := fnWatermarkStampIsRunningMaxRow.holds Try.pinned (OpenSpec.ofChange fnWatermarkStampIsRunningMaxWrong)

end Rows
end Go.Proofs.Qxb6614887a
