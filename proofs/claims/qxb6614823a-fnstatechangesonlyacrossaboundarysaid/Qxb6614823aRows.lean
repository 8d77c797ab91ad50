/-
  No cell of these rows narrows 'for every input' (looked for: loops, veiled, ifaces, maps, wideKeys, modest, calm, conditions, laid).
  DERIVED. THE GIVEN ROWS OF THIS SEAT. 1 by the template 'for every input the law returns true; each argument reads behind the call as it read before'; 0 by the template 'total and deterministic' (their statements: Qxb6614823aTotals.lean).
  GIVEN WITH THE SEED: the statements are not yours to turn. If you find one false, say at which input.
  Laid BY PROGRAM, IN A SANDBOX (cutbox-rows.mjs): the forced cells as the released guide's own fill.sh prints them over the translation 7536c891dec751a5… (all of the seat's roots in one cut). By AI agents, Wed Nov 11 2026. No macro, syntax, notation, axiom, sorry.
-/
import Derived.Test.Qxb6614823aChecked
import GoSem.Claim
import GoSem.ClaimJoined
import GoSem.ClaimMapViews
import Derived.JoinedTies
import Derived.KernelRfl
namespace Go.Proofs.Qxb6614823a
/- THE CELL 'sum', in the pinned program and in every row, IS THE sha256 OF THE DUMP (.gsa) THAT Qxb6614823aProg.lean LOADS. Nothing in Lean hashes anything: it is a label: what it is worth is what the hold of that sum in a sandbox is worth. -/
noncomputable def Try.pinned : Pinned := { name := "qxb6614823a", sum := "7536c891dec751a51c7a96d2878b1856064f908b71a6e8922fd8ec8f2eafe85d", checked := Try.checked }
namespace Rows
def none {H : Type} : Left H := { results := [], args := [] }

/-- 'zzlaws_service_b1.FnStateChangesOnlyAcrossABoundary': WHATEVER THE INPUT: true; the input reads as it did. -/
def fnStateChangesOnlyAcrossABoundarySpec : ChangeSpec := { name := "fnStateChangesOnlyAcrossABoundary", fn := fun _ => fun
  | [d1, d2, d3, d4] => { results := [.lit (.bool true)], args := [d1, d2, d3, d4] }
  | _ => none }
def fnStateChangesOnlyAcrossABoundaryRow : OpenClaim := { program := "qxb6614823a", sum := "7536c891dec751a51c7a96d2878b1856064f908b71a6e8922fd8ec8f2eafe85d", func := "example.com/tenderbook/tenderbook/zzlaws_service_b1.FnStateChangesOnlyAcrossABoundary", spec := "fnStateChangesOnlyAcrossABoundary", inPlace := ["(*internal/sync.Mutex).Lock", "internal/race.Disable", "sync/atomic.CompareAndSwapInt32", "internal/race.Enable", "internal/race.Acquire", "(*internal/sync.Mutex).lockSlow", "internal/sync.runtime_canSpin", "internal/sync.runtime_doSpin", "internal/sync.throw", "internal/sync.runtime_nanotime", "internal/sync.runtime_SemacquireMutex", "sync/atomic.AddInt32", "(*internal/sync.Mutex).Unlock", "internal/race.ReleaseMerge", "(*internal/sync.Mutex).unlockSlow", "internal/sync.fatal", "internal/sync.runtime_Semrelease"], plainKeys := false, apart := false }
def FnStateChangesOnlyAcrossABoundarySaid : Prop := fnStateChangesOnlyAcrossABoundaryRow.holds Try.pinned (OpenSpec.ofChange fnStateChangesOnlyAcrossABoundarySpec)

/-- ITS FALSE NEIGHBOUR: 'it returns false'. Refute it at one input. -/
def fnStateChangesOnlyAcrossABoundaryWrong : ChangeSpec := { name := "fnStateChangesOnlyAcrossABoundary", fn := fun _ => fun
  | [d1, d2, d3, d4] => { results := [.lit (.bool false)], args := [d1, d2, d3, d4] }
  | _ => none }
def FnStateChangesOnlyAcrossABoundaryWrongFalsely : Prop := fnStateChangesOnlyAcrossABoundaryRow.holds Try.pinned (OpenSpec.ofChange fnStateChangesOnlyAcrossABoundaryWrong)

end Rows
end Go.Proofs.Qxb6614823a
