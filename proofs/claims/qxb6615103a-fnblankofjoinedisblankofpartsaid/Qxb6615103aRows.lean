/-
  No cell of these rows narrows 'for every input' (looked for: loops, veiled, ifaces, maps, wideKeys, modest, calm, conditions, laid).
  DERIVED. THE GIVEN ROWS OF THIS SEAT. 2 by the template 'for every input the law returns true; each argument reads behind the call as it read before'; 0 by the template 'total and deterministic' (their statements: Qxb6615103aTotals.lean).
  GIVEN WITH THE SEED: the statements are not yours to turn. If you find one false, say at which input.
  Laid BY PROGRAM, IN A SANDBOX (cutbox-rows.mjs): the forced cells as the released guide's own fill.sh prints them over the translation 5097aa5f02391fc3… (all of the seat's roots in one cut). By AI agents, Wed Nov 11 2026. No macro, syntax, notation, axiom, sorry.
-/
import Derived.Test.Qxb6615103aChecked
import GoSem.Claim
import GoSem.ClaimJoined
import GoSem.ClaimMapViews
import Derived.JoinedTies
import Derived.KernelRfl
namespace Go.Proofs.Qxb6615103a
/- THE CELL 'sum', in the pinned program and in every row, IS THE sha256 OF THE DUMP (.gsa) THAT Qxb6615103aProg.lean LOADS. Nothing in Lean hashes anything: it is a label: what it is worth is what the hold of that sum in a sandbox is worth. -/
noncomputable def Try.pinned : Pinned := { name := "qxb6615103a", sum := "5097aa5f02391fc3afb258e64eea631d55ce48f5e1360f198c30d5cd2fffc88e", checked := Try.checked }
namespace Rows
def none {H : Type} : Left H := { results := [], args := [] }

/-- 'zzlaws_masking_b1.FnIsAlnumKthAccepted': WHATEVER THE INPUT: true; the input reads as it did. -/
def fnIsAlnumKthAcceptedSpec : ChangeSpec := { name := "fnIsAlnumKthAccepted", fn := fun _ => fun
  | [d] => { results := [.lit (.bool true)], args := [d] }
  | _ => none }
def fnIsAlnumKthAcceptedRow : OpenClaim := { program := "qxb6615103a", sum := "5097aa5f02391fc3afb258e64eea631d55ce48f5e1360f198c30d5cd2fffc88e", func := "example.com/triagewright/triagewright/zzlaws_masking_b1.FnIsAlnumKthAccepted", spec := "fnIsAlnumKthAccepted", apart := false }
def FnIsAlnumKthAcceptedSaid : Prop := fnIsAlnumKthAcceptedRow.holds Try.pinned (OpenSpec.ofChange fnIsAlnumKthAcceptedSpec)

/-- ITS FALSE NEIGHBOUR: 'it returns false'. Refute it at one input. -/
def fnIsAlnumKthAcceptedWrong : ChangeSpec := { name := "fnIsAlnumKthAccepted", fn := fun _ => fun
  | [d] => { results := [.lit (.bool false)], args := [d] }
  | _ => none }
def FnIsAlnumKthAcceptedWrongFalsely : Prop := fnIsAlnumKthAcceptedRow.holds Try.pinned (OpenSpec.ofChange fnIsAlnumKthAcceptedWrong)

/-- 'zzlaws_masking_b1.FnBlankOfJoinedIsBlankOfPart': WHATEVER THE INPUT: true; the input reads as it did. -/
def fnBlankOfJoinedIsBlankOfPartSpec : ChangeSpec := { name := "fnBlankOfJoinedIsBlankOfPart", fn := fun _ => fun
  | [d1, d2, d3] => { results := [.lit (.bool true)], args := [d1, d2, d3] }
  | _ => none }
def fnBlankOfJoinedIsBlankOfPartRow : OpenClaim := { program := "qxb6615103a", sum := "5097aa5f02391fc3afb258e64eea631d55ce48f5e1360f198c30d5cd2fffc88e", func := "example.com/triagewright/triagewright/zzlaws_masking_b1.FnBlankOfJoinedIsBlankOfPart", spec := "fnBlankOfJoinedIsBlankOfPart", apart := false }
def FnBlankOfJoinedIsBlankOfPartSaid : Prop := fnBlankOfJoinedIsBlankOfPartRow.holds Try.pinned (OpenSpec.ofChange fnBlankOfJoinedIsBlankOfPartSpec)

/-- ITS FALSE NEIGHBOUR: 'it returns false'. Refute it at one input. -/
def fnBlankOfJoinedIsBlankOfPartWrong : ChangeSpec := { name := "fnBlankOfJoinedIsBlankOfPart", fn := fun _ => fun
  | [d1, d2, d3] => { results := [.lit (.bool false)], args := [d1, d2, d3] }
  | _ => none }
def FnBlankOfJoinedIsBlankOfPartWrongFalsely : Prop := fnBlankOfJoinedIsBlankOfPartRow.holds Try.pinned (OpenSpec.ofChange fnBlankOfJoinedIsBlankOfPartWrong)

end Rows
end Go.Proofs.Qxb6615103a
