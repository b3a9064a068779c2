/-
  No cell of these rows narrows 'for every input' (looked for: loops, veiled, ifaces, maps, wideKeys, modest, calm, conditions, laid).
  DERIVED. THE GIVEN ROWS OF THIS SEAT. 2 by the template 'for every input the law returns true; each argument reads behind the call as it read before'; 0 by the template 'total and deterministic' (their statements: Qxb6628347aTotals.lean).
  GIVEN WITH THE SEED: the statements are not yours to turn. If you find one false, say at which input.
  Laid BY PROGRAM, IN A SANDBOX (cutbox-rows.mjs): the forced cells as the released guide's own fill.sh prints them over the translation 40910f907af8f3f3… (all of the seat's roots in one cut). By AI agents, Wed Nov 11 2026. No macro, syntax, notation, axiom, sorry.
-/
import Derived.Test.Qxb6628347aChecked
import GoSem.Claim
import GoSem.ClaimJoined
import GoSem.ClaimMapViews
import Derived.JoinedTies
import Derived.KernelRfl
namespace Go.Proofs.Qxb6628347a
/- THE CELL 'sum', in the pinned program and in every row, IS THE sha256 OF THE DUMP (.gsa) THAT Qxb6628347aProg.lean LOADS. Nothing in Lean hashes anything: it is a label: what it is worth is what the hold of that sum in a sandbox is worth. -/
noncomputable def Try.pinned : Pinned := { name := "qxb6628347a", sum := "40910f907af8f3f3a6f48262db9be4d0db99e8ac9fc989a599f57c8ff3c61f91", checked := Try.checked }
namespace Rows
def none {H : Type} : Left H := { results := [], args := [] }

/-- 'zzlaws_internal_sim_b1.FnValidityAgreesWithMembershipAndSplitsOverReplicas': WHATEVER THE INPUT: true; the input reads as it did. -/
def fnValidityAgreesWithMembershipAndSplitsOverReplicasSpec : ChangeSpec := { name := "fnValidityAgreesWithMembershipAndSplitsOverReplicas", fn := fun _ => fun
  | [d1, d2, d3] => { results := [.lit (.bool true)], args := [d1, d2, d3] }
  | _ => none }
def fnValidityAgreesWithMembershipAndSplitsOverReplicasRow : OpenClaim := { program := "qxb6628347a", sum := "40910f907af8f3f3a6f48262db9be4d0db99e8ac9fc989a599f57c8ff3c61f91", func := "example.com/holdfast/holdfast/zzlaws_internal_sim_b1.FnValidityAgreesWithMembershipAndSplitsOverReplicas", spec := "fnValidityAgreesWithMembershipAndSplitsOverReplicas", apart := false }
def FnValidityAgreesWithMembershipAndSplitsOverReplicasSaid : Prop := fnValidityAgreesWithMembershipAndSplitsOverReplicasRow.holds Try.pinned (OpenSpec.ofChange fnValidityAgreesWithMembershipAndSplitsOverReplicasSpec)

/-- ITS FALSE NEIGHBOUR: 'it returns false'. Refute it at one input. -/
def fnValidityAgreesWithMembershipAndSplitsOverReplicasWrong : ChangeSpec := { name := "fnValidityAgreesWithMembershipAndSplitsOverReplicas", fn := fun _ => fun
  | [d1, d2, d3] => { results := [.lit (.bool false)], args := [d1, d2, d3] }
  | _ => none }
def FnValidityAgreesWithMembershipAndSplitsOverReplicasWrongFalsely : Prop := fnValidityAgreesWithMembershipAndSplitsOverReplicasRow.holds Try.pinned (OpenSpec.ofChange fnValidityAgreesWithMembershipAndSplitsOverReplicasWrong)

/-- 'zzlaws_internal_sim_b1.FnValidityAcceptsExactlyWhenEveryLoggedCommandIsHanded': WHATEVER THE INPUT: true; the input reads as it did. -/
def fnValidityAcceptsExactlyWhenEveryLoggedCommandIsHandedSpec : ChangeSpec := { name := "fnValidityAcceptsExactlyWhenEveryLoggedCommandIsHanded", fn := fun _ => fun
  | [d1, d2, d3] => { results := [.lit (.bool true)], args := [d1, d2, d3] }
  | _ => none }
def fnValidityAcceptsExactlyWhenEveryLoggedCommandIsHandedRow : OpenClaim := { program := "qxb6628347a", sum := "40910f907af8f3f3a6f48262db9be4d0db99e8ac9fc989a599f57c8ff3c61f91", func := "example.com/holdfast/holdfast/zzlaws_internal_sim_b1.FnValidityAcceptsExactlyWhenEveryLoggedCommandIsHanded", spec := "fnValidityAcceptsExactlyWhenEveryLoggedCommandIsHanded", apart := false }
def FnValidityAcceptsExactlyWhenEveryLoggedCommandIsHandedSaid : Prop := fnValidityAcceptsExactlyWhenEveryLoggedCommandIsHandedRow.holds Try.pinned (OpenSpec.ofChange fnValidityAcceptsExactlyWhenEveryLoggedCommandIsHandedSpec)

/-- ITS FALSE NEIGHBOUR: 'it returns false'. Refute it at one input. -/
def fnValidityAcceptsExactlyWhenEveryLoggedCommandIsHandedWrong : ChangeSpec := { name := "fnValidityAcceptsExactlyWhenEveryLoggedCommandIsHanded", fn := fun _ => fun
  | [d1, d2, d3] => { results := [.lit (.bool false)], args := [d1, d2, d3] }
  | _ => none }
def FnValidityAcceptsExactlyWhenEveryLoggedCommandIsHandedWrongFalsely : Prop := fnValidityAcceptsExactlyWhenEveryLoggedCommandIsHandedRow.holds Try.pinned (OpenSpec.ofChange fnValidityAcceptsExactlyWhenEveryLoggedCommandIsHandedWrong)

end Rows
end Go.Proofs.Qxb6628347a
