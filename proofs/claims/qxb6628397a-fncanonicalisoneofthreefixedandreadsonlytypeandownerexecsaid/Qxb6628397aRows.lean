/-
  No cell of these rows narrows 'for every input' (looked for: loops, veiled, ifaces, maps, wideKeys, modest, calm, conditions, laid).
  DERIVED. THE GIVEN ROWS OF THIS SEAT. 1 by the template 'for every input the law returns true; each argument reads behind the call as it read before'; 0 by the template 'total and deterministic' (their statements: Qxb6628397aTotals.lean).
  GIVEN WITH THE SEED: the statements are not yours to turn. If you find one false, say at which input.
  Laid BY PROGRAM, IN A SANDBOX (cutbox-rows.mjs): the forced cells as the released guide's own fill.sh prints them over the translation 2f79bec27cb0bec1… (all of the seat's roots in one cut). By AI agents, Wed Nov 11 2026. No macro, syntax, notation, axiom, sorry.
-/
import Derived.Test.Qxb6628397aChecked
import GoSem.Claim
import GoSem.ClaimJoined
import GoSem.ClaimMapViews
import Derived.JoinedTies
import Derived.KernelRfl
namespace Go.Proofs.Qxb6628397a
/- THE CELL 'sum', in the pinned program and in every row, IS THE sha256 OF THE DUMP (.gsa) THAT Qxb6628397aProg.lean LOADS. Nothing in Lean hashes anything: it is a label: what it is worth is what the hold of that sum in a sandbox is worth. -/
noncomputable def Try.pinned : Pinned := { name := "qxb6628397a", sum := "2f79bec27cb0bec17a931eb8001e4539b23dbafb09139e1e23f3b24c1b748059", checked := Try.checked }
namespace Rows
def none {H : Type} : Left H := { results := [], args := [] }

/-- 'zzlaws_pkgfile_b1.FnCanonicalIsOneOfThreeFixedAndReadsOnlyTypeAndOwnerExec': WHATEVER THE INPUT: true; the input reads as it did. -/
def fnCanonicalIsOneOfThreeFixedAndReadsOnlyTypeAndOwnerExecSpec : ChangeSpec := { name := "fnCanonicalIsOneOfThreeFixedAndReadsOnlyTypeAndOwnerExec", fn := fun _ => fun
  | [d1, d2] => { results := [.lit (.bool true)], args := [d1, d2] }
  | _ => none }
def fnCanonicalIsOneOfThreeFixedAndReadsOnlyTypeAndOwnerExecRow : OpenClaim := { program := "qxb6628397a", sum := "2f79bec27cb0bec17a931eb8001e4539b23dbafb09139e1e23f3b24c1b748059", func := "example.com/fanwright/fanwright/zzlaws_pkgfile_b1.FnCanonicalIsOneOfThreeFixedAndReadsOnlyTypeAndOwnerExec", spec := "fnCanonicalIsOneOfThreeFixedAndReadsOnlyTypeAndOwnerExec", apart := false }
def FnCanonicalIsOneOfThreeFixedAndReadsOnlyTypeAndOwnerExecSaid : Prop := fnCanonicalIsOneOfThreeFixedAndReadsOnlyTypeAndOwnerExecRow.holds Try.pinned (OpenSpec.ofChange fnCanonicalIsOneOfThreeFixedAndReadsOnlyTypeAndOwnerExecSpec)

/-- ITS FALSE NEIGHBOUR: 'it returns false'. Refute it at one input. -/
def fnCanonicalIsOneOfThreeFixedAndReadsOnlyTypeAndOwnerExecWrong : ChangeSpec := { name := "fnCanonicalIsOneOfThreeFixedAndReadsOnlyTypeAndOwnerExec", fn := fun _ => fun
  | [d1, d2] => { results := [.lit (.bool false)], args := [d1, d2] }
  | _ => none }
def FnCanonicalIsOneOfThreeFixedAndReadsOnlyTypeAndOwnerExecWrongFalsely : Prop := fnCanonicalIsOneOfThreeFixedAndReadsOnlyTypeAndOwnerExecRow.holds Try.pinned (OpenSpec.ofChange fnCanonicalIsOneOfThreeFixedAndReadsOnlyTypeAndOwnerExecWrong)

end Rows
end Go.Proofs.Qxb6628397a
