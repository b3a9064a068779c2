/-
  NARROWER THAN 'FOR EVERY INPUT', by the rows' own cells (each row's printed sentence says how): FnCombineMatchesNewtonInterpolation: maps.
  DERIVED. THE GIVEN ROWS OF THIS SEAT. 1 by the template 'for every input the law returns true; each argument reads behind the call as it read before'; 0 by the template 'total and deterministic' (their statements: Qxb6628248aFmtTotals.lean).
  GIVEN WITH THE SEED: the statements are not yours to turn. If you find one false, say at which input.
  Laid BY PROGRAM, IN A SANDBOX (cutbox-rows.mjs): the forced cells as the released guide's own fill.sh prints them over the translation 218b20959f60f639… (all of the seat's roots in one cut). By AI agents, Wed Nov 11 2026. No macro, syntax, notation, axiom, sorry.
-/
import Derived.Test.Qxb6628248aFmtChecked
import GoSem.Claim
import GoSem.ClaimJoined
import GoSem.ClaimMapViews
import Derived.JoinedTies
import Derived.KernelRfl
namespace Go.Proofs.Qxb6628248aFmt
/- THE CELL 'sum', in the pinned program and in every row, IS THE sha256 OF THE DUMP (.gsa) THAT Qxb6628248aFmtProg.lean LOADS. Nothing in Lean hashes anything: it is a label: what it is worth is what the hold of that sum in a sandbox is worth. -/
noncomputable def Tryf.pinned : Pinned := { name := "qxb6628248afmt", sum := "218b20959f60f63979f71fb8c8e918d840dcbea550062ab4479b79e9526114ce", checked := Tryf.checked }
namespace Rows
def none {H : Type} : Left H := { results := [], args := [] }

/-- 'zzlaws_shamir_b1.FnCombineMatchesNewtonInterpolation': WHATEVER THE INPUT: true; the input reads as it did. -/
def fnCombineMatchesNewtonInterpolationSpec : ChangeSpec := { name := "fnCombineMatchesNewtonInterpolation", fn := fun _ => fun
  | [d] => { results := [.lit (.bool true)], args := [d] }
  | _ => none }
def fnCombineMatchesNewtonInterpolationRow : OpenClaim := { program := "qxb6628248afmt", sum := "218b20959f60f63979f71fb8c8e918d840dcbea550062ab4479b79e9526114ce", func := "example.com/shardkeep/shardkeep/zzlaws_shamir_b1.FnCombineMatchesNewtonInterpolation", spec := "fnCombineMatchesNewtonInterpolation", stops := ["fmt.errorf"], inPlace := ["fmt.errorf"], recurses := true, maps := true, apart := false }
/-- NO THEOREM (fmt's text is open here; it may be false): for the released tool's asking of the row's closed facts alone. THE STATEMENT IS 'FnCombineMatchesNewtonInterpolationToldSaid' (Qxb6628248aFmtCards.lean). -/
def FnCombineMatchesNewtonInterpolationFormAsk : Prop := fnCombineMatchesNewtonInterpolationRow.holds Tryf.pinned (OpenSpec.ofChange fnCombineMatchesNewtonInterpolationSpec)

/-- ITS FALSE NEIGHBOUR: 'it returns false'. Refute it at one input. -/
def fnCombineMatchesNewtonInterpolationWrong : ChangeSpec := { name := "fnCombineMatchesNewtonInterpolation", fn := fun _ => fun
  | [d] => { results := [.lit (.bool false)], args := [d] }
  | _ => none }
def FnCombineMatchesNewtonInterpolationWrongFormAsk : Prop := fnCombineMatchesNewtonInterpolationRow.holds Tryf.pinned (OpenSpec.ofChange fnCombineMatchesNewtonInterpolationWrong)

end Rows
end Go.Proofs.Qxb6628248aFmt
