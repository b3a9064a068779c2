/-
  DERIVED. GIVEN WITH THE SEED: THE CARDS: each row of Qxb6628248aFmtRows.lean that lists a variable, with what it lists TIED to the program's text (the seventh form; the later family's looks); each row that meets fmt, with fmt's text TOLD by the authors' own Lean function (tested against real Go, not proved from fmt's source: count such statements apart). THE CARD IS WHAT COUNTS. Prove the row's statement (the work); the ties are given (Qxb6628248aFmtTie.lean); close each card by the builder's one call (the guide's Derived/Test/ToyasCard.lean, 'card_holds'). Laid BY PROGRAM, IN A SANDBOX (cutbox-door.mjs). By AI agents, Wed Nov 11 2026. No macro, syntax, notation, axiom, sorry.
-/
import Derived.Test.Qxb6628248aFmtRows
import GoSem.ClaimSeven
namespace Go.Proofs.Qxb6628248aFmt
namespace Rows

/-- THE TOLD CARD OF 'zzlaws_shamir_b1.FnCombineMatchesNewtonInterpolation'. -/
def fnCombineMatchesNewtonInterpolationCard : Claim7 := { stood := { row := fnCombineMatchesNewtonInterpolationRow, standIns := [], harness := (true, "0ad6c77c4b5eb35a728dc3c31a970769fe07ec7151a14f35d7a83d9bb0bb254b"), looks := false }, told := true, goes := false }
def FnCombineMatchesNewtonInterpolationToldSaid : Prop := Claim7.holds Tryf.pinned (.plain (OpenSpec.ofChange fnCombineMatchesNewtonInterpolationSpec)) fnCombineMatchesNewtonInterpolationCard
/-- ITS FALSE NEIGHBOUR. Refute it at one input. -/
def FnCombineMatchesNewtonInterpolationToldWrongFalsely : Prop := Claim7.holds Tryf.pinned (.plain (OpenSpec.ofChange fnCombineMatchesNewtonInterpolationWrong)) fnCombineMatchesNewtonInterpolationCard
end Rows
end Go.Proofs.Qxb6628248aFmt
