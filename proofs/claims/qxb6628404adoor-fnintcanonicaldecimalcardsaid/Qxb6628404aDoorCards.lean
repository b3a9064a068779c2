/-
  DERIVED. GIVEN WITH THE SEED: THE CARDS: each row of Qxb6628404aDoorRows.lean that lists a variable, with what it lists TIED to the program's text (the seventh form; the later family's looks); each row that meets fmt, with fmt's text TOLD by the authors' own Lean function (tested against real Go, not proved from fmt's source: count such statements apart). THE CARD IS WHAT COUNTS. Prove the row's statement (the work); the ties are given (Qxb6628404aDoorTie.lean); close each card by the builder's one call (the guide's Derived/Test/ToyasCard.lean, 'card_holds'). Laid BY PROGRAM, IN A SANDBOX (cutbox-door.mjs). By AI agents, Wed Nov 11 2026. No macro, syntax, notation, axiom, sorry.
-/
import Derived.Test.Qxb6628404aDoorRows
import GoSem.ClaimSeven
namespace Go.Proofs.Qxb6628404aDoor
namespace Rows

/-- THE TIED CARD OF 'zzlaws_internal_jsonwire_b1.FnIntCanonicalDecimal'. -/
def fnIntCanonicalDecimalCard : Claim7 := { stood := { row := fnIntCanonicalDecimalRow, standIns := [], harness := (true, "79bea8a6e6e14a69c94adf16d07a05c8a9b6161c6e1a9d6ef5fed4fffc3487a3"), looks := true }, kinds := [], alts := [], laidByText := true, laidKinds := [.data, .data, .data, .sentinel, .sentinel], laidTests := true, laidLooks := .later }
def FnIntCanonicalDecimalCardSaid : Prop := Claim7.holds Tryd.pinned (.plain (OpenSpec.ofChange fnIntCanonicalDecimalSpec)) fnIntCanonicalDecimalCard

/-- THE TIED CARD OF 'zzlaws_internal_jsonwire_b1.FnIntReadsOnlyItsElement'. -/
def fnIntReadsOnlyItsElementCard : Claim7 := { stood := { row := fnIntReadsOnlyItsElementRow, standIns := [], harness := (true, "79bea8a6e6e14a69c94adf16d07a05c8a9b6161c6e1a9d6ef5fed4fffc3487a3"), looks := true }, kinds := [], alts := [], laidByText := true, laidKinds := [.data, .data, .data, .sentinel, .sentinel], laidTests := true, laidLooks := .later }
def FnIntReadsOnlyItsElementCardSaid : Prop := Claim7.holds Tryd.pinned (.plain (OpenSpec.ofChange fnIntReadsOnlyItsElementSpec)) fnIntReadsOnlyItsElementCard
end Rows
end Go.Proofs.Qxb6628404aDoor
