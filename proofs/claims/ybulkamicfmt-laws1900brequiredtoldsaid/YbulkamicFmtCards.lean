/-
  DERIVED. GIVEN WITH THE SEED: THE CARDS: each row of YbulkamicFmtRows.lean that lists a variable, with what it lists TIED to the program's text (the seventh form; the later family's looks); each row that meets fmt, with fmt's text TOLD by the authors' own Lean function (tested against real Go, not proved from fmt's source: count such statements apart). THE CARD IS WHAT COUNTS. Prove the row's statement (the work); the ties are given (YbulkamicFmtTie.lean); close each card by the builder's one call (the guide's Derived/Test/ToyasCard.lean, 'card_holds'). Laid BY PROGRAM, IN A SANDBOX (cutbox-door.mjs). By AI agents, Wed Nov 11 2026. No macro, syntax, notation, axiom, sorry.
-/
import Derived.Test.YbulkamicFmtRows
import GoSem.ClaimSeven
namespace Go.Proofs.YbulkamicFmt
namespace Rows

/-- THE TOLD CARD OF 'terms.LawS1900BRequired'. -/
def lawS1900BRequiredCard : Claim7 := { stood := { row := lawS1900BRequiredRow, standIns := [], harness := (true, "c32c902bb8720c7c7c2504a692492afd1248ddb7e619c523d34f0adcfa81200f"), looks := true }, told := true, goes := false }
def LawS1900BRequiredToldSaid : Prop := Claim7.holds Ybaf.pinned (.plain (OpenSpec.ofChange lawS1900BRequiredSpec)) lawS1900BRequiredCard
/-- ITS FALSE NEIGHBOUR. Refute it at one input. -/
def LawS1900BRequiredToldWrongFalsely : Prop := Claim7.holds Ybaf.pinned (.plain (OpenSpec.ofChange lawS1900BRequiredWrong)) lawS1900BRequiredCard
end Rows
end Go.Proofs.YbulkamicFmt
