/-
  DERIVED. GIVEN WITH THE SEED: THE CARDS: each row of YbulkaljiFmtRows.lean that lists a variable, with what it lists TIED to the program's text (the seventh form; the later family's looks); each row that meets fmt, with fmt's text TOLD by the authors' own Lean function (tested against real Go, not proved from fmt's source: count such statements apart). THE CARD IS WHAT COUNTS. Prove the row's statement (the work); the ties are given (YbulkaljiFmtTie.lean); close each card by the builder's one call (the guide's Derived/Test/ToyasCard.lean, 'card_holds'). Laid BY PROGRAM, IN A SANDBOX (cutbox-door.mjs). By AI agents, Wed Nov 11 2026. No macro, syntax, notation, axiom, sorry.
-/
import Derived.Test.YbulkaljiFmtRows
import GoSem.ClaimSeven
namespace Go.Proofs.YbulkaljiFmt
namespace Rows

/-- THE TOLD CARD OF 'antecede.LawS1854CRoundTrip'. -/
def lawS1854CRoundTripCard : Claim7 := { stood := { row := lawS1854CRoundTripRow, standIns := [], harness := (true, "181b81809fdd904e382b84488d44df88b2bb8057fd88a25faf5372c1b1962a3a"), looks := false }, told := true, goes := false }
def LawS1854CRoundTripToldSaid : Prop := Claim7.holds Ybaf.pinned (.plain (OpenSpec.ofChange lawS1854CRoundTripSpec)) lawS1854CRoundTripCard
/-- ITS FALSE NEIGHBOUR. Refute it at one input. -/
def LawS1854CRoundTripToldWrongFalsely : Prop := Claim7.holds Ybaf.pinned (.plain (OpenSpec.ofChange lawS1854CRoundTripWrong)) lawS1854CRoundTripCard

/-- THE TOLD CARD OF 'antecede.LawS1854CModel'. -/
def lawS1854CModelCard : Claim7 := { stood := { row := lawS1854CModelRow, standIns := [], harness := (true, "181b81809fdd904e382b84488d44df88b2bb8057fd88a25faf5372c1b1962a3a"), looks := false }, told := true, goes := false }
def LawS1854CModelToldSaid : Prop := Claim7.holds Ybaf.pinned (.plain (OpenSpec.ofChange lawS1854CModelSpec)) lawS1854CModelCard
/-- ITS FALSE NEIGHBOUR. Refute it at one input. -/
def LawS1854CModelToldWrongFalsely : Prop := Claim7.holds Ybaf.pinned (.plain (OpenSpec.ofChange lawS1854CModelWrong)) lawS1854CModelCard
end Rows
end Go.Proofs.YbulkaljiFmt
