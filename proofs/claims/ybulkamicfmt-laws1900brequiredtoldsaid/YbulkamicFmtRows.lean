/-
  No cell of these rows narrows 'for every input' (looked for: loops, veiled, ifaces, maps, wideKeys, modest, calm, conditions, laid).
  DERIVED. THE GIVEN ROWS OF THIS SEAT. 1 by the template 'for every input the law returns true; each argument reads behind the call as it read before'; 0 by the template 'total and deterministic' (their statements: YbulkamicFmtTotals.lean).
  GIVEN WITH THE SEED: the statements are not yours to turn. If you find one false, say at which input.
  Laid BY PROGRAM, IN A SANDBOX (cutbox-rows.mjs): the forced cells as the released guide's own fill.sh prints them over the translation 582e5338353633a8… (all of the seat's roots in one cut). By AI agents, Wed Nov 11 2026. No macro, syntax, notation, axiom, sorry.
-/
import Derived.Test.YbulkamicFmtChecked
import GoSem.Claim
import GoSem.ClaimJoined
import GoSem.ClaimMapViews
import Derived.JoinedTies
import Derived.KernelRfl
namespace Go.Proofs.YbulkamicFmt
/- THE CELL 'sum', in the pinned program and in every row, IS THE sha256 OF THE DUMP (.gsa) THAT YbulkamicFmtProg.lean LOADS. Nothing in Lean hashes anything: it is a label: what it is worth is what the hold of that sum in a sandbox is worth. -/
noncomputable def Ybaf.pinned : Pinned := { name := "ybulkamicfmt", sum := "582e5338353633a875b4e787bd3f06cd3c648a31ea6d02c6da811f9df813d4a3", checked := Ybaf.checked }
namespace Rows
def none {H : Type} : Left H := { results := [], args := [] }

/-- 'terms.LawS1900BRequired': WHATEVER THE INPUT: true; the input reads as it did. -/
def lawS1900BRequiredSpec : ChangeSpec := { name := "lawS1900BRequired", fn := fun _ => fun
  | [d1, d2, d3, d4] => { results := [.lit (.bool true)], args := [d1, d2, d3, d4] }
  | _ => none }
def lawS1900BRequiredRow : OpenClaim := { program := "ybulkamicfmt", sum := "582e5338353633a875b4e787bd3f06cd3c648a31ea6d02c6da811f9df813d4a3", func := "example.com/tierbook/tierbook/terms.LawS1900BRequired", spec := "lawS1900BRequired", stops := ["fmt.errorf"], inPlace := ["fmt.errorf"], unfollowed := true, recurses := true, apart := false }
/-- NO THEOREM (fmt's text is open here; it may be false): for the released tool's asking of the row's closed facts alone. THE STATEMENT IS 'LawS1900BRequiredToldSaid' (YbulkamicFmtCards.lean). -/
def LawS1900BRequiredFormAsk : Prop := lawS1900BRequiredRow.holds Ybaf.pinned (OpenSpec.ofChange lawS1900BRequiredSpec)

/-- ITS FALSE NEIGHBOUR: 'it returns false'. Refute it at one input. -/
def lawS1900BRequiredWrong : ChangeSpec := { name := "lawS1900BRequired", fn := fun _ => fun
  | [d1, d2, d3, d4] => { results := [.lit (.bool false)], args := [d1, d2, d3, d4] }
  | _ => none }
def LawS1900BRequiredWrongFormAsk : Prop := lawS1900BRequiredRow.holds Ybaf.pinned (OpenSpec.ofChange lawS1900BRequiredWrong)

end Rows
end Go.Proofs.YbulkamicFmt
