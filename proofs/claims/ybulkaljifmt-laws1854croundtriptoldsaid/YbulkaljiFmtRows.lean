/-
  No cell of these rows narrows 'for every input' (looked for: loops, veiled, ifaces, maps, wideKeys, modest, calm, conditions, laid).
  DERIVED. THE GIVEN ROWS OF THIS SEAT. 2 by the template 'for every input the law returns true; each argument reads behind the call as it read before'; 0 by the template 'total and deterministic' (their statements: YbulkaljiFmtTotals.lean).
  GIVEN WITH THE SEED: the statements are not yours to turn. If you find one false, say at which input.
  Laid BY PROGRAM, IN A SANDBOX (cutbox-rows.mjs): the forced cells as the released guide's own fill.sh prints them over the translation 776ff2cdc3d474aa… (all of the seat's roots in one cut). By AI agents, Wed Nov 11 2026. No macro, syntax, notation, axiom, sorry.
-/
import Derived.Test.YbulkaljiFmtChecked
import GoSem.Claim
import GoSem.ClaimJoined
import GoSem.ClaimMapViews
import Derived.JoinedTies
import Derived.KernelRfl
namespace Go.Proofs.YbulkaljiFmt
/- THE CELL 'sum', in the pinned program and in every row, IS THE sha256 OF THE DUMP (.gsa) THAT YbulkaljiFmtProg.lean LOADS. Nothing in Lean hashes anything: it is a label: what it is worth is what the hold of that sum in a sandbox is worth. -/
noncomputable def Ybaf.pinned : Pinned := { name := "ybulkaljifmt", sum := "776ff2cdc3d474aa899bcc661c1847bd369f6a5dbd3fd2d18667a9f80827d94b", checked := Ybaf.checked }
namespace Rows
def none {H : Type} : Left H := { results := [], args := [] }

/-- 'antecede.LawS1854CRoundTrip': WHATEVER THE INPUT: true; the input reads as it did. -/
def lawS1854CRoundTripSpec : ChangeSpec := { name := "lawS1854CRoundTrip", fn := fun _ => fun
  | [d1, d2] => { results := [.lit (.bool true)], args := [d1, d2] }
  | _ => none }
def lawS1854CRoundTripRow : OpenClaim := { program := "ybulkaljifmt", sum := "776ff2cdc3d474aa899bcc661c1847bd369f6a5dbd3fd2d18667a9f80827d94b", func := "example.com/antecede/antecede.LawS1854CRoundTrip", spec := "lawS1854CRoundTrip", stops := ["fmt.errorf"], inPlace := ["fmt.errorf"], apart := false }
/-- NO THEOREM (fmt's text is open here; it may be false): for the released tool's asking of the row's closed facts alone. THE STATEMENT IS 'LawS1854CRoundTripToldSaid' (YbulkaljiFmtCards.lean). -/
def LawS1854CRoundTripFormAsk : Prop := lawS1854CRoundTripRow.holds Ybaf.pinned (OpenSpec.ofChange lawS1854CRoundTripSpec)

/-- ITS FALSE NEIGHBOUR: 'it returns false'. Refute it at one input. -/
def lawS1854CRoundTripWrong : ChangeSpec := { name := "lawS1854CRoundTrip", fn := fun _ => fun
  | [d1, d2] => { results := [.lit (.bool false)], args := [d1, d2] }
  | _ => none }
def LawS1854CRoundTripWrongFormAsk : Prop := lawS1854CRoundTripRow.holds Ybaf.pinned (OpenSpec.ofChange lawS1854CRoundTripWrong)

/-- 'antecede.LawS1854CModel': WHATEVER THE INPUT: true; the input reads as it did. -/
def lawS1854CModelSpec : ChangeSpec := { name := "lawS1854CModel", fn := fun _ => fun
  | [d] => { results := [.lit (.bool true)], args := [d] }
  | _ => none }
def lawS1854CModelRow : OpenClaim := { program := "ybulkaljifmt", sum := "776ff2cdc3d474aa899bcc661c1847bd369f6a5dbd3fd2d18667a9f80827d94b", func := "example.com/antecede/antecede.LawS1854CModel", spec := "lawS1854CModel", stops := ["fmt.errorf"], inPlace := ["fmt.errorf"], apart := false }
/-- NO THEOREM (fmt's text is open here; it may be false): for the released tool's asking of the row's closed facts alone. THE STATEMENT IS 'LawS1854CModelToldSaid' (YbulkaljiFmtCards.lean). -/
def LawS1854CModelFormAsk : Prop := lawS1854CModelRow.holds Ybaf.pinned (OpenSpec.ofChange lawS1854CModelSpec)

/-- ITS FALSE NEIGHBOUR: 'it returns false'. Refute it at one input. -/
def lawS1854CModelWrong : ChangeSpec := { name := "lawS1854CModel", fn := fun _ => fun
  | [d] => { results := [.lit (.bool false)], args := [d] }
  | _ => none }
def LawS1854CModelWrongFormAsk : Prop := lawS1854CModelRow.holds Ybaf.pinned (OpenSpec.ofChange lawS1854CModelWrong)

end Rows
end Go.Proofs.YbulkaljiFmt
