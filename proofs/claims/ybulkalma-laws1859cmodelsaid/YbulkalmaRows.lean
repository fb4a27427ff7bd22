/-
  No cell of these rows narrows 'for every input' (looked for: loops, veiled, ifaces, maps, wideKeys, modest, calm, conditions, laid).
  DERIVED. THE GIVEN ROWS OF THIS SEAT. 4 by the template 'for every input the law returns true; each argument reads behind the call as it read before'; 0 by the template 'total and deterministic' (their statements: YbulkalmaTotals.lean).
  GIVEN WITH THE SEED: the statements are not yours to turn. If you find one false, say at which input.
  Laid BY PROGRAM, IN A SANDBOX (cutbox-rows.mjs): the forced cells as the released guide's own fill.sh prints them over the translation 771273d390f76ec1… (all of the seat's roots in one cut). By AI agents, Wed Nov 11 2026. No macro, syntax, notation, axiom, sorry.
-/
import Derived.Test.YbulkalmaChecked
import GoSem.Claim
import GoSem.ClaimJoined
import GoSem.ClaimMapViews
import Derived.JoinedTies
import Derived.KernelRfl
namespace Go.Proofs.Ybulkalma
/- THE CELL 'sum', in the pinned program and in every row, IS THE sha256 OF THE DUMP (.gsa) THAT YbulkalmaProg.lean LOADS. Nothing in Lean hashes anything: it is a label: what it is worth is what the hold of that sum in a sandbox is worth. -/
noncomputable def Yba.pinned : Pinned := { name := "ybulkalma", sum := "771273d390f76ec1d086049c7f438c44bff637e0690924dfc2a8677d356be322", checked := Yba.checked }
namespace Rows
def none {H : Type} : Left H := { results := [], args := [] }

/-- 'nearmost.LawS1859ABits': WHATEVER THE INPUT: true; the input reads as it did. -/
def lawS1859ABitsSpec : ChangeSpec := { name := "lawS1859ABits", fn := fun _ => fun
  | [d1, d2, d3] => { results := [.lit (.bool true)], args := [d1, d2, d3] }
  | _ => none }
def lawS1859ABitsRow : OpenClaim := { program := "ybulkalma", sum := "771273d390f76ec1d086049c7f438c44bff637e0690924dfc2a8677d356be322", func := "example.com/nearmost/nearmost.LawS1859ABits", spec := "lawS1859ABits", apart := false }
def LawS1859ABitsSaid : Prop := lawS1859ABitsRow.holds Yba.pinned (OpenSpec.ofChange lawS1859ABitsSpec)

/-- ITS FALSE NEIGHBOUR: 'it returns false'. Refute it at one input. -/
def lawS1859ABitsWrong : ChangeSpec := { name := "lawS1859ABits", fn := fun _ => fun
  | [d1, d2, d3] => { results := [.lit (.bool false)], args := [d1, d2, d3] }
  | _ => none }
def LawS1859ABitsWrongFalsely : Prop := lawS1859ABitsRow.holds Yba.pinned (OpenSpec.ofChange lawS1859ABitsWrong)

/-- 'nearmost.LawS1859ACompose': WHATEVER THE INPUT: true; the input reads as it did. -/
def lawS1859AComposeSpec : ChangeSpec := { name := "lawS1859ACompose", fn := fun _ => fun
  | [d1, d2, d3, d4] => { results := [.lit (.bool true)], args := [d1, d2, d3, d4] }
  | _ => none }
def lawS1859AComposeRow : OpenClaim := { program := "ybulkalma", sum := "771273d390f76ec1d086049c7f438c44bff637e0690924dfc2a8677d356be322", func := "example.com/nearmost/nearmost.LawS1859ACompose", spec := "lawS1859ACompose", apart := false }
def LawS1859AComposeSaid : Prop := lawS1859AComposeRow.holds Yba.pinned (OpenSpec.ofChange lawS1859AComposeSpec)

/-- ITS FALSE NEIGHBOUR: 'it returns false'. Refute it at one input. -/
def lawS1859AComposeWrong : ChangeSpec := { name := "lawS1859ACompose", fn := fun _ => fun
  | [d1, d2, d3, d4] => { results := [.lit (.bool false)], args := [d1, d2, d3, d4] }
  | _ => none }
def LawS1859AComposeWrongFalsely : Prop := lawS1859AComposeRow.holds Yba.pinned (OpenSpec.ofChange lawS1859AComposeWrong)

/-- 'nearmost.LawS1859CModel': WHATEVER THE INPUT: true; the input reads as it did. -/
def lawS1859CModelSpec : ChangeSpec := { name := "lawS1859CModel", fn := fun _ => fun
  | [d1, d2] => { results := [.lit (.bool true)], args := [d1, d2] }
  | _ => none }
def lawS1859CModelRow : OpenClaim := { program := "ybulkalma", sum := "771273d390f76ec1d086049c7f438c44bff637e0690924dfc2a8677d356be322", func := "example.com/nearmost/nearmost.LawS1859CModel", spec := "lawS1859CModel", apart := false }
def LawS1859CModelSaid : Prop := lawS1859CModelRow.holds Yba.pinned (OpenSpec.ofChange lawS1859CModelSpec)

/-- ITS FALSE NEIGHBOUR: 'it returns false'. Refute it at one input. -/
def lawS1859CModelWrong : ChangeSpec := { name := "lawS1859CModel", fn := fun _ => fun
  | [d1, d2] => { results := [.lit (.bool false)], args := [d1, d2] }
  | _ => none }
def LawS1859CModelWrongFalsely : Prop := lawS1859CModelRow.holds Yba.pinned (OpenSpec.ofChange lawS1859CModelWrong)

/-- 'nearmost.LawS1859CAntisym': WHATEVER THE INPUT: true; the input reads as it did. -/
def lawS1859CAntisymSpec : ChangeSpec := { name := "lawS1859CAntisym", fn := fun _ => fun
  | [d1, d2] => { results := [.lit (.bool true)], args := [d1, d2] }
  | _ => none }
def lawS1859CAntisymRow : OpenClaim := { program := "ybulkalma", sum := "771273d390f76ec1d086049c7f438c44bff637e0690924dfc2a8677d356be322", func := "example.com/nearmost/nearmost.LawS1859CAntisym", spec := "lawS1859CAntisym", apart := false }
def LawS1859CAntisymSaid : Prop := lawS1859CAntisymRow.holds Yba.pinned (OpenSpec.ofChange lawS1859CAntisymSpec)

/-- ITS FALSE NEIGHBOUR: 'it returns false'. Refute it at one input. -/
def lawS1859CAntisymWrong : ChangeSpec := { name := "lawS1859CAntisym", fn := fun _ => fun
  | [d1, d2] => { results := [.lit (.bool false)], args := [d1, d2] }
  | _ => none }
def LawS1859CAntisymWrongFalsely : Prop := lawS1859CAntisymRow.holds Yba.pinned (OpenSpec.ofChange lawS1859CAntisymWrong)

end Rows
end Go.Proofs.Ybulkalma
