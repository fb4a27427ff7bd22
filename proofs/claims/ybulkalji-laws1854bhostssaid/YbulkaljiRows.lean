/-
  No cell of these rows narrows 'for every input' (looked for: loops, veiled, ifaces, maps, wideKeys, modest, calm, conditions, laid).
  DERIVED. THE GIVEN ROWS OF THIS SEAT. 2 by the template 'for every input the law returns true; each argument reads behind the call as it read before'; 0 by the template 'total and deterministic' (their statements: YbulkaljiTotals.lean).
  GIVEN WITH THE SEED: the statements are not yours to turn. If you find one false, say at which input.
  Laid BY PROGRAM, IN A SANDBOX (cutbox-rows.mjs): the forced cells as the released guide's own fill.sh prints them over the translation 92a7cf16ede18b6f… (all of the seat's roots in one cut). By AI agents, Wed Nov 11 2026. No macro, syntax, notation, axiom, sorry.
-/
import Derived.Test.YbulkaljiChecked
import GoSem.Claim
import GoSem.ClaimJoined
import GoSem.ClaimMapViews
import Derived.JoinedTies
import Derived.KernelRfl
namespace Go.Proofs.Ybulkalji
/- THE CELL 'sum', in the pinned program and in every row, IS THE sha256 OF THE DUMP (.gsa) THAT YbulkaljiProg.lean LOADS. Nothing in Lean hashes anything: it is a label: what it is worth is what the hold of that sum in a sandbox is worth. -/
noncomputable def Yba.pinned : Pinned := { name := "ybulkalji", sum := "92a7cf16ede18b6fd0a0f606c851cc69a670bcb6fd6554793264abfce6152f04", checked := Yba.checked }
namespace Rows
def none {H : Type} : Left H := { results := [], args := [] }

/-- 'snapshot.LawS1854AKeep': WHATEVER THE INPUT: true; the input reads as it did. -/
def lawS1854AKeepSpec : ChangeSpec := { name := "lawS1854AKeep", fn := fun _ => fun
  | [d1, d2, d3, d4] => { results := [.lit (.bool true)], args := [d1, d2, d3, d4] }
  | _ => none }
def lawS1854AKeepRow : OpenClaim := { program := "ybulkalji", sum := "92a7cf16ede18b6fd0a0f606c851cc69a670bcb6fd6554793264abfce6152f04", func := "example.com/antecede/antecede/snapshot.LawS1854AKeep", spec := "lawS1854AKeep", plainKeys := false, apart := false }
def LawS1854AKeepSaid : Prop := lawS1854AKeepRow.holds Yba.pinned (OpenSpec.ofChange lawS1854AKeepSpec)

/-- ITS FALSE NEIGHBOUR: 'it returns false'. Refute it at one input. -/
def lawS1854AKeepWrong : ChangeSpec := { name := "lawS1854AKeep", fn := fun _ => fun
  | [d1, d2, d3, d4] => { results := [.lit (.bool false)], args := [d1, d2, d3, d4] }
  | _ => none }
def LawS1854AKeepWrongFalsely : Prop := lawS1854AKeepRow.holds Yba.pinned (OpenSpec.ofChange lawS1854AKeepWrong)

/-- 'shiviz.LawS1854BHosts': WHATEVER THE INPUT: true; the input reads as it did. -/
def lawS1854BHostsSpec : ChangeSpec := { name := "lawS1854BHosts", fn := fun _ => fun
  | [d1, d2] => { results := [.lit (.bool true)], args := [d1, d2] }
  | _ => none }
def lawS1854BHostsRow : OpenClaim := { program := "ybulkalji", sum := "92a7cf16ede18b6fd0a0f606c851cc69a670bcb6fd6554793264abfce6152f04", func := "example.com/antecede/antecede/internal/shiviz.LawS1854BHosts", spec := "lawS1854BHosts", plainKeys := false, apart := false }
def LawS1854BHostsSaid : Prop := lawS1854BHostsRow.holds Yba.pinned (OpenSpec.ofChange lawS1854BHostsSpec)

/-- ITS FALSE NEIGHBOUR: 'it returns false'. Refute it at one input. -/
def lawS1854BHostsWrong : ChangeSpec := { name := "lawS1854BHosts", fn := fun _ => fun
  | [d1, d2] => { results := [.lit (.bool false)], args := [d1, d2] }
  | _ => none }
def LawS1854BHostsWrongFalsely : Prop := lawS1854BHostsRow.holds Yba.pinned (OpenSpec.ofChange lawS1854BHostsWrong)

end Rows
end Go.Proofs.Ybulkalji
