/-
  No cell of these rows narrows 'for every input' (looked for: loops, veiled, ifaces, maps, wideKeys, modest, calm, conditions, laid).
  DERIVED. THE GIVEN ROWS OF THIS SEAT. 1 by the template 'for every input the law returns true; each argument reads behind the call as it read before'; 0 by the template 'total and deterministic' (their statements: YbulkdinyTotals.lean).
  GIVEN WITH THE SEED: the statements are not yours to turn. If you find one false, say at which input.
  Laid BY PROGRAM, IN A SANDBOX (cutbox-rows.mjs): the forced cells as the released guide's own fill.sh prints them over the translation f259732bbe90043d… (all of the seat's roots in one cut). By AI agents, Wed Nov 11 2026. No macro, syntax, notation, axiom, sorry.
-/
import Derived.Test.YbulkdinyChecked
import GoSem.Claim
import GoSem.ClaimJoined
import GoSem.ClaimMapViews
import Derived.JoinedTies
import Derived.KernelRfl
namespace Go.Proofs.Ybulkdiny
/- THE CELL 'sum', in the pinned program and in every row, IS THE sha256 OF THE DUMP (.gsa) THAT YbulkdinyProg.lean LOADS. Nothing in Lean hashes anything: it is a label: what it is worth is what the hold of that sum in a sandbox is worth. -/
noncomputable def Yba.pinned : Pinned := { name := "ybulkdiny", sum := "f259732bbe90043d2f302d5bc855b1117dfbd0a9efed29bd7b40ad2fe5883b2b", checked := Yba.checked }
namespace Rows
def none {H : Type} : Left H := { results := [], args := [] }

/-- 'simulate.LawS5484BWhole': WHATEVER THE INPUT: true; the input reads as it did. -/
def lawS5484BWholeSpec : ChangeSpec := { name := "lawS5484BWhole", fn := fun _ => fun
  | [d1, d2, d3] => { results := [.lit (.bool true)], args := [d1, d2, d3] }
  | _ => none }
def lawS5484BWholeRow : OpenClaim := { program := "ybulkdiny", sum := "f259732bbe90043d2f302d5bc855b1117dfbd0a9efed29bd7b40ad2fe5883b2b", func := "example.com/slackwise/slackwise/simulate.LawS5484BWhole", spec := "lawS5484BWhole", inPlace := ["math.Float64bits", "math.Float64frombits", "math.sqrt"], recurses := true, apart := false }
def LawS5484BWholeSaid : Prop := lawS5484BWholeRow.holds Yba.pinned (OpenSpec.ofChange lawS5484BWholeSpec)

/-- ITS FALSE NEIGHBOUR: 'it returns false'. Refute it at one input. -/
def lawS5484BWholeWrong : ChangeSpec := { name := "lawS5484BWhole", fn := fun _ => fun
  | [d1, d2, d3] => { results := [.lit (.bool false)], args := [d1, d2, d3] }
  | _ => none }
def LawS5484BWholeWrongFalsely : Prop := lawS5484BWholeRow.holds Yba.pinned (OpenSpec.ofChange lawS5484BWholeWrong)

end Rows
end Go.Proofs.Ybulkdiny
