/-
  No cell of these rows narrows 'for every input' (looked for: loops, veiled, ifaces, maps, wideKeys, modest, calm, conditions, laid).
  DERIVED. THE GIVEN ROWS OF THIS SEAT. 1 by the template 'for every input the law returns true; each argument reads behind the call as it read before'; 0 by the template 'total and deterministic' (their statements: YbulkdinkTotals.lean).
  GIVEN WITH THE SEED: the statements are not yours to turn. If you find one false, say at which input.
  Laid BY PROGRAM, IN A SANDBOX (cutbox-rows.mjs): the forced cells as the released guide's own fill.sh prints them over the translation 0850145c51170619… (all of the seat's roots in one cut). By AI agents, Wed Nov 11 2026. No macro, syntax, notation, axiom, sorry.
-/
import Derived.Test.YbulkdinkChecked
import GoSem.Claim
import GoSem.ClaimJoined
import GoSem.ClaimMapViews
import Derived.JoinedTies
import Derived.KernelRfl
namespace Go.Proofs.Ybulkdink
/- THE CELL 'sum', in the pinned program and in every row, IS THE sha256 OF THE DUMP (.gsa) THAT YbulkdinkProg.lean LOADS. Nothing in Lean hashes anything: it is a label: what it is worth is what the hold of that sum in a sandbox is worth. -/
noncomputable def Yba.pinned : Pinned := { name := "ybulkdink", sum := "0850145c51170619903ea21cfcbdba1c651603e04aa841203c87d36379b775e3", checked := Yba.checked }
namespace Rows
def none {H : Type} : Left H := { results := [], args := [] }

/-- 'ballast.LawS5483BWhole': WHATEVER THE INPUT: true; the input reads as it did. -/
def lawS5483BWholeSpec : ChangeSpec := { name := "lawS5483BWhole", fn := fun _ => fun
  | [d1, d2, d3] => { results := [.lit (.bool true)], args := [d1, d2, d3] }
  | _ => none }
def lawS5483BWholeRow : OpenClaim := { program := "ybulkdink", sum := "0850145c51170619903ea21cfcbdba1c651603e04aa841203c87d36379b775e3", func := "example.com/ballast/ballast.LawS5483BWhole", spec := "lawS5483BWhole", inPlace := ["internal/bytealg.Compare"], unfollowed := true, recurses := true, apart := false }
def LawS5483BWholeSaid : Prop := lawS5483BWholeRow.holds Yba.pinned (OpenSpec.ofChange lawS5483BWholeSpec)

/-- ITS FALSE NEIGHBOUR: 'it returns false'. Refute it at one input. -/
def lawS5483BWholeWrong : ChangeSpec := { name := "lawS5483BWhole", fn := fun _ => fun
  | [d1, d2, d3] => { results := [.lit (.bool false)], args := [d1, d2, d3] }
  | _ => none }
def LawS5483BWholeWrongFalsely : Prop := lawS5483BWholeRow.holds Yba.pinned (OpenSpec.ofChange lawS5483BWholeWrong)

end Rows
end Go.Proofs.Ybulkdink
