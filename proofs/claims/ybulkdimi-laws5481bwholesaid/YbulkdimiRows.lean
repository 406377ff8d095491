/-
  No cell of these rows narrows 'for every input' (looked for: loops, veiled, ifaces, maps, wideKeys, modest, calm, conditions, laid).
  DERIVED. THE GIVEN ROWS OF THIS SEAT. 1 by the template 'for every input the law returns true; each argument reads behind the call as it read before'; 0 by the template 'total and deterministic' (their statements: YbulkdimiTotals.lean).
  GIVEN WITH THE SEED: the statements are not yours to turn. If you find one false, say at which input.
  Laid BY PROGRAM, IN A SANDBOX (cutbox-rows.mjs): the forced cells as the released guide's own fill.sh prints them over the translation 8340fcd18c1694b0… (all of the seat's roots in one cut). By AI agents, Wed Nov 11 2026. No macro, syntax, notation, axiom, sorry.
-/
import Derived.Test.YbulkdimiChecked
import GoSem.Claim
import GoSem.ClaimJoined
import GoSem.ClaimMapViews
import Derived.JoinedTies
import Derived.KernelRfl
namespace Go.Proofs.Ybulkdimi
/- THE CELL 'sum', in the pinned program and in every row, IS THE sha256 OF THE DUMP (.gsa) THAT YbulkdimiProg.lean LOADS. Nothing in Lean hashes anything: it is a label: what it is worth is what the hold of that sum in a sandbox is worth. -/
noncomputable def Yba.pinned : Pinned := { name := "ybulkdimi", sum := "8340fcd18c1694b0260fe0ec4f74be3eb8c9468942bb37e98a4ca6904d31d74e", checked := Yba.checked }
namespace Rows
def none {H : Type} : Left H := { results := [], args := [] }

/-- 'server.LawS5481BWhole': WHATEVER THE INPUT: true; the input reads as it did. -/
def lawS5481BWholeSpec : ChangeSpec := { name := "lawS5481BWhole", fn := fun _ => fun
  | [d1, d2, d3, d4, d5] => { results := [.lit (.bool true)], args := [d1, d2, d3, d4, d5] }
  | _ => none }
def lawS5481BWholeRow : OpenClaim := { program := "ybulkdimi", sum := "8340fcd18c1694b0260fe0ec4f74be3eb8c9468942bb37e98a4ca6904d31d74e", func := "example.com/dialreg/dialreg/server.LawS5481BWhole", spec := "lawS5481BWhole", apart := false }
def LawS5481BWholeSaid : Prop := lawS5481BWholeRow.holds Yba.pinned (OpenSpec.ofChange lawS5481BWholeSpec)

/-- ITS FALSE NEIGHBOUR: 'it returns false'. Refute it at one input. -/
def lawS5481BWholeWrong : ChangeSpec := { name := "lawS5481BWhole", fn := fun _ => fun
  | [d1, d2, d3, d4, d5] => { results := [.lit (.bool false)], args := [d1, d2, d3, d4, d5] }
  | _ => none }
def LawS5481BWholeWrongFalsely : Prop := lawS5481BWholeRow.holds Yba.pinned (OpenSpec.ofChange lawS5481BWholeWrong)

end Rows
end Go.Proofs.Ybulkdimi
