/-
  No cell of these rows narrows 'for every input' (looked for: loops, veiled, ifaces, maps, wideKeys, modest, calm, conditions, laid).
  DERIVED. THE GIVEN ROWS OF THIS SEAT. 1 by the template 'for every input the law returns true; each argument reads behind the call as it read before'; 0 by the template 'total and deterministic' (their statements: YbulkdiomTotals.lean).
  GIVEN WITH THE SEED: the statements are not yours to turn. If you find one false, say at which input.
  Laid BY PROGRAM, IN A SANDBOX (cutbox-rows.mjs): the forced cells as the released guide's own fill.sh prints them over the translation 753142db4af91b72… (all of the seat's roots in one cut). By AI agents, Wed Nov 11 2026. No macro, syntax, notation, axiom, sorry.
-/
import Derived.Test.YbulkdiomChecked
import GoSem.Claim
import GoSem.ClaimJoined
import GoSem.ClaimMapViews
import Derived.JoinedTies
import Derived.KernelRfl
namespace Go.Proofs.Ybulkdiom
/- THE CELL 'sum', in the pinned program and in every row, IS THE sha256 OF THE DUMP (.gsa) THAT YbulkdiomProg.lean LOADS. Nothing in Lean hashes anything: it is a label: what it is worth is what the hold of that sum in a sandbox is worth. -/
noncomputable def Yba.pinned : Pinned := { name := "ybulkdiom", sum := "753142db4af91b724173dbe966ce0d1f77a10ccbff76607a8597efe6b081b4d1", checked := Yba.checked }
namespace Rows
def none {H : Type} : Left H := { results := [], args := [] }

/-- 'quorumslice.LawS5485CWhole': WHATEVER THE INPUT: true; the input reads as it did. -/
def lawS5485CWholeSpec : ChangeSpec := { name := "lawS5485CWhole", fn := fun _ => fun
  | [d1, d2, d3, d4] => { results := [.lit (.bool true)], args := [d1, d2, d3, d4] }
  | _ => none }
def lawS5485CWholeRow : OpenClaim := { program := "ybulkdiom", sum := "753142db4af91b724173dbe966ce0d1f77a10ccbff76607a8597efe6b081b4d1", func := "example.com/quorumslice/quorumslice.LawS5485CWhole", spec := "lawS5485CWhole", apart := false }
def LawS5485CWholeSaid : Prop := lawS5485CWholeRow.holds Yba.pinned (OpenSpec.ofChange lawS5485CWholeSpec)

/-- ITS FALSE NEIGHBOUR: 'it returns false'. Refute it at one input. -/
def lawS5485CWholeWrong : ChangeSpec := { name := "lawS5485CWhole", fn := fun _ => fun
  | [d1, d2, d3, d4] => { results := [.lit (.bool false)], args := [d1, d2, d3, d4] }
  | _ => none }
def LawS5485CWholeWrongFalsely : Prop := lawS5485CWholeRow.holds Yba.pinned (OpenSpec.ofChange lawS5485CWholeWrong)

end Rows
end Go.Proofs.Ybulkdiom
