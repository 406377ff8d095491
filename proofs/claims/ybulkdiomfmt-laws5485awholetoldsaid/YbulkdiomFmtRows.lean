/-
  No cell of these rows narrows 'for every input' (looked for: loops, veiled, ifaces, maps, wideKeys, modest, calm, conditions, laid).
  DERIVED. THE GIVEN ROWS OF THIS SEAT. 1 by the template 'for every input the law returns true; each argument reads behind the call as it read before'; 0 by the template 'total and deterministic' (their statements: YbulkdiomFmtTotals.lean).
  GIVEN WITH THE SEED: the statements are not yours to turn. If you find one false, say at which input.
  Laid BY PROGRAM, IN A SANDBOX (cutbox-rows.mjs): the forced cells as the released guide's own fill.sh prints them over the translation 6f13d32ce234872a… (all of the seat's roots in one cut). By AI agents, Wed Nov 11 2026. No macro, syntax, notation, axiom, sorry.
-/
import Derived.Test.YbulkdiomFmtChecked
import GoSem.Claim
import GoSem.ClaimJoined
import GoSem.ClaimMapViews
import Derived.JoinedTies
import Derived.KernelRfl
namespace Go.Proofs.YbulkdiomFmt
/- THE CELL 'sum', in the pinned program and in every row, IS THE sha256 OF THE DUMP (.gsa) THAT YbulkdiomFmtProg.lean LOADS. Nothing in Lean hashes anything: it is a label: what it is worth is what the hold of that sum in a sandbox is worth. -/
noncomputable def Ybaf.pinned : Pinned := { name := "ybulkdiomfmt", sum := "6f13d32ce234872ac46e0c070cf3b7216c61c76a01531be2bafc17e23d71d3d1", checked := Ybaf.checked }
namespace Rows
def none {H : Type} : Left H := { results := [], args := [] }

/-- 'quorumslice.LawS5485AWhole': WHATEVER THE INPUT: true; the input reads as it did. -/
def lawS5485AWholeSpec : ChangeSpec := { name := "lawS5485AWhole", fn := fun _ => fun
  | [d1, d2] => { results := [.lit (.bool true)], args := [d1, d2] }
  | _ => none }
def lawS5485AWholeRow : OpenClaim := { program := "ybulkdiomfmt", sum := "6f13d32ce234872ac46e0c070cf3b7216c61c76a01531be2bafc17e23d71d3d1", func := "example.com/quorumslice/quorumslice.LawS5485AWhole", spec := "lawS5485AWhole", stops := ["fmt.errorf"], inPlace := ["fmt.errorf"], apart := false }
/-- NO THEOREM (fmt's text is open here; it may be false): for the released tool's asking of the row's closed facts alone. THE STATEMENT IS 'LawS5485AWholeToldSaid' (YbulkdiomFmtCards.lean). -/
def LawS5485AWholeFormAsk : Prop := lawS5485AWholeRow.holds Ybaf.pinned (OpenSpec.ofChange lawS5485AWholeSpec)

/-- ITS FALSE NEIGHBOUR: 'it returns false'. Refute it at one input. -/
def lawS5485AWholeWrong : ChangeSpec := { name := "lawS5485AWhole", fn := fun _ => fun
  | [d1, d2] => { results := [.lit (.bool false)], args := [d1, d2] }
  | _ => none }
def LawS5485AWholeWrongFormAsk : Prop := lawS5485AWholeRow.holds Ybaf.pinned (OpenSpec.ofChange lawS5485AWholeWrong)

end Rows
end Go.Proofs.YbulkdiomFmt
