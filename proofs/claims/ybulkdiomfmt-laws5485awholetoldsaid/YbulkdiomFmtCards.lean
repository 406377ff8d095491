/-
  DERIVED. GIVEN WITH THE SEED: THE CARDS: each row of YbulkdiomFmtRows.lean that lists a variable, with what it lists TIED to the program's text (the seventh form; the later family's looks); each row that meets fmt, with fmt's text TOLD by the authors' own Lean function (tested against real Go, not proved from fmt's source: count such statements apart). THE CARD IS WHAT COUNTS. Prove the row's statement (the work); the ties are given (YbulkdiomFmtTie.lean); close each card by the builder's one call (the guide's Derived/Test/ToyasCard.lean, 'card_holds'). Laid BY PROGRAM, IN A SANDBOX (cutbox-door.mjs). By AI agents, Wed Nov 11 2026. No macro, syntax, notation, axiom, sorry.
-/
import Derived.Test.YbulkdiomFmtRows
import GoSem.ClaimSeven
namespace Go.Proofs.YbulkdiomFmt
namespace Rows

/-- THE TOLD CARD OF 'quorumslice.LawS5485AWhole'. -/
def lawS5485AWholeCard : Claim7 := { stood := { row := lawS5485AWholeRow, standIns := [], harness := (true, "7746bfe662a95e811f381d80e8359db023d55047dbc5e8dbe17784660d7b075a"), looks := false }, told := true, goes := false }
def LawS5485AWholeToldSaid : Prop := Claim7.holds Ybaf.pinned (.plain (OpenSpec.ofChange lawS5485AWholeSpec)) lawS5485AWholeCard
/-- ITS FALSE NEIGHBOUR. Refute it at one input. -/
def LawS5485AWholeToldWrongFalsely : Prop := Claim7.holds Ybaf.pinned (.plain (OpenSpec.ofChange lawS5485AWholeWrong)) lawS5485AWholeCard
end Rows
end Go.Proofs.YbulkdiomFmt
