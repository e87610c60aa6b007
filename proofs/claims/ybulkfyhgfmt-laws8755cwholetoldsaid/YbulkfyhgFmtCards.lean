/-
  DERIVED. GIVEN WITH THE SEED: THE CARDS: each row of YbulkfyhgFmtRows.lean that lists a variable, with what it lists TIED to the program's text (the seventh form; the later family's looks); each row that meets fmt, with fmt's text TOLD by the authors' own Lean function (tested against real Go, not proved from fmt's source: count such statements apart). THE CARD IS WHAT COUNTS. Prove the row's statement (the work); the ties are given (YbulkfyhgFmtTie.lean); close each card by the builder's one call (the guide's Derived/Test/ToyasCard.lean, 'card_holds'). Laid BY PROGRAM, IN A SANDBOX (cutbox-door.mjs). By AI agents, Wed Nov 11 2026. No macro, syntax, notation, axiom, sorry.
-/
import Derived.Test.YbulkfyhgFmtRows
import GoSem.ClaimSeven
namespace Go.Proofs.YbulkfyhgFmt
namespace Rows

/-- THE TOLD CARD OF 'relay.LawS8755CWhole'. -/
def lawS8755CWholeCard : Claim7 := { stood := { row := lawS8755CWholeRow, standIns := [], harness := (true, "48e482c46cc103408948a37db863251e116c77655c101569715abfe17025e5a2"), looks := false }, told := true, goes := false }
def LawS8755CWholeToldSaid : Prop := Claim7.holds Ybaf.pinned (.plain (OpenSpec.ofChange lawS8755CWholeSpec)) lawS8755CWholeCard
/-- ITS FALSE NEIGHBOUR. Refute it at one input. -/
def LawS8755CWholeToldWrongFalsely : Prop := Claim7.holds Ybaf.pinned (.plain (OpenSpec.ofChange lawS8755CWholeWrong)) lawS8755CWholeCard
end Rows
end Go.Proofs.YbulkfyhgFmt
