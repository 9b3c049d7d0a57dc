/-
  DERIVED. GIVEN WITH THE SEED: THE CARDS: each row of YbulkectmFmtRows.lean that lists a variable, with what it lists TIED to the program's text (the seventh form; the later family's looks); each row that meets fmt, with fmt's text TOLD by the authors' own Lean function (tested against real Go, not proved from fmt's source: count such statements apart). THE CARD IS WHAT COUNTS. Prove the row's statement (the work); the ties are given (YbulkectmFmtTie.lean); close each card by the builder's one call (the guide's Derived/Test/ToyasCard.lean, 'card_holds'). Laid BY PROGRAM, IN A SANDBOX (cutbox-door.mjs). By AI agents, Wed Nov 11 2026. No macro, syntax, notation, axiom, sorry.
-/
import Derived.Test.YbulkectmFmtRows
import GoSem.ClaimSeven
namespace Go.Proofs.YbulkectmFmt
namespace Rows

/-- THE TOLD CARD OF 'graph.LawS6460BWhole'. -/
def lawS6460BWholeCard : Claim7 := { stood := { row := lawS6460BWholeRow, standIns := [], harness := (true, "68361fc33d481bdff64aacdd8b022aad562f24da210f7c744dadf1c1be528487"), looks := false }, told := true, goes := false }
def LawS6460BWholeToldSaid : Prop := Claim7.holds Ybaf.pinned (.plain (OpenSpec.ofChange lawS6460BWholeSpec)) lawS6460BWholeCard
/-- ITS FALSE NEIGHBOUR. Refute it at one input. -/
def LawS6460BWholeToldWrongFalsely : Prop := Claim7.holds Ybaf.pinned (.plain (OpenSpec.ofChange lawS6460BWholeWrong)) lawS6460BWholeCard
end Rows
end Go.Proofs.YbulkectmFmt
