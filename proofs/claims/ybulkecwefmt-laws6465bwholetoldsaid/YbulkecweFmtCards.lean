/-
  DERIVED. GIVEN WITH THE SEED: THE CARDS: each row of YbulkecweFmtRows.lean that lists a variable, with what it lists TIED to the program's text (the seventh form; the later family's looks); each row that meets fmt, with fmt's text TOLD by the authors' own Lean function (tested against real Go, not proved from fmt's source: count such statements apart). THE CARD IS WHAT COUNTS. Prove the row's statement (the work); the ties are given (YbulkecweFmtTie.lean); close each card by the builder's one call (the guide's Derived/Test/ToyasCard.lean, 'card_holds'). Laid BY PROGRAM, IN A SANDBOX (cutbox-door.mjs). By AI agents, Wed Nov 11 2026. No macro, syntax, notation, axiom, sorry.
-/
import Derived.Test.YbulkecweFmtRows
import GoSem.ClaimSeven
namespace Go.Proofs.YbulkecweFmt
namespace Rows

/-- THE TOLD CARD OF 'wasm.LawS6465BWhole'. -/
def lawS6465BWholeCard : Claim7 := { stood := { row := lawS6465BWholeRow, standIns := [], harness := (true, "1662630952d084bc9ed2bc3f501cad731f9c9cecbc9c0679a0d480e1254dd9cc"), looks := false }, told := true, goes := false }
def LawS6465BWholeToldSaid : Prop := Claim7.holds Ybaf.pinned (.plain (OpenSpec.ofChange lawS6465BWholeSpec)) lawS6465BWholeCard
/-- ITS FALSE NEIGHBOUR. Refute it at one input. -/
def LawS6465BWholeToldWrongFalsely : Prop := Claim7.holds Ybaf.pinned (.plain (OpenSpec.ofChange lawS6465BWholeWrong)) lawS6465BWholeCard
end Rows
end Go.Proofs.YbulkecweFmt
