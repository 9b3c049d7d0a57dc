/-
  No cell of these rows narrows 'for every input' (looked for: loops, veiled, ifaces, maps, wideKeys, modest, calm, conditions, laid).
  DERIVED. THE GIVEN ROWS OF THIS SEAT. 1 by the template 'for every input the law returns true; each argument reads behind the call as it read before'; 0 by the template 'total and deterministic' (their statements: YbulkectmFmtTotals.lean).
  GIVEN WITH THE SEED: the statements are not yours to turn. If you find one false, say at which input.
  Laid BY PROGRAM, IN A SANDBOX (cutbox-rows.mjs): the forced cells as the released guide's own fill.sh prints them over the translation 32949ca687057f7f… (all of the seat's roots in one cut). By AI agents, Wed Nov 11 2026. No macro, syntax, notation, axiom, sorry.
-/
import Derived.Test.YbulkectmFmtChecked
import GoSem.Claim
import GoSem.ClaimJoined
import GoSem.ClaimMapViews
import Derived.JoinedTies
import Derived.KernelRfl
namespace Go.Proofs.YbulkectmFmt
/- THE CELL 'sum', in the pinned program and in every row, IS THE sha256 OF THE DUMP (.gsa) THAT YbulkectmFmtProg.lean LOADS. Nothing in Lean hashes anything: it is a label: what it is worth is what the hold of that sum in a sandbox is worth. -/
noncomputable def Ybaf.pinned : Pinned := { name := "ybulkectmfmt", sum := "32949ca687057f7f30ffcccead044d6ad535727acb49cdb9ff33c4b348aecdf3", checked := Ybaf.checked }
namespace Rows
def none {H : Type} : Left H := { results := [], args := [] }

/-- 'graph.LawS6460BWhole': WHATEVER THE INPUT: true; the input reads as it did. -/
def lawS6460BWholeSpec : ChangeSpec := { name := "lawS6460BWhole", fn := fun _ => fun
  | [d1, d2, d3, d4, d5] => { results := [.lit (.bool true)], args := [d1, d2, d3, d4, d5] }
  | _ => none }
def lawS6460BWholeRow : OpenClaim := { program := "ybulkectmfmt", sum := "32949ca687057f7f30ffcccead044d6ad535727acb49cdb9ff33c4b348aecdf3", func := "example.com/cellwarden/cellwarden/internal/graph.LawS6460BWhole", spec := "lawS6460BWhole", stops := ["fmt.errorf"], inPlace := ["fmt.errorf"], unfollowed := true, recurses := true, apart := false }
/-- NO THEOREM (fmt's text is open here; it may be false): for the released tool's asking of the row's closed facts alone. THE STATEMENT IS 'LawS6460BWholeToldSaid' (YbulkectmFmtCards.lean). -/
def LawS6460BWholeFormAsk : Prop := lawS6460BWholeRow.holds Ybaf.pinned (OpenSpec.ofChange lawS6460BWholeSpec)

/-- ITS FALSE NEIGHBOUR: 'it returns false'. Refute it at one input. -/
def lawS6460BWholeWrong : ChangeSpec := { name := "lawS6460BWhole", fn := fun _ => fun
  | [d1, d2, d3, d4, d5] => { results := [.lit (.bool false)], args := [d1, d2, d3, d4, d5] }
  | _ => none }
def LawS6460BWholeWrongFormAsk : Prop := lawS6460BWholeRow.holds Ybaf.pinned (OpenSpec.ofChange lawS6460BWholeWrong)

end Rows
end Go.Proofs.YbulkectmFmt
