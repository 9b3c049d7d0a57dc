/-
  No cell of these rows narrows 'for every input' (looked for: loops, veiled, ifaces, maps, wideKeys, modest, calm, conditions, laid).
  DERIVED. THE GIVEN ROWS OF THIS SEAT. 1 by the template 'for every input the law returns true; each argument reads behind the call as it read before'; 0 by the template 'total and deterministic' (their statements: YbulkecweFmtTotals.lean).
  GIVEN WITH THE SEED: the statements are not yours to turn. If you find one false, say at which input.
  Laid BY PROGRAM, IN A SANDBOX (cutbox-rows.mjs): the forced cells as the released guide's own fill.sh prints them over the translation 70a282126b49e84b… (all of the seat's roots in one cut). By AI agents, Wed Nov 11 2026. No macro, syntax, notation, axiom, sorry.
-/
import Derived.Test.YbulkecweFmtChecked
import GoSem.Claim
import GoSem.ClaimJoined
import GoSem.ClaimMapViews
import Derived.JoinedTies
import Derived.KernelRfl
namespace Go.Proofs.YbulkecweFmt
/- THE CELL 'sum', in the pinned program and in every row, IS THE sha256 OF THE DUMP (.gsa) THAT YbulkecweFmtProg.lean LOADS. Nothing in Lean hashes anything: it is a label: what it is worth is what the hold of that sum in a sandbox is worth. -/
noncomputable def Ybaf.pinned : Pinned := { name := "ybulkecwefmt", sum := "70a282126b49e84b711dc17ca3950844956dd8e23471e49e26f6e559a9bf8c1b", checked := Ybaf.checked }
namespace Rows
def none {H : Type} : Left H := { results := [], args := [] }

/-- 'wasm.LawS6465BWhole': WHATEVER THE INPUT: true; the input reads as it did. -/
def lawS6465BWholeSpec : ChangeSpec := { name := "lawS6465BWhole", fn := fun _ => fun
  | [d1, d2, d3, d4, d5] => { results := [.lit (.bool true)], args := [d1, d2, d3, d4, d5] }
  | _ => none }
def lawS6465BWholeRow : OpenClaim := { program := "ybulkecwefmt", sum := "70a282126b49e84b711dc17ca3950844956dd8e23471e49e26f6e559a9bf8c1b", func := "example.com/hawser/hawser/internal/wasm.LawS6465BWhole", spec := "lawS6465BWhole", stops := ["fmt.errorf"], inPlace := ["fmt.errorf"], apart := false }
/-- NO THEOREM (fmt's text is open here; it may be false): for the released tool's asking of the row's closed facts alone. THE STATEMENT IS 'LawS6465BWholeToldSaid' (YbulkecweFmtCards.lean). -/
def LawS6465BWholeFormAsk : Prop := lawS6465BWholeRow.holds Ybaf.pinned (OpenSpec.ofChange lawS6465BWholeSpec)

/-- ITS FALSE NEIGHBOUR: 'it returns false'. Refute it at one input. -/
def lawS6465BWholeWrong : ChangeSpec := { name := "lawS6465BWhole", fn := fun _ => fun
  | [d1, d2, d3, d4, d5] => { results := [.lit (.bool false)], args := [d1, d2, d3, d4, d5] }
  | _ => none }
def LawS6465BWholeWrongFormAsk : Prop := lawS6465BWholeRow.holds Ybaf.pinned (OpenSpec.ofChange lawS6465BWholeWrong)

end Rows
end Go.Proofs.YbulkecweFmt
