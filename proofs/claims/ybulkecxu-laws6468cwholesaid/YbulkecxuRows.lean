/-
  No cell of these rows narrows 'for every input' (looked for: loops, veiled, ifaces, maps, wideKeys, modest, calm, conditions, laid).
  DERIVED. THE GIVEN ROWS OF THIS SEAT. 1 by the template 'for every input the law returns true; each argument reads behind the call as it read before'; 0 by the template 'total and deterministic' (their statements: YbulkecxuTotals.lean).
  GIVEN WITH THE SEED: the statements are not yours to turn. If you find one false, say at which input.
  Laid BY PROGRAM, IN A SANDBOX (cutbox-rows.mjs): the forced cells as the released guide's own fill.sh prints them over the translation 0b4e9c55513b2598… (all of the seat's roots in one cut). By AI agents, Wed Nov 11 2026. No macro, syntax, notation, axiom, sorry.
-/
import Derived.Test.YbulkecxuChecked
import GoSem.Claim
import GoSem.ClaimJoined
import GoSem.ClaimMapViews
import Derived.JoinedTies
import Derived.KernelRfl
namespace Go.Proofs.Ybulkecxu
/- THE CELL 'sum', in the pinned program and in every row, IS THE sha256 OF THE DUMP (.gsa) THAT YbulkecxuProg.lean LOADS. Nothing in Lean hashes anything: it is a label: what it is worth is what the hold of that sum in a sandbox is worth. -/
noncomputable def Yba.pinned : Pinned := { name := "ybulkecxu", sum := "0b4e9c55513b25983ff448a7503f1d195b720132c036857536b0394318cad67b", checked := Yba.checked }
namespace Rows
def none {H : Type} : Left H := { results := [], args := [] }

/-- 'ring.LawS6468CWhole': WHATEVER THE INPUT: true; the input reads as it did. -/
def lawS6468CWholeSpec : ChangeSpec := { name := "lawS6468CWhole", fn := fun _ => fun
  | [d1, d2, d3, d4] => { results := [.lit (.bool true)], args := [d1, d2, d3, d4] }
  | _ => none }
def lawS6468CWholeRow : OpenClaim := { program := "ybulkecxu", sum := "0b4e9c55513b25983ff448a7503f1d195b720132c036857536b0394318cad67b", func := "example.com/ringfinger/ringfinger/internal/ring.LawS6468CWhole", spec := "lawS6468CWhole", unfollowed := true, recurses := true, apart := false }
def LawS6468CWholeSaid : Prop := lawS6468CWholeRow.holds Yba.pinned (OpenSpec.ofChange lawS6468CWholeSpec)

/-- ITS FALSE NEIGHBOUR: 'it returns false'. Refute it at one input. -/
def lawS6468CWholeWrong : ChangeSpec := { name := "lawS6468CWhole", fn := fun _ => fun
  | [d1, d2, d3, d4] => { results := [.lit (.bool false)], args := [d1, d2, d3, d4] }
  | _ => none }
def LawS6468CWholeWrongFalsely : Prop := lawS6468CWholeRow.holds Yba.pinned (OpenSpec.ofChange lawS6468CWholeWrong)

end Rows
end Go.Proofs.Ybulkecxu
