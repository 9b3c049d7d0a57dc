/-
  No cell of these rows narrows 'for every input' (looked for: loops, veiled, ifaces, maps, wideKeys, modest, calm, conditions, laid).
  DERIVED. THE GIVEN ROWS OF THIS SEAT. 3 by the template 'for every input the law returns true; each argument reads behind the call as it read before'; 0 by the template 'total and deterministic' (their statements: YbulkecuoTotals.lean).
  GIVEN WITH THE SEED: the statements are not yours to turn. If you find one false, say at which input.
  Laid BY PROGRAM, IN A SANDBOX (cutbox-rows.mjs): the forced cells as the released guide's own fill.sh prints them over the translation d294aa5e7d6f1c01… (all of the seat's roots in one cut). By AI agents, Wed Nov 11 2026. No macro, syntax, notation, axiom, sorry.
-/
import Derived.Test.YbulkecuoChecked
import GoSem.Claim
import GoSem.ClaimJoined
import GoSem.ClaimMapViews
import Derived.JoinedTies
import Derived.KernelRfl
namespace Go.Proofs.Ybulkecuo
/- THE CELL 'sum', in the pinned program and in every row, IS THE sha256 OF THE DUMP (.gsa) THAT YbulkecuoProg.lean LOADS. Nothing in Lean hashes anything: it is a label: what it is worth is what the hold of that sum in a sandbox is worth. -/
noncomputable def Yba.pinned : Pinned := { name := "ybulkecuo", sum := "d294aa5e7d6f1c0145adb8943c53075a33ea10830ab21f95039bcd7aa8a54902", checked := Yba.checked }
namespace Rows
def none {H : Type} : Left H := { results := [], args := [] }

/-- 'knotless.LawS6462AWhole': WHATEVER THE INPUT: true; the input reads as it did. -/
def lawS6462AWholeSpec : ChangeSpec := { name := "lawS6462AWhole", fn := fun _ => fun
  | [d1, d2, d3, d4, d5] => { results := [.lit (.bool true)], args := [d1, d2, d3, d4, d5] }
  | _ => none }
def lawS6462AWholeRow : OpenClaim := { program := "ybulkecuo", sum := "d294aa5e7d6f1c0145adb8943c53075a33ea10830ab21f95039bcd7aa8a54902", func := "example.com/knotless/knotless.LawS6462AWhole", spec := "lawS6462AWhole", plainKeys := false, apart := false }
def LawS6462AWholeSaid : Prop := lawS6462AWholeRow.holds Yba.pinned (OpenSpec.ofChange lawS6462AWholeSpec)

/-- ITS FALSE NEIGHBOUR: 'it returns false'. Refute it at one input. -/
def lawS6462AWholeWrong : ChangeSpec := { name := "lawS6462AWhole", fn := fun _ => fun
  | [d1, d2, d3, d4, d5] => { results := [.lit (.bool false)], args := [d1, d2, d3, d4, d5] }
  | _ => none }
def LawS6462AWholeWrongFalsely : Prop := lawS6462AWholeRow.holds Yba.pinned (OpenSpec.ofChange lawS6462AWholeWrong)

/-- 'knotless.LawS6462BWhole': WHATEVER THE INPUT: true; the input reads as it did. -/
def lawS6462BWholeSpec : ChangeSpec := { name := "lawS6462BWhole", fn := fun _ => fun
  | [d1, d2, d3, d4] => { results := [.lit (.bool true)], args := [d1, d2, d3, d4] }
  | _ => none }
def lawS6462BWholeRow : OpenClaim := { program := "ybulkecuo", sum := "d294aa5e7d6f1c0145adb8943c53075a33ea10830ab21f95039bcd7aa8a54902", func := "example.com/knotless/knotless.LawS6462BWhole", spec := "lawS6462BWhole", unfollowed := true, recurses := true, plainKeys := false, apart := false }
def LawS6462BWholeSaid : Prop := lawS6462BWholeRow.holds Yba.pinned (OpenSpec.ofChange lawS6462BWholeSpec)

/-- ITS FALSE NEIGHBOUR: 'it returns false'. Refute it at one input. -/
def lawS6462BWholeWrong : ChangeSpec := { name := "lawS6462BWhole", fn := fun _ => fun
  | [d1, d2, d3, d4] => { results := [.lit (.bool false)], args := [d1, d2, d3, d4] }
  | _ => none }
def LawS6462BWholeWrongFalsely : Prop := lawS6462BWholeRow.holds Yba.pinned (OpenSpec.ofChange lawS6462BWholeWrong)

/-- 'knotless.LawS6462CWhole': WHATEVER THE INPUT: true; the input reads as it did. -/
def lawS6462CWholeSpec : ChangeSpec := { name := "lawS6462CWhole", fn := fun _ => fun
  | [d1, d2, d3, d4, d5, d6] => { results := [.lit (.bool true)], args := [d1, d2, d3, d4, d5, d6] }
  | _ => none }
def lawS6462CWholeRow : OpenClaim := { program := "ybulkecuo", sum := "d294aa5e7d6f1c0145adb8943c53075a33ea10830ab21f95039bcd7aa8a54902", func := "example.com/knotless/knotless.LawS6462CWhole", spec := "lawS6462CWhole", unfollowed := true, recurses := true, plainKeys := false, apart := false }
def LawS6462CWholeSaid : Prop := lawS6462CWholeRow.holds Yba.pinned (OpenSpec.ofChange lawS6462CWholeSpec)

/-- ITS FALSE NEIGHBOUR: 'it returns false'. Refute it at one input. -/
def lawS6462CWholeWrong : ChangeSpec := { name := "lawS6462CWhole", fn := fun _ => fun
  | [d1, d2, d3, d4, d5, d6] => { results := [.lit (.bool false)], args := [d1, d2, d3, d4, d5, d6] }
  | _ => none }
def LawS6462CWholeWrongFalsely : Prop := lawS6462CWholeRow.holds Yba.pinned (OpenSpec.ofChange lawS6462CWholeWrong)

end Rows
end Go.Proofs.Ybulkecuo
