/-
  No cell of these rows narrows 'for every input' (looked for: loops, veiled, ifaces, maps, wideKeys, modest, calm, conditions, laid).
  DERIVED. THE GIVEN ROWS OF THIS SEAT. 2 by the template 'for every input the law returns true; each argument reads behind the call as it read before'; 0 by the template 'total and deterministic' (their statements: YbulkebqkTotals.lean).
  GIVEN WITH THE SEED: the statements are not yours to turn. If you find one false, say at which input.
  Laid BY PROGRAM, IN A SANDBOX (cutbox-rows.mjs): the forced cells as the released guide's own fill.sh prints them over the translation a58d4617496bc4a1… (all of the seat's roots in one cut). By AI agents, Wed Nov 11 2026. No macro, syntax, notation, axiom, sorry.
-/
import Derived.Test.YbulkebqkChecked
import GoSem.Claim
import GoSem.ClaimJoined
import GoSem.ClaimMapViews
import Derived.JoinedTies
import Derived.KernelRfl
namespace Go.Proofs.Ybulkebqk
/- THE CELL 'sum', in the pinned program and in every row, IS THE sha256 OF THE DUMP (.gsa) THAT YbulkebqkProg.lean LOADS. Nothing in Lean hashes anything: it is a label: what it is worth is what the hold of that sum in a sandbox is worth. -/
noncomputable def Yba.pinned : Pinned := { name := "ybulkebqk", sum := "a58d4617496bc4a16a28508439ddf7f3857337e21b414d96ec3afcdaa330d4c3", checked := Yba.checked }
namespace Rows
def none {H : Type} : Left H := { results := [], args := [] }

/-- 'interleave.LawS6406BWhole': WHATEVER THE INPUT: true; the input reads as it did. -/
def lawS6406BWholeSpec : ChangeSpec := { name := "lawS6406BWhole", fn := fun _ => fun
  | [d1, d2, d3, d4, d5, d6, d7, d8, d9, d10, d11, d12] => { results := [.lit (.bool true)], args := [d1, d2, d3, d4, d5, d6, d7, d8, d9, d10, d11, d12] }
  | _ => none }
def lawS6406BWholeRow : OpenClaim := { program := "ybulkebqk", sum := "a58d4617496bc4a16a28508439ddf7f3857337e21b414d96ec3afcdaa330d4c3", func := "example.com/interleave/interleave.LawS6406BWhole", spec := "lawS6406BWhole", apart := false }
def LawS6406BWholeSaid : Prop := lawS6406BWholeRow.holds Yba.pinned (OpenSpec.ofChange lawS6406BWholeSpec)

/-- ITS FALSE NEIGHBOUR: 'it returns false'. Refute it at one input. -/
def lawS6406BWholeWrong : ChangeSpec := { name := "lawS6406BWhole", fn := fun _ => fun
  | [d1, d2, d3, d4, d5, d6, d7, d8, d9, d10, d11, d12] => { results := [.lit (.bool false)], args := [d1, d2, d3, d4, d5, d6, d7, d8, d9, d10, d11, d12] }
  | _ => none }
def LawS6406BWholeWrongFalsely : Prop := lawS6406BWholeRow.holds Yba.pinned (OpenSpec.ofChange lawS6406BWholeWrong)

/-- 'interleave.LawS6406CWhole': WHATEVER THE INPUT: true; the input reads as it did. -/
def lawS6406CWholeSpec : ChangeSpec := { name := "lawS6406CWhole", fn := fun _ => fun
  | [d1, d2, d3, d4, d5] => { results := [.lit (.bool true)], args := [d1, d2, d3, d4, d5] }
  | _ => none }
def lawS6406CWholeRow : OpenClaim := { program := "ybulkebqk", sum := "a58d4617496bc4a16a28508439ddf7f3857337e21b414d96ec3afcdaa330d4c3", func := "example.com/interleave/interleave.LawS6406CWhole", spec := "lawS6406CWhole", unfollowed := true, recurses := true, apart := false }
def LawS6406CWholeSaid : Prop := lawS6406CWholeRow.holds Yba.pinned (OpenSpec.ofChange lawS6406CWholeSpec)

/-- ITS FALSE NEIGHBOUR: 'it returns false'. Refute it at one input. -/
def lawS6406CWholeWrong : ChangeSpec := { name := "lawS6406CWhole", fn := fun _ => fun
  | [d1, d2, d3, d4, d5] => { results := [.lit (.bool false)], args := [d1, d2, d3, d4, d5] }
  | _ => none }
def LawS6406CWholeWrongFalsely : Prop := lawS6406CWholeRow.holds Yba.pinned (OpenSpec.ofChange lawS6406CWholeWrong)

end Rows
end Go.Proofs.Ybulkebqk
