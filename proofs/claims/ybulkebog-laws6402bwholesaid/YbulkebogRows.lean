/-
  No cell of these rows narrows 'for every input' (looked for: loops, veiled, ifaces, maps, wideKeys, modest, calm, conditions, laid).
  DERIVED. THE GIVEN ROWS OF THIS SEAT. 1 by the template 'for every input the law returns true; each argument reads behind the call as it read before'; 0 by the template 'total and deterministic' (their statements: YbulkebogTotals.lean).
  GIVEN WITH THE SEED: the statements are not yours to turn. If you find one false, say at which input.
  Laid BY PROGRAM, IN A SANDBOX (cutbox-rows.mjs): the forced cells as the released guide's own fill.sh prints them over the translation ce225490cd8db315… (all of the seat's roots in one cut). By AI agents, Wed Nov 11 2026. No macro, syntax, notation, axiom, sorry.
-/
import Derived.Test.YbulkebogChecked
import GoSem.Claim
import GoSem.ClaimJoined
import GoSem.ClaimMapViews
import Derived.JoinedTies
import Derived.KernelRfl
namespace Go.Proofs.Ybulkebog
/- THE CELL 'sum', in the pinned program and in every row, IS THE sha256 OF THE DUMP (.gsa) THAT YbulkebogProg.lean LOADS. Nothing in Lean hashes anything: it is a label: what it is worth is what the hold of that sum in a sandbox is worth. -/
noncomputable def Yba.pinned : Pinned := { name := "ybulkebog", sum := "ce225490cd8db3152462f43ce4055f1e7c2290e522096b747ff8bbdbf621b3b6", checked := Yba.checked }
namespace Rows
def none {H : Type} : Left H := { results := [], args := [] }

/-- 'mandate.LawS6402BWhole': WHATEVER THE INPUT: true; the input reads as it did. -/
def lawS6402BWholeSpec : ChangeSpec := { name := "lawS6402BWhole", fn := fun _ => fun
  | [d1, d2, d3, d4, d5, d6] => { results := [.lit (.bool true)], args := [d1, d2, d3, d4, d5, d6] }
  | _ => none }
def lawS6402BWholeRow : OpenClaim := { program := "ybulkebog", sum := "ce225490cd8db3152462f43ce4055f1e7c2290e522096b747ff8bbdbf621b3b6", func := "example.com/mandate/mandate.LawS6402BWhole", spec := "lawS6402BWhole", apart := false }
def LawS6402BWholeSaid : Prop := lawS6402BWholeRow.holds Yba.pinned (OpenSpec.ofChange lawS6402BWholeSpec)

/-- ITS FALSE NEIGHBOUR: 'it returns false'. Refute it at one input. -/
def lawS6402BWholeWrong : ChangeSpec := { name := "lawS6402BWhole", fn := fun _ => fun
  | [d1, d2, d3, d4, d5, d6] => { results := [.lit (.bool false)], args := [d1, d2, d3, d4, d5, d6] }
  | _ => none }
def LawS6402BWholeWrongFalsely : Prop := lawS6402BWholeRow.holds Yba.pinned (OpenSpec.ofChange lawS6402BWholeWrong)

end Rows
end Go.Proofs.Ybulkebog
