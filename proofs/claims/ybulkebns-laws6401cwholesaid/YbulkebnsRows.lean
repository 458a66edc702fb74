/-
  No cell of these rows narrows 'for every input' (looked for: loops, veiled, ifaces, maps, wideKeys, modest, calm, conditions, laid).
  DERIVED. THE GIVEN ROWS OF THIS SEAT. 1 by the template 'for every input the law returns true; each argument reads behind the call as it read before'; 0 by the template 'total and deterministic' (their statements: YbulkebnsTotals.lean).
  GIVEN WITH THE SEED: the statements are not yours to turn. If you find one false, say at which input.
  Laid BY PROGRAM, IN A SANDBOX (cutbox-rows.mjs): the forced cells as the released guide's own fill.sh prints them over the translation dfbc07640878c847… (all of the seat's roots in one cut). By AI agents, Wed Nov 11 2026. No macro, syntax, notation, axiom, sorry.
-/
import Derived.Test.YbulkebnsChecked
import GoSem.Claim
import GoSem.ClaimJoined
import GoSem.ClaimMapViews
import Derived.JoinedTies
import Derived.KernelRfl
namespace Go.Proofs.Ybulkebns
/- THE CELL 'sum', in the pinned program and in every row, IS THE sha256 OF THE DUMP (.gsa) THAT YbulkebnsProg.lean LOADS. Nothing in Lean hashes anything: it is a label: what it is worth is what the hold of that sum in a sandbox is worth. -/
noncomputable def Yba.pinned : Pinned := { name := "ybulkebns", sum := "dfbc07640878c847f9ed92d23aafd261c17b48e512d05c6fd374f2b335267389", checked := Yba.checked }
namespace Rows
def none {H : Type} : Left H := { results := [], args := [] }

/-- 'datadir.LawS6401CWhole': WHATEVER THE INPUT: true; the input reads as it did. -/
def lawS6401CWholeSpec : ChangeSpec := { name := "lawS6401CWhole", fn := fun _ => fun
  | [d1, d2, d3] => { results := [.lit (.bool true)], args := [d1, d2, d3] }
  | _ => none }
def lawS6401CWholeRow : OpenClaim := { program := "ybulkebns", sum := "dfbc07640878c847f9ed92d23aafd261c17b48e512d05c6fd374f2b335267389", func := "example.com/nearbatch/nearbatch/internal/datadir.LawS6401CWhole", spec := "lawS6401CWhole", apart := false }
def LawS6401CWholeSaid : Prop := lawS6401CWholeRow.holds Yba.pinned (OpenSpec.ofChange lawS6401CWholeSpec)

/-- ITS FALSE NEIGHBOUR: 'it returns false'. Refute it at one input. -/
def lawS6401CWholeWrong : ChangeSpec := { name := "lawS6401CWhole", fn := fun _ => fun
  | [d1, d2, d3] => { results := [.lit (.bool false)], args := [d1, d2, d3] }
  | _ => none }
def LawS6401CWholeWrongFalsely : Prop := lawS6401CWholeRow.holds Yba.pinned (OpenSpec.ofChange lawS6401CWholeWrong)

end Rows
end Go.Proofs.Ybulkebns
