/-
  No cell of these rows narrows 'for every input' (looked for: loops, veiled, ifaces, maps, wideKeys, modest, calm, conditions, laid).
  DERIVED. THE GIVEN ROWS OF THIS SEAT. 1 by the template 'for every input the law returns true; each argument reads behind the call as it read before'; 0 by the template 'total and deterministic' (their statements: YbulkebpiTotals.lean).
  GIVEN WITH THE SEED: the statements are not yours to turn. If you find one false, say at which input.
  Laid BY PROGRAM, IN A SANDBOX (cutbox-rows.mjs): the forced cells as the released guide's own fill.sh prints them over the translation ec128fcc3c3ea59d… (all of the seat's roots in one cut). By AI agents, Wed Nov 11 2026. No macro, syntax, notation, axiom, sorry.
-/
import Derived.Test.YbulkebpiChecked
import GoSem.Claim
import GoSem.ClaimJoined
import GoSem.ClaimMapViews
import Derived.JoinedTies
import Derived.KernelRfl
namespace Go.Proofs.Ybulkebpi
/- THE CELL 'sum', in the pinned program and in every row, IS THE sha256 OF THE DUMP (.gsa) THAT YbulkebpiProg.lean LOADS. Nothing in Lean hashes anything: it is a label: what it is worth is what the hold of that sum in a sandbox is worth. -/
noncomputable def Yba.pinned : Pinned := { name := "ybulkebpi", sum := "ec128fcc3c3ea59d74270b30695a97c5e8002810118ee6bbce3f1dc8788e78eb", checked := Yba.checked }
namespace Rows
def none {H : Type} : Left H := { results := [], args := [] }

/-- 'mooring.LawS6404AWhole': WHATEVER THE INPUT: true; the input reads as it did. -/
def lawS6404AWholeSpec : ChangeSpec := { name := "lawS6404AWhole", fn := fun _ => fun
  | [d1, d2, d3] => { results := [.lit (.bool true)], args := [d1, d2, d3] }
  | _ => none }
def lawS6404AWholeRow : OpenClaim := { program := "ybulkebpi", sum := "ec128fcc3c3ea59d74270b30695a97c5e8002810118ee6bbce3f1dc8788e78eb", func := "example.com/mooring/mooring.LawS6404AWhole", spec := "lawS6404AWhole", apart := false }
def LawS6404AWholeSaid : Prop := lawS6404AWholeRow.holds Yba.pinned (OpenSpec.ofChange lawS6404AWholeSpec)

/-- ITS FALSE NEIGHBOUR: 'it returns false'. Refute it at one input. -/
def lawS6404AWholeWrong : ChangeSpec := { name := "lawS6404AWhole", fn := fun _ => fun
  | [d1, d2, d3] => { results := [.lit (.bool false)], args := [d1, d2, d3] }
  | _ => none }
def LawS6404AWholeWrongFalsely : Prop := lawS6404AWholeRow.holds Yba.pinned (OpenSpec.ofChange lawS6404AWholeWrong)

end Rows
end Go.Proofs.Ybulkebpi
