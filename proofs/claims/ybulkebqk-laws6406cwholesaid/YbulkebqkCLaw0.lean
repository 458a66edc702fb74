/-
  The law's code from a place on; small facts on the schedules that it draws.
-/
import Derived.Test.YbulkebqkCLike
import Derived.Test.YbulkebqkCLeaveW
import Derived.Test.YbulkebqkCTxns
import Derived.Test.YbulkebqkCIdx33
import Derived.Test.YbulkebqkCEqualO
import Derived.Test.YbulkebqkCEqualS
namespace Go.Proofs.Ybulkebqk
open Go.RowKit
set_option linter.unusedVariables false

/-- What follows the first j statements of a sequence. -/
def after : Nat → Code → Code
  | 0, c => c
  | j + 1, .seq _ b => after j b
  | _, c => c
/-- The law's code behind its first j statements. -/
noncomputable def rest4 (j : Nat) : Code := after j (Yba.f4.body.getD .skip)
/-- A sequence's first statement. -/
def first : Code → Code
  | .seq a _ => a
  | c => c
/-- What the law is to end with. -/
def lawPost (B : Nat) (w0 : World) : Exit → Act → World → Prop := bodyPost Yba.prog Yba.f4 fun e w' => e = .returned (.bool true) ∧ Below B w0 w'

theorem small_mem {l : List OpV} (h : ∀ o, o ∈ l → -1000 ≤ o.t ∧ o.t ≤ 1000) : Small l := fun q hq => h _ (by rw [List.getD_eq_getElem?_getD, List.getElem?_eq_getElem hq]; simp)
theorem tOf_small (x : Int) : -1000 ≤ tOf x ∧ tOf x ≤ 1000 := by
  unfold tOf
  split
  · omega
  split
  · omega
  split
  · omega
  split <;> omega
theorem iOf_size (x : Int) : (iOf x).size ≤ 1 := by
  unfold iOf
  split
  · decide
  split
  · decide
  split <;> decide
theorem opsUp_small (f : Nat → Int × Int × Int) (n : Nat) : ∀ o, o ∈ opsUp f n → (-1000 ≤ o.t ∧ o.t ≤ 1000) ∧ o.i.size ≤ 1 := by
  intro o ho
  obtain ⟨i, _, rfl⟩ := List.mem_map.1 ho
  exact ⟨tOf_small _, iOf_size _⟩
end Go.Proofs.Ybulkebqk
