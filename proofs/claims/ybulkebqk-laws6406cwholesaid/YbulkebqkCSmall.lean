/-
  The small functions of LawS6406CWhole: what a drawn operation stands for.
-/
import Derived.Test.YbulkebqkSlices
namespace Go.Proofs.Ybulkebqk
open Go.RowKit
set_option linter.unusedVariables false

/-- The kind, the transaction and the item that a byte stands for. -/
def kOf (x : Int) : Int := if x % 5 = 0 then 0 else if x % 5 = 1 then 1 else if x % 5 = 2 then 2 else if x % 5 = 3 then 3 else 7
def tOf (x : Int) : Int := if x % 5 = 0 then 0 else if x % 5 = 1 then 1 else if x % 5 = 2 then 2 else if x % 5 = 3 then -3 else 40
def iOf (x : Int) : ByteArray := if x % 4 = 0 then { data := #[120] } else if x % 4 = 1 then { data := #[121] } else if x % 4 = 2 then { data := #[122] } else { data := #[] }

theorem kind36 (a : Int) (w : World) (h0 : 0 ≤ a) (h1 : a ≤ 255) : Calls Yba.prog 36 #[.int .u8 a] w fun e w' => e = .returned (.int .u8 (kOf a)) ∧ w' = w := by
  have hr : a % 5 = 0 ∨ a % 5 = 1 ∨ a % 5 = 2 ∨ a % 5 = 3 ∨ a % 5 = 4 := by omega
  unfold kOf
  rcases hr with h | h | h | h | h <;>
  · go_enter Yba.func36, Yba.ntmps36
    go_wp2
    all_goals go_ret
    all_goals exact ⟨by simp, rfl⟩

theorem txn37 (a : Int) (w : World) (h0 : 0 ≤ a) (h1 : a ≤ 255) : Calls Yba.prog 37 #[.int .u8 a] w fun e w' => e = .returned (.int .i64 (tOf a)) ∧ w' = w := by
  have hr : a % 5 = 0 ∨ a % 5 = 1 ∨ a % 5 = 2 ∨ a % 5 = 3 ∨ a % 5 = 4 := by omega
  unfold tOf
  rcases hr with h | h | h | h | h <;>
  · go_enter Yba.func37, Yba.ntmps37
    go_wp2
    all_goals go_ret
    all_goals exact ⟨by simp, rfl⟩

theorem item38 (a : Int) (w : World) (h0 : 0 ≤ a) (h1 : a ≤ 255) : Calls Yba.prog 38 #[.int .u8 a] w fun e w' => e = .returned (.string (iOf a)) ∧ w' = w := by
  have hr : a % 4 = 0 ∨ a % 4 = 1 ∨ a % 4 = 2 ∨ a % 4 = 3 := by omega
  unfold iOf
  rcases hr with h | h | h | h <;>
  · go_enter Yba.func38, Yba.ntmps38
    go_wp2
    all_goals go_ret
    all_goals exact ⟨by simp, rfl⟩

/-- Does an operation of this kind touch an item? -/
def acc (k : Int) : Bool := k == 0 || k == 1

theorem acc30 (k : Int) (w : World) : Calls Yba.prog 30 #[.int .u8 k] w fun e w' => e = .returned (.bool (acc k)) ∧ w' = w := by
  unfold acc
  by_cases h : k = 0
  · go_enter Yba.func30, Yba.ntmps30
    go_wp2
    all_goals go_ret
    all_goals exact ⟨by simp [h], rfl⟩
  · go_enter Yba.func30, Yba.ntmps30
    go_wp2
    all_goals go_ret
    all_goals exact ⟨by simp, rfl⟩

theorem acc49 (k : Int) (w : World) : Calls Yba.prog 49 #[.int .u8 k] w fun e w' => e = .returned (.bool (acc k)) ∧ w' = w := by
  unfold acc
  by_cases h : k = 0
  · go_enter Yba.func49, Yba.ntmps49
    go_wp2
    all_goals go_ret
    all_goals exact ⟨by simp [h], rfl⟩
  · go_enter Yba.func49, Yba.ntmps49
    go_wp2
    all_goals go_ret
    all_goals exact ⟨by simp, rfl⟩
end Go.Proofs.Ybulkebqk
