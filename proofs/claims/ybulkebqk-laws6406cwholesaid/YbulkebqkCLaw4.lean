/-
  Finding a number in a list of numbers.
-/
import Derived.Test.YbulkebqkCLaw3
namespace Go.Proofs.Ybulkebqk
open Go.RowKit
theorem owns_len {w : World} {base n n' size : Nat} {t : TypeId} {v : Value} {xs : List Value} (h : w.ownsRow base t size v n xs) (e : n = n') : w.ownsRow base t size v n' xs := e ▸ h
theorem idx_nats (xs : List Nat) (x : Nat) : (xs.map fun z : Nat => (z : Int)).idxOf (x : Int) = xs.idxOf x := by
  induction xs with
  | nil => rfl
  | cons a l ih =>
    rw [List.map_cons, List.idxOf_cons, List.idxOf_cons, ih]
    by_cases h : a = x
    · subst h; simp
    · have h1 : (a == x) = false := by simpa using h
      have h2 : ((a : Int) == (x : Int)) = false := by simp only [beq_eq_false_iff_ne]; omega
      rw [h1, h2]
theorem find_nats (xs : List Nat) (x : Nat) : find (xs.map fun z : Nat => (z : Int)) (x : Int) = if x ∈ xs then (xs.idxOf x : Int) else -1 := by
  have e : ((x : Int) ∈ xs.map fun z : Nat => (z : Int)) ↔ x ∈ xs := by
    rw [List.mem_map]
    constructor
    · rintro ⟨y, hy, he⟩
      have : y = x := by omega
      exact this ▸ hy
    · intro h; exact ⟨x, h, rfl⟩
  rw [find, idx_nats]
  by_cases h : x ∈ xs
  · rw [if_pos h, if_pos (e.2 h)]
  · rw [if_neg h, if_neg (fun h' => h (e.1 h'))]
end Go.Proofs.Ybulkebqk
