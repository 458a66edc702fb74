/-
  Tables filled from the front; the slices that came in; the log's cells.
-/
import Derived.Test.YbulkebqkUnite
namespace Go.Proofs.Ybulkebqk
open Go.RowKit
set_option linter.unusedVariables false

section
variable {α : Type}
/-- N places, the first k of them filled by g. -/
def part (z : α) (N : Nat) (g : Nat → α) (k : Nat) : List α := (List.range N).map (fun j => if j < k then g j else z)
/-- N places filled by g. -/
def full (N : Nat) (g : Nat → α) : List α := (List.range N).map g
theorem part_len (z : α) (N : Nat) (g : Nat → α) (k : Nat) : (part z N g k).length = N := by simp [part]
theorem full_len (N : Nat) (g : Nat → α) : (full N g).length = N := by simp [full]
theorem part_zero (z : α) (N : Nat) (g : Nat → α) : part z N g 0 = List.replicate N z := by
  apply List.ext_getElem?; intro j
  simp only [part, List.getElem?_map, List.getElem?_replicate]
  by_cases h : j < N
  · rw [List.getElem?_range h, if_pos h]; simp
  · rw [List.getElem?_eq_none (by simp; omega), if_neg h]; rfl
theorem part_full (z : α) (N : Nat) (g : Nat → α) : part z N g N = full N g := by
  apply List.map_congr_left
  intro j hj
  rw [List.mem_range] at hj
  rw [if_pos hj]
theorem part_set (z : α) (N : Nat) (g : Nat → α) (k : Nat) : (part z N g k).set k (g k) = part z N g (k + 1) := by
  apply List.ext_getElem?; intro j
  by_cases hj : k = j
  · subst hj
    by_cases h : k < N
    · rw [List.getElem?_set_self (by rw [part_len]; exact h)]
      simp only [part, List.getElem?_map, List.getElem?_range h, Option.map_some]
      rw [if_pos (by omega)]
    · rw [List.getElem?_eq_none (by simp [part_len]; omega), List.getElem?_eq_none (by simp [part_len]; omega)]
  · rw [List.getElem?_set_ne hj]
    simp only [part, List.getElem?_map]
    by_cases h : j < N
    · rw [List.getElem?_range h]
      simp only [Option.map_some]
      by_cases h2 : j < k
      · rw [if_pos h2, if_pos (by omega)]
      · rw [if_neg h2, if_neg (by omega)]
    · rw [List.getElem?_eq_none (by simp; omega)]; rfl
theorem part_skip (z : α) (N : Nat) (g : Nat → α) (k : Nat) (h : g k = z) : part z N g (k + 1) = part z N g k := by
  apply List.map_congr_left
  intro j hj
  by_cases h2 : j < k
  · rw [if_pos h2, if_pos (by omega)]
  · rw [if_neg h2]
    by_cases h3 : j = k
    · subst h3; rw [if_pos (by omega)]; exact h
    · rw [if_neg (by omega)]
theorem full_getD (z : α) (N : Nat) (g : Nat → α) (k : Nat) (h : k < N) : (full N g).getD k z = g k := by
  simp [full, List.getD_eq_getElem?_getD, List.getElem?_range h]
end

/-- A slice of integers that came in: its cells, where it has any. -/
def ArgI (k : IntKind) (w : World) (a : Option Addr) (len : Nat) (f : Nat → Int) : Prop := 0 < len → ∃ b o, a = some ⟨b, o, none⟩ ∧ b < w.heap.size ∧ ∀ i, i < len → w.cell? ⟨b, o + i, none⟩ = some (.int k (f i))
def ArgB (w : World) (a : Option Addr) (len : Nat) (f : Nat → Bool) : Prop := 0 < len → ∃ b o, a = some ⟨b, o, none⟩ ∧ b < w.heap.size ∧ ∀ i, i < len → w.cell? ⟨b, o + i, none⟩ = some (.bool (f i))

theorem ix_one {T E : TypeId} {len cap b o : Nat} (hT : Yba.prog.underlying T = some (.slice E)) (hE : (Yba.prog.info? E).map (·.size) = some 1) (j : Int) (jn : Nat) (hj : j = (jn : Int)) (hl : jn < len) (wx : World) :
    (Instr.indexAt T (.slice (some ⟨b, o, none⟩) len cap) (.int .i64 j)).run Yba.prog wx = .ok (.pointer (some ⟨b, o + jn, none⟩)) wx := by
  subst hj
  obtain ⟨i, hi, hs⟩ := Option.map_eq_some_iff.1 hE
  have h1 : (0 : Int) ≤ (jn : Int) ∧ (jn : Int) < (len : Int) := ⟨by omega, by omega⟩
  simp [Instr.indexAt, run_underlying hT, asIntOf, sizeOf, typeInfo, hi, hs, hl, Addr.add]

/-- The log as it was laid. -/
def cL (f : Nat → Int) : Nat → List Value
  | 0 => []
  | k + 1 => cL f k ++ [.int .i64 (k : Nat), .int .u64 (f k)]
theorem cL_len (f : Nat → Int) (k : Nat) : (cL f k).length = k * 2 := by
  induction k with
  | zero => rfl
  | succ k ih => simp [cL, ih]; omega
end Go.Proofs.Ybulkebqk
