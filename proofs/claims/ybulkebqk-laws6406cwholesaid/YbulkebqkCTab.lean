/-
  Rows of integers and of Booleans as lists of cells; tables filled from the front; slices that came in (LawS6406CWhole's own copy: that claim imports none of LawS6406BWhole's texts but Parts and Slices).
-/
import Derived.Test.YbulkebqkSlices
namespace Go.Proofs.Ybulkebqk
open Go.RowKit
set_option linter.unusedVariables false

/-- Integers of a kind, as cells. -/
def ints (k : IntKind) (zs : List Int) : List Value := zs.map (Value.int k)
theorem ints_len (k : IntKind) (zs : List Int) : (ints k zs).length = zs.length := by simp [ints]
theorem ints_at (k : IntKind) (zs : List Int) (i : Nat) (h : i < zs.length) : (ints k zs)[i]? = some (.int k (zs.getD i 0)) := by
  simp [ints, List.getElem?_map, List.getElem?_eq_getElem h, List.getD_eq_getElem?_getD]
theorem ints_set (k : IntKind) (zs : List Int) (i : Nat) (z : Int) : (ints k zs).set i (.int k z) = ints k (zs.set i z) := by simp [ints, List.map_set]
theorem ints_one (k : IntKind) (zs : List Int) : ∀ u ∈ ints k zs, u.oneCell' = true := by
  intro u hu
  obtain ⟨z, _, rfl⟩ := List.mem_map.1 hu
  rfl
def bools (bs : List Bool) : List Value := bs.map Value.bool

section
variable {α : Type}
/-- N places, the first k of them filled by g. -/
def part (z : α) (N : Nat) (g : Nat → α) (k : Nat) : List α := (List.range N).map (fun j => if j < k then g j else z)
/-- N places filled by g. -/
def full (N : Nat) (g : Nat → α) : List α := (List.range N).map g
theorem part_len (z : α) (N : Nat) (g : Nat → α) (k : Nat) : (part z N g k).length = N := by simp [part]
theorem full_len (N : Nat) (g : Nat → α) : (full N g).length = N := by simp [full]
theorem part_zero (z : α) (N : Nat) (g : Nat → α) : part z N g 0 = List.replicate N z := by
  apply List.ext_getElem?; intro j
  simp only [part, List.getElem?_map, List.getElem?_replicate]
  by_cases h : j < N
  · rw [List.getElem?_range h, if_pos h]; simp
  · rw [List.getElem?_eq_none (by simp; omega), if_neg h]; rfl
theorem part_full (z : α) (N : Nat) (g : Nat → α) : part z N g N = full N g := by
  apply List.map_congr_left
  intro j hj
  rw [List.mem_range] at hj
  rw [if_pos hj]
theorem part_set (z : α) (N : Nat) (g : Nat → α) (k : Nat) : (part z N g k).set k (g k) = part z N g (k + 1) := by
  apply List.ext_getElem?; intro j
  by_cases hj : k = j
  · subst hj
    by_cases h : k < N
    · rw [List.getElem?_set_self (by rw [part_len]; exact h)]
      simp only [part, List.getElem?_map, List.getElem?_range h, Option.map_some]
      rw [if_pos (by omega)]
    · rw [List.getElem?_eq_none (by simp [part_len]; omega), List.getElem?_eq_none (by simp [part_len]; omega)]
  · rw [List.getElem?_set_ne hj]
    simp only [part, List.getElem?_map]
    by_cases h : j < N
    · rw [List.getElem?_range h]
      simp only [Option.map_some]
      by_cases h2 : j < k
      · rw [if_pos h2, if_pos (by omega)]
      · rw [if_neg h2, if_neg (by omega)]
    · rw [List.getElem?_eq_none (by simp; omega)]; rfl
theorem part_skip (z : α) (N : Nat) (g : Nat → α) (k : Nat) (h : g k = z) : part z N g (k + 1) = part z N g k := by
  apply List.map_congr_left
  intro j hj
  by_cases h2 : j < k
  · rw [if_pos h2, if_pos (by omega)]
  · rw [if_neg h2]
    by_cases h3 : j = k
    · subst h3; rw [if_pos (by omega)]; exact h
    · rw [if_neg (by omega)]
theorem full_getD (z : α) (N : Nat) (g : Nat → α) (k : Nat) (h : k < N) : (full N g).getD k z = g k := by
  simp [full, List.getD_eq_getElem?_getD, List.getElem?_range h]
end

/-- A slice of integers that came in: its cells, where it has any. -/
def ArgI (k : IntKind) (w : World) (a : Option Addr) (len : Nat) (f : Nat → Int) : Prop := 0 < len → ∃ b o, a = some ⟨b, o, none⟩ ∧ b < w.heap.size ∧ ∀ i, i < len → w.cell? ⟨b, o + i, none⟩ = some (.int k (f i))
def ArgB (w : World) (a : Option Addr) (len : Nat) (f : Nat → Bool) : Prop := 0 < len → ∃ b o, a = some ⟨b, o, none⟩ ∧ b < w.heap.size ∧ ∀ i, i < len → w.cell? ⟨b, o + i, none⟩ = some (.bool (f i))


theorem owns_same {w w' : World} {base : Nat} {e : TypeId} {size : Nat} {v : Value} {n : Nat} {xs : List Value} (h : w.ownsRow base e size v n xs) (hs : ∀ g, v.ownBlock = some g → w'.heap[g]? = w.heap[g]?) : w'.ownsRow base e size v n xs := by
  refine ⟨h.1, ?_⟩
  rcases h.2 with hn | ⟨g, cap, cur, rfl, hb, hgg, rest⟩
  · exact .inl hn
  · exact .inr ⟨g, cap, cur, rfl, hb, (hs g rfl).trans hgg, rest⟩

theorem owns_other {w : World} {base : Nat} {e : TypeId} {size : Nat} {v : Value} {n : Nat} {xs : List Value} (h : w.ownsRow base e size v n xs) (a : Addr) (u : Value) (ha : a.block < base) : (w.setCell a u).ownsRow base e size v n xs :=
  owns_same h fun g hg => Below.heap_setCell _ _ _ _ (by have := (h.lt g hg).1; omega)

theorem owns_below {B base : Nat} {e : TypeId} {size : Nat} {w w' : World} {v : Value} {n : Nat} {xs : List Value} (h : w.ownsRow base e size v n xs) (hb : Below w.heap.size w w') : w'.ownsRow base e size v n xs := owns_same h fun g hg => hb.block g (h.lt g hg).2

/-- A slice of which a row is owned. -/
theorem owns_form {w : World} {base n : Nat} {e : TypeId} {size : Nat} {v : Value} {xs : List Value} (h : w.ownsRow base e size v n xs) (hn : 0 < n) : ∃ g c, v = .slice (some ⟨g, 0, none⟩) n c ∧ base ≤ g := by
  rcases h.2 with ⟨_, h0⟩ | ⟨g, cap, cur, hv, hb, _⟩
  · omega
  · exact ⟨g, cap, hv, hb⟩

theorem news1 (W : World) (H : Nat) (hH : W.heap.size = H) (x : Value) (t : TypeId) : ∀ j u, [x][j]? = some u → (W.alloc (.cells #[x] t)).cell? ((⟨H, 0, none⟩ : Addr).add j) = some u := by
  subst hH
  exact World.news_of_block (MapKept.heap_alloc W _).1
end Go.Proofs.Ybulkebqk
