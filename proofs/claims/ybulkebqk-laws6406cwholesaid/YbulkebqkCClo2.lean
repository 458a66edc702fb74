/-
  indexLike's function literal: does the operation come next in its transaction's program?
-/
import Derived.Test.YbulkebqkCProgs
namespace Go.Proofs.Ybulkebqk
open Go.RowKit
set_option linter.unusedVariables false
set_option linter.unusedSimpArgs false

theorem progUp_app (l : List OpV) (t : Int) (k : Nat) (hk : k < l.length) (h : ((l.getD k default).t == t && acc (l.getD k default).k) = true) : progUp l t (k + 1) = progUp l t k ++ [⟨(l.getD k default).k, 0, (l.getD k default).i⟩] := by
  rw [progUp, take_succ_getD l k hk, List.filter_append, List.map_append, List.filter_cons, h]
  rfl
theorem progUp_step (l : List OpV) (t : Int) (k : Nat) : progUp l t k <+: progUp l t (k + 1) := by
  rcases Nat.lt_or_ge k l.length with hk | hk
  · cases h : ((l.getD k default).t == t && acc (l.getD k default).k) with
    | true => rw [progUp_app l t k hk h]; exact List.prefix_append _ _
    | false => rw [progUp_no l t k hk h]; exact List.prefix_refl _
  · have : l.take (k + 1) = l.take k := by rw [List.take_of_length_le hk, List.take_of_length_le (by omega)]
    rw [progUp, progUp, this]; exact List.prefix_refl _
theorem progUp_pre (l : List OpV) (t : Int) (k : Nat) : ∀ d, progUp l t k <+: progUp l t (k + d)
  | 0 => List.prefix_refl _
  | d + 1 => (progUp_pre l t k d).trans (progUp_step l t (k + d))
theorem progUp_whole (l : List OpV) (t : Int) {k : Nat} (h : k ≤ l.length) : progUp l t k <+: progOf l t := by
  obtain ⟨d, hd⟩ := Nat.le.dest h
  rw [progOf, ← hd]
  exact progUp_pre l t k d
/-- How many of each transaction's reads and writes have come. -/
def placed (xs : List Int) (l : List OpV) (q : Nat) : List Nat := xs.map fun t => (progUp l t q).length
theorem placed_len (xs : List Int) (l : List OpV) (q : Nat) : (placed xs l q).length = xs.length := by simp [placed]
theorem placed_at (xs : List Int) (l : List OpV) (q : Nat) {t : Int} (ht : t ∈ xs) : (placed xs l q).getD (xs.idxOf t) 0 = (progUp l t q).length := by
  have h := List.idxOf_lt_length_iff.2 ht
  rw [placed, List.getD_eq_getElem?_getD, List.getElem?_map, List.getElem?_eq_getElem h, List.getElem_idxOf h]
  rfl
theorem placed_no (xs : List Int) (l : List OpV) (q : Nat) (hq : q < l.length) (h : acc (l.getD q default).k = false) : placed xs l (q + 1) = placed xs l q := by
  apply List.map_congr_left
  intro t _
  rw [progUp_no l t q hq (by rw [h]; simp)]
theorem placed_yes (xs : List Int) (hx : xs.Nodup) (l : List OpV) (q : Nat) (hq : q < l.length) (h : acc (l.getD q default).k = true) (hm : (l.getD q default).t ∈ xs) : placed xs l (q + 1) = (placed xs l q).set (xs.idxOf (l.getD q default).t) ((progUp l (l.getD q default).t q).length + 1) := by
  have hi := List.idxOf_lt_length_iff.2 hm
  apply List.ext_getElem
  · simp [placed]
  · intro j h1 h2
    have hj : j < xs.length := by rw [placed_len] at h1; exact h1
    rw [List.getElem_set]
    by_cases e : xs.idxOf (l.getD q default).t = j
    · rw [if_pos e]
      have ex : xs[j] = (l.getD q default).t := by subst e; exact List.getElem_idxOf hi
      simp only [placed, List.getElem_map, ex]
      rw [progUp_app l _ q hq (by rw [h]; simp)]
      simp
    · rw [if_neg e]
      simp only [placed, List.getElem_map]
      rw [progUp_no l xs[j] q hq]
      have hne : (l.getD q default).t ≠ xs[j] := fun e' => e (by rw [e']; exact List.Nodup.idxOf_getElem hx j hj)
      have : ((l.getD q default).t == xs[j]) = false := by simpa using hne
      rw [this]; rfl

/-- What indexLike's literal keeps. -/
def J2 (la l : List OpV) (xs : List Int) (w0 : World) (X0 N1 PL pb xb : Nat) (vi : Value) (q : Nat) (w : World) (v1 : Value) : Prop :=
  v1 = vi ∧ Blk w PL 3 (nats (placed xs l q)) ∧ Blk w pb 41 [.slice (some ⟨PL, 0, none⟩) xs.length xs.length] ∧ Blk w xb 66 [.pointer (some ⟨X0, 0, none⟩)] ∧ (∀ b, b < N1 → w.heap[b]? = w0.heap[b]?) ∧ ∀ t, t ∈ xs → progUp l t q <+: progOf la t
end Go.Proofs.Ybulkebqk
