/-
  The plain part of the law's loops 3 and 4: what the tables hold as they are filled.
-/
import Derived.Test.YbulkebqkCPairs0
namespace Go.Proofs.Ybulkebqk
open Go.RowKit
set_option linter.unusedVariables false

/-- pairStart as it is filled. -/
def psUp (T I : List Nat) (n t : Nat) : List Nat := (List.range (n + 1)).map fun i => if i < t then cnt T I i else 0
def stUp (T : List Nat) (n t : Nat) : List Nat := (List.range (n + 1)).map fun i => if i < t then start T i else 0
def wpUp (T I : List Nat) (t k : Nat) : List Nat := (List.range T.length).map fun j => if T.getD j 0 < t ∨ (T.getD j 0 = t ∧ j < k) then pair T I j else 0
theorem psUp_len (T I : List Nat) (n t : Nat) : (psUp T I n t).length = n + 1 := by simp [psUp]
theorem stUp_len (T : List Nat) (n t : Nat) : (stUp T n t).length = n + 1 := by simp [stUp]
theorem wpUp_len (T I : List Nat) (t k : Nat) : (wpUp T I t k).length = T.length := by simp [wpUp]
theorem map_zero (n : Nat) (f : Nat → Nat) (h : ∀ i, i < n → f i = 0) : (List.range n).map f = List.replicate n 0 := by
  apply List.ext_getElem
  · simp
  · intro i h1 h2
    simp at h1 ⊢
    exact h i h1
theorem psUp_zero (T I : List Nat) (n : Nat) : psUp T I n 0 = List.replicate (n + 1) 0 := map_zero _ _ fun i _ => by simp
theorem stUp_zero (T : List Nat) (n : Nat) : stUp T n 0 = List.replicate (n + 1) 0 := map_zero _ _ fun i _ => by simp
theorem wpUp_zero (T I : List Nat) : wpUp T I 0 0 = List.replicate T.length 0 := map_zero _ _ fun i _ => by simp
theorem psUp_step (T I : List Nat) (n t : Nat) : (psUp T I n t).set t (cnt T I t) = psUp T I n (t + 1) := by
  refine rmap_set _ _ _ _ _ ?_ fun i hi => ?_
  · rw [if_pos (by omega)]
  · by_cases h : i < t
    · rw [if_pos h, if_pos (by omega)]
    · rw [if_neg h, if_neg (by omega)]
theorem stUp_step (T : List Nat) (n t : Nat) : (stUp T n t).set t (start T t) = stUp T n (t + 1) := by
  refine rmap_set _ _ _ _ _ ?_ fun i hi => ?_
  · rw [if_pos (by omega)]
  · by_cases h : i < t
    · rw [if_pos h, if_pos (by omega)]
    · rw [if_neg h, if_neg (by omega)]
theorem psUp_all (T I : List Nat) (n : Nat) : psUp T I n (n + 1) = pairStarts T I n := by
  apply List.map_congr_left
  intro i hi
  rw [if_pos (List.mem_range.1 hi)]
theorem stUp_all (T : List Nat) (n : Nat) : stUp T n (n + 1) = starts T n := by
  apply List.map_congr_left
  intro i hi
  rw [if_pos (List.mem_range.1 hi)]
theorem wpUp_yes (T I : List Nat) (t k : Nat) (h : T.getD k 0 = t) : (wpUp T I t k).set k (pair T I k) = wpUp T I t (k + 1) := by
  refine rmap_set _ _ _ _ _ ?_ fun i hi => ?_
  · rw [if_pos (.inr ⟨h, by omega⟩)]
  · by_cases h' : T.getD i 0 < t ∨ (T.getD i 0 = t ∧ i < k)
    · rw [if_pos h', if_pos (by omega)]
    · rw [if_neg h', if_neg (by omega)]
theorem wpUp_no (T I : List Nat) (t k : Nat) (h : T.getD k 0 ≠ t) : wpUp T I t (k + 1) = wpUp T I t k := by
  apply List.map_congr_left
  intro i hi
  by_cases e : i = k
  · subst e
    by_cases h' : T.getD i 0 < t
    · rw [if_pos (.inl h'), if_pos (.inl h')]
    · rw [if_neg (by omega), if_neg (by omega)]
  · by_cases h' : T.getD i 0 < t ∨ (T.getD i 0 = t ∧ i < k)
    · rw [if_pos h', if_pos (by omega)]
    · rw [if_neg h', if_neg (by omega)]
theorem wpUp_next (T I : List Nat) (t : Nat) : wpUp T I (t + 1) 0 = wpUp T I t T.length := by
  apply List.map_congr_left
  intro i hi
  have hi := List.mem_range.1 hi
  by_cases h' : T.getD i 0 < t ∨ (T.getD i 0 = t ∧ i < T.length)
  · rw [if_pos h', if_pos (by omega)]
  · rw [if_neg h', if_neg (by omega)]
theorem wpUp_all (T I : List Nat) (n : Nat) (h : ∀ j, j < T.length → T.getD j 0 < n) : wpUp T I n 0 = (List.range T.length).map (pair T I) := by
  apply List.map_congr_left
  intro i hi
  rw [if_pos (.inl (h i (List.mem_range.1 hi)))]
/-- list as it is filled. -/
def liUp (T : List Nat) (t k : Nat) : List Nat := flat (pos T) t ++ posUp T t k
theorem liUp_start (T : List Nat) : liUp T 0 0 = [] := rfl
theorem liUp_yes (T : List Nat) (t k : Nat) (h : T.getD k 0 = t) : liUp T t (k + 1) = liUp T t k ++ [k] := by rw [liUp, posUp_yes T t k h, ← List.append_assoc]; rfl
theorem liUp_no (T : List Nat) (t k : Nat) (h : T.getD k 0 ≠ t) : liUp T t (k + 1) = liUp T t k := by rw [liUp, posUp_no T t k h]; rfl
theorem liUp_next (T : List Nat) (t : Nat) : liUp T (t + 1) 0 = liUp T t T.length := by rw [liUp, liUp, flat_succ, posUp_zero, List.append_nil]; rfl
theorem liUp_zero (T : List Nat) (t : Nat) : liUp T t 0 = flat (pos T) t := by rw [liUp, posUp_zero, List.append_nil]
theorem posUp_len_le (T : List Nat) (t k : Nat) : (posUp T t k).length ≤ k := by
  refine Nat.le_trans (List.length_filter_le _ _) ?_
  simp
theorem liUp_len (T : List Nat) (t k : Nat) (hk : k ≤ T.length) : (liUp T t k).length ≤ T.length := by
  have h1 := start_le T (t + 1)
  rw [start_succ] at h1
  have h2 := (posUp_prefix T t hk).length_le
  rw [liUp, List.length_append]
  have : (pos T t).length = (posUp T t T.length).length := rfl
  unfold start at h1
  omega
theorem seen_len_le (T I : List Nat) (t k : Nat) : (seen T I t k).length ≤ k := by
  refine Nat.le_trans (nub_len _) ?_
  rw [List.length_map]
  exact posUp_len_le T t k
theorem cnt_succ (T I : List Nat) (t : Nat) : cnt T I (t + 1) = cnt T I t + (seen T I t T.length).length := rfl
theorem cnt_le_len (T I : List Nat) (t : Nat) : cnt T I t ≤ T.length := Nat.le_trans (cnt_le T I t) (start_le T t)
/-- The pair where the item was met before, and where it is new. -/
theorem pair_old (T I : List Nat) (t k : Nat) (hk : k < T.length) (h : T.getD k 0 = t) (hm : I.getD k 0 ∈ seen T I t k) : seen T I t (k + 1) = seen T I t k ∧ pair T I k = cnt T I t + (seen T I t k).idxOf (I.getD k 0) := by
  have e : seen T I t (k + 1) = seen T I t k := by rw [seen_yes T I t k h, nub1, if_pos hm]
  exact ⟨e, by rw [pair_now T I t k hk h, e]⟩
theorem pair_new (T I : List Nat) (t k : Nat) (hk : k < T.length) (h : T.getD k 0 = t) (hm : I.getD k 0 ∉ seen T I t k) : seen T I t (k + 1) = seen T I t k ++ [I.getD k 0] ∧ pair T I k = cnt T I t + (seen T I t k).length := by
  have e : seen T I t (k + 1) = seen T I t k ++ [I.getD k 0] := by rw [seen_yes T I t k h, nub1, if_neg hm]
  refine ⟨e, ?_⟩
  rw [pair_now T I t k hk h, e, List.idxOf_append, if_neg hm]
  simp
end Go.Proofs.Ybulkebqk
