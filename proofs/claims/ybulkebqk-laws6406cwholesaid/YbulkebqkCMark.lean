/-
  The plain part of numberTransactions' table: which numbers are there, and the place of each.
-/
import Derived.Test.YbulkebqkCNum
namespace Go.Proofs.Ybulkebqk
set_option linter.unusedVariables false

/-- The place of x in xs, 0 where it is not there. -/
def idx0 (xs : List Int) (x : Int) : Int := if x ∈ xs then (xs.idxOf x : Int) else 0

/-- Is x + j the number of an operation of l? -/
def mk (l : List OpV) (x : Int) (j : Nat) : Bool := l.any fun o => o.t == x + j
/-- The numbers below x + i that are there, ascending. -/
def xsUp (l : List OpV) (x : Int) (i : Nat) : List Int := ((List.range i).filter (mk l x)).map fun j : Nat => x + (j : Int)
/-- The table when k operations have been marked; when its first i places have been numbered. -/
def marks (l : List OpV) (x : Int) (m k : Nat) : List Int := (List.range m).map fun j => if mk (l.take k) x j then 1 else 0
def tabUp (l : List OpV) (x : Int) (m i : Nat) : List Int := (List.range m).map fun j => if mk l x j then (if j < i then ((xsUp l x j).length : Int) else 1) else 0

theorem marks_len (l : List OpV) (x : Int) (m k : Nat) : (marks l x m k).length = m := by simp [marks]
theorem tabUp_len (l : List OpV) (x : Int) (m i : Nat) : (tabUp l x m i).length = m := by simp [tabUp]

theorem marks_zero (l : List OpV) (x : Int) (m : Nat) : marks l x m 0 = List.replicate m 0 := by
  apply List.ext_getElem (by simp [marks])
  intro i h1 h2
  simp [marks, mk]

theorem marks_succ (l : List OpV) (x : Int) (m k q : Nat) (hk : k < l.length) (hq : (l.getD k default).t = x + (q : Int)) (hqm : q < m) : (marks l x m k).set q 1 = marks l x m (k + 1) := by
  have ht : l.take (k + 1) = l.take k ++ [l.getD k default] := by
    rw [List.take_add_one, List.getD_eq_getElem?_getD, List.getElem?_eq_getElem hk]; simp
  apply List.ext_getElem (by simp [marks])
  intro j h1 h2
  have hj : j < m := by simpa [marks] using h2
  rw [List.getElem_set]
  simp only [marks, List.getElem_map, List.getElem_range, ht, mk, List.any_append, List.any_cons, List.any_nil, Bool.or_false, hq]
  by_cases e : q = j
  · subst e; simp
  · have : ¬ (x + (q : Int) = x + (j : Int)) := by omega
    simp [e, this]

theorem marks_all (l : List OpV) (x : Int) (m : Nat) : marks l x m l.length = tabUp l x m 0 := by
  simp [marks, tabUp]

theorem tabUp_at (l : List OpV) (x : Int) (m i : Nat) (hi : i < m) : (tabUp l x m i).getD i 0 = if mk l x i then 1 else 0 := by
  rw [List.getD_eq_getElem?_getD, List.getElem?_eq_getElem (by rw [tabUp_len]; exact hi)]
  simp [tabUp]

theorem tabUp_yes (l : List OpV) (x : Int) (m i : Nat) (hi : i < m) (h : mk l x i = true) : (tabUp l x m i).set i ((xsUp l x i).length : Int) = tabUp l x m (i + 1) := by
  apply List.ext_getElem (by simp [tabUp])
  intro j h1 h2
  rw [List.getElem_set]
  simp only [tabUp, List.getElem_map, List.getElem_range]
  by_cases e : i = j
  · subst e; simp [h]
  · rw [if_neg e]
    by_cases hj : j < i
    · rw [if_pos hj, if_pos (show j < i + 1 by omega)]
    · rw [if_neg hj, if_neg (show ¬ j < i + 1 by omega)]

theorem tabUp_no (l : List OpV) (x : Int) (m i : Nat) (h : mk l x i = false) : tabUp l x m i = tabUp l x m (i + 1) := by
  apply List.map_congr_left
  intro j hj
  by_cases e : j = i
  · subst e; simp [h]
  · by_cases hj : j < i
    · rw [if_pos hj, if_pos (show j < i + 1 by omega)]
    · rw [if_neg hj, if_neg (show ¬ j < i + 1 by omega)]

theorem xsUp_yes (l : List OpV) (x : Int) (i : Nat) (h : mk l x i = true) : xsUp l x (i + 1) = xsUp l x i ++ [x + (i : Int)] := by
  simp [xsUp, List.range_succ, h]
theorem xsUp_no (l : List OpV) (x : Int) (i : Nat) (h : mk l x i = false) : xsUp l x (i + 1) = xsUp l x i := by
  simp [xsUp, List.range_succ, h]
theorem xsUp_mem (l : List OpV) (x : Int) (i : Nat) (z : Int) : z ∈ xsUp l x i ↔ ∃ j : Nat, j < i ∧ mk l x j = true ∧ x + (j : Int) = z := by
  simp [xsUp, and_assoc]
theorem xsUp_asc (l : List OpV) (x : Int) : ∀ i, (xsUp l x i).Pairwise (· < ·)
  | 0 => by simp [xsUp]
  | i + 1 => by
    cases h : mk l x i with
    | false => rw [xsUp_no l x i h]; exact xsUp_asc l x i
    | true =>
      rw [xsUp_yes l x i h]
      refine List.pairwise_append.2 ⟨xsUp_asc l x i, by simp, ?_⟩
      intro a ha b hb
      obtain ⟨j, hj, _, rfl⟩ := (xsUp_mem l x i a).1 ha
      obtain rfl := List.mem_singleton.1 hb
      omega
theorem xsUp_len (l : List OpV) (x : Int) (i : Nat) : (xsUp l x i).length ≤ i := by
  simp only [xsUp, List.length_map]
  exact Nat.le_trans (List.length_filter_le _ _) (by simp)

theorem xsUp_split (l : List OpV) (x : Int) (j : Nat) (h : mk l x j = true) : ∀ m, j < m → ∃ r, xsUp l x m = xsUp l x j ++ (x + (j : Int)) :: r
  | 0, hm => by omega
  | m + 1, hm => by
    by_cases e : j = m
    · subst e; exact ⟨[], xsUp_yes l x j h⟩
    · obtain ⟨r, hr⟩ := xsUp_split l x j h m (by omega)
      cases h' : mk l x m with
      | false => exact ⟨r, by rw [xsUp_no l x m h', hr]⟩
      | true => exact ⟨r ++ [x + (m : Int)], by rw [xsUp_yes l x m h', hr]; simp⟩

theorem tabUp_all (l : List OpV) (x : Int) (m : Nat) : tabUp l x m m = (List.range m).map fun j : Nat => idx0 (xsUp l x m) (x + (j : Int)) := by
  apply List.map_congr_left
  intro j hj
  have hj' : j < m := List.mem_range.1 hj
  cases h : mk l x j with
  | false =>
    have : ¬ (x + (j : Int) ∈ xsUp l x m) := by
      rw [xsUp_mem]
      rintro ⟨q, _, hq, e⟩
      have : q = j := by omega
      subst this; rw [h] at hq; cases hq
    simp [idx0, this]
  | true =>
    have hm : x + (j : Int) ∈ xsUp l x m := (xsUp_mem l x m _).2 ⟨j, hj', h, rfl⟩
    obtain ⟨r, hr⟩ := xsUp_split l x j h m hj'
    have hno : x + (j : Int) ∉ xsUp l x j := by
      rw [xsUp_mem]; rintro ⟨q, hq, _, e⟩; omega
    simp only [if_pos hj', idx0, if_pos hm, if_true]
    rw [hr, List.idxOf_append, if_neg hno]
    simp

theorem xsUp_tx (l : List OpV) (x : Int) (m : Nat) (h : ∀ o ∈ l, x ≤ o.t ∧ o.t < x + (m : Int)) : Tx l (xsUp l x m) := by
  refine ⟨xsUp_asc l x m, fun z => ?_⟩
  rw [xsUp_mem]
  constructor
  · rintro ⟨j, hj, hm, rfl⟩
    obtain ⟨o, ho, e⟩ := List.any_eq_true.1 hm
    exact ⟨o, ho, by simpa using e⟩
  · rintro ⟨o, ho, rfl⟩
    obtain ⟨h1, h2⟩ := h o ho
    refine ⟨(o.t - x).toNat, by omega, List.any_eq_true.2 ⟨o, ho, ?_⟩, by omega⟩
    simp; omega
end Go.Proofs.Ybulkebqk
