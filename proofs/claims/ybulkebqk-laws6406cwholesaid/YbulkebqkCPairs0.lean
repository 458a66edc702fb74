/-
  The plain part of numberPairs: what its tables hold when the first r places of transaction t are gone through.
-/
import Derived.Test.YbulkebqkCIop
namespace Go.Proofs.Ybulkebqk
set_option linter.unusedVariables false

theorem getD_set {α : Type} (l : List α) (i j : Nat) (x z : α) (hi : i < l.length) : (l.set i x).getD j z = if i = j then x else l.getD j z := by
  by_cases h : i = j
  · subst h; rw [if_pos rfl, List.getD_eq_getElem?_getD, List.getElem?_set_self hi]; rfl
  · rw [if_neg h, List.getD_eq_getElem?_getD, List.getElem?_set_ne h, ← List.getD_eq_getElem?_getD]

/-- The items that transaction t has reached with its first r places. -/
def seenR (T I : List Nat) (t r : Nat) : List Nat := nub (((pos T t).take r).map fun j => I.getD j 0)
theorem take_succ_at (l : List Nat) (r : Nat) (h : r < l.length) : l.take (r + 1) = l.take r ++ [l.getD r 0] := by
  rw [List.take_add_one, List.getD_eq_getElem?_getD, List.getElem?_eq_getElem h]; simp
theorem seenR_zero (T I : List Nat) (t : Nat) : seenR T I t 0 = [] := by simp [seenR, nub]
theorem seenR_succ (T I : List Nat) (t r : Nat) (h : r < (pos T t).length) : seenR T I t (r + 1) = nub1 (seenR T I t r) (I.getD ((pos T t).getD r 0) 0) := by
  rw [seenR, take_succ_at _ _ h, List.map_append]
  exact nub_snoc _ _
theorem seenR_all (T I : List Nat) (t : Nat) : seenR T I t (pos T t).length = seen T I t T.length := by rw [seenR, List.take_length]; rfl
theorem seenR_pre (T I : List Nat) (t : Nat) {r s : Nat} (h : r ≤ s) : seenR T I t r <+: seenR T I t s := by
  have : (pos T t).take s = (pos T t).take r ++ ((pos T t).take s).drop r := by
    have e : ((pos T t).take s).take r = (pos T t).take r := by rw [List.take_take]; congr 1; omega
    rw [← e, List.take_append_drop]
  rw [seenR, seenR, this, List.map_append]
  exact nub_pre _ _
theorem seenR_pre_all (T I : List Nat) (t r : Nat) : seenR T I t r <+: seen T I t T.length := by
  rw [← seenR_all]
  rcases Nat.le_total r (pos T t).length with h | h
  · exact seenR_pre T I t h
  · have : seenR T I t r = seenR T I t (pos T t).length := by rw [seenR, seenR, List.take_of_length_le h, List.take_length]
    rw [this]; exact List.prefix_refl _
theorem pos_at (T : List Nat) (t r : Nat) (h : r < (pos T t).length) : (pos T t).getD r 0 < T.length ∧ T.getD ((pos T t).getD r 0) 0 = t := by
  have hm : (pos T t).getD r 0 ∈ pos T t := by rw [List.getD_eq_getElem?_getD, List.getElem?_eq_getElem h]; simp
  exact (posUp_mem T t T.length _).1 hm
theorem pair_seenR (T I : List Nat) (t r j : Nat) (h : r < (pos T t).length) (hj : j = (pos T t).getD r 0) : pair T I j = cnt T I t + (seenR T I t (r + 1)).idxOf (I.getD j 0) := by
  obtain ⟨h1, h2⟩ := pos_at T t r h
  rw [← hj] at h1 h2
  rw [pair, h2, idx_pre (seenR_pre_all T I t (r + 1))]
  refine nub_mem _ _ (List.mem_map.2 ⟨j, ?_, rfl⟩)
  rw [take_succ_at _ _ h, ← hj]; simp

structure PSt (T I : List Nat) (os : List IOp) (ny t r : Nat) (R : List Int) (PO : List Nat) (cur : List IOp) : Prop where
  lR : R.length = ny
  lP : PO.length = ny
  le : ∀ x, x < ny → R.getD x 0 ≤ (t : Int)
  eq : ∀ x, x < ny → (R.getD x 0 = (t : Int) ↔ x ∈ seenR T I t r)
  po : ∀ x, x < ny → x ∈ seenR T I t r → PO.getD x 0 = cnt T I t + (seenR T I t r).idxOf x
  lc : cur.length = os.length
  same : ∀ j, j < os.length → (cur.getD j default).k = (os.getD j default).k ∧ (cur.getD j default).t = (os.getD j default).t ∧ (cur.getD j default).x = (os.getD j default).x
  done : ∀ j, j < os.length → (T.getD j 0 < t ∨ j ∈ (pos T t).take r) → (cur.getD j default).p = pair T I j

theorem PSt.start (T I : List Nat) (os : List IOp) (ny : Nat) : PSt T I os ny 0 0 (List.replicate ny (-1)) (List.replicate ny 0) os := by
  refine ⟨by simp, by simp, fun x hx => ?_, fun x hx => ?_, fun x hx h => ?_, rfl, fun j hj => ⟨rfl, rfl, rfl⟩, fun j hj h => ?_⟩
  · simp [List.getD_eq_getElem?_getD, hx]
  · rw [seenR_zero]; simp [List.getD_eq_getElem?_getD, hx]
  · rw [seenR_zero] at h; simp at h
  · simp at h

theorem PSt.next {T I : List Nat} {os : List IOp} {ny t : Nat} {R : List Int} {PO : List Nat} {cur : List IOp} (h : PSt T I os ny t (pos T t).length R PO cur) (hT : T.length = os.length) : PSt T I os ny (t + 1) 0 R PO cur := by
  refine ⟨h.lR, h.lP, fun x hx => ?_, fun x hx => ?_, fun x hx hm => ?_, h.lc, h.same, fun j hj hd => ?_⟩
  · have := h.le x hx; omega
  · rw [seenR_zero]
    have := h.le x hx
    exact ⟨fun e => by omega, fun e => by simp at e⟩
  · rw [seenR_zero] at hm; simp at hm
  · refine h.done j hj ?_
    rcases hd with hd | hd
    · rcases Nat.lt_or_ge (T.getD j 0) t with h1 | h1
      · exact .inl h1
      · refine .inr ?_
        rw [List.take_length]
        exact (posUp_mem T t T.length j).2 ⟨by omega, by omega⟩
    · simp at hd

/-- A place of an item that the transaction has not reached yet. -/
theorem PSt.fresh {T I : List Nat} {os : List IOp} {ny t r : Nat} {R : List Int} {PO : List Nat} {cur : List IOp} (h : PSt T I os ny t r R PO cur) (hr : r < (pos T t).length) (j x : Nat) (hj : j = (pos T t).getD r 0) (hjl : j < os.length) (hx : x = I.getD j 0) (hxn : x < ny) (hne : R.getD x 0 ≠ (t : Int)) :
    (seenR T I t (r + 1)).length = (seenR T I t r).length + 1 ∧ PSt T I os ny t (r + 1) (R.set x t) (PO.set x (cnt T I t + (seenR T I t r).length)) (cur.set j { cur.getD j default with p := cnt T I t + (seenR T I t r).length }) := by
  have hnot : x ∉ seenR T I t r := fun hm => hne ((h.eq x hxn).2 hm)
  have hs : seenR T I t (r + 1) = seenR T I t r ++ [x] := by rw [seenR_succ T I t r hr, ← hj, ← hx, nub1, if_neg hnot]
  have hidx : (seenR T I t r ++ [x]).idxOf x = (seenR T I t r).length := by rw [List.idxOf_append, if_neg hnot]; simp
  refine ⟨by rw [hs]; simp, ⟨by rw [List.length_set]; exact h.lR, by rw [List.length_set]; exact h.lP, fun y hy => ?_, fun y hy => ?_, fun y hy hm => ?_, by rw [List.length_set]; exact h.lc, fun i hi => ?_, fun i hi hd => ?_⟩⟩
  · rw [getD_set _ _ _ _ _ (by rw [h.lR]; exact hxn)]
    split
    · omega
    · exact h.le y hy
  · rw [getD_set _ _ _ _ _ (by rw [h.lR]; exact hxn), hs]
    by_cases e : x = y
    · rw [if_pos e, e]; simp
    · rw [if_neg e, h.eq y hy]
      simp only [List.mem_append, List.mem_singleton]
      exact ⟨.inl, fun hm => hm.elim id fun e' => absurd e'.symm e⟩
  · rw [hs] at hm ⊢
    rw [getD_set _ _ _ _ _ (by rw [h.lP]; exact hxn)]
    by_cases e : x = y
    · rw [if_pos e, ← e, hidx]
    · have hm' : y ∈ seenR T I t r := by
        rcases List.mem_append.1 hm with h1 | h1
        · exact h1
        · exact absurd (List.mem_singleton.1 h1).symm e
      rw [if_neg e, List.idxOf_append, if_pos hm']
      exact h.po y hy hm'
  · rw [getD_set _ _ _ _ _ (by rw [h.lc]; exact hjl)]
    by_cases e : j = i
    · rw [if_pos e, ← e]; exact h.same j hjl
    · rw [if_neg e]; exact h.same i hi
  · rw [getD_set _ _ _ _ _ (by rw [h.lc]; exact hjl)]
    by_cases e : j = i
    · subst e
      rw [if_pos rfl, pair_seenR T I t r j hr hj, hs, ← hx, hidx]
    · rw [if_neg e]
      refine h.done i hi ?_
      rcases hd with hd | hd
      · exact .inl hd
      · rw [take_succ_at _ _ hr, ← hj] at hd
        rcases List.mem_append.1 hd with h1 | h1
        · exact .inr h1
        · exact absurd (List.mem_singleton.1 h1).symm e
/-- A place of an item that the transaction has reached before. -/
theorem PSt.again {T I : List Nat} {os : List IOp} {ny t r : Nat} {R : List Int} {PO : List Nat} {cur : List IOp} (h : PSt T I os ny t r R PO cur) (hr : r < (pos T t).length) (j x : Nat) (hj : j = (pos T t).getD r 0) (hjl : j < os.length) (hx : x = I.getD j 0) (hxn : x < ny) (heq : R.getD x 0 = (t : Int)) :
    (seenR T I t (r + 1)).length = (seenR T I t r).length ∧ PSt T I os ny t (r + 1) R PO (cur.set j { cur.getD j default with p := PO.getD x 0 }) := by
  have hin : x ∈ seenR T I t r := (h.eq x hxn).1 heq
  have hs : seenR T I t (r + 1) = seenR T I t r := by rw [seenR_succ T I t r hr, ← hj, ← hx, nub1, if_pos hin]
  refine ⟨by rw [hs], ⟨h.lR, h.lP, h.le, by rw [hs]; exact h.eq, by rw [hs]; exact h.po, by rw [List.length_set]; exact h.lc, fun i hi => ?_, fun i hi hd => ?_⟩⟩
  · rw [getD_set _ _ _ _ _ (by rw [h.lc]; exact hjl)]
    by_cases e : j = i
    · rw [if_pos e, ← e]; exact h.same j hjl
    · rw [if_neg e]; exact h.same i hi
  · rw [getD_set _ _ _ _ _ (by rw [h.lc]; exact hjl)]
    by_cases e : j = i
    · subst e
      rw [if_pos rfl, pair_seenR T I t r j hr hj, hs, ← hx]
      exact h.po x hxn hin
    · rw [if_neg e]
      refine h.done i hi ?_
      rcases hd with hd | hd
      · exact .inl hd
      · rw [take_succ_at _ _ hr, ← hj] at hd
        rcases List.mem_append.1 hd with h1 | h1
        · exact .inr h1
        · exact absurd (List.mem_singleton.1 h1).symm e

/-- All operations with their pairs. -/
def paired (T I : List Nat) (os : List IOp) : List IOp := (List.range os.length).map fun j => { os.getD j default with p := pair T I j }
theorem paired_len (T I : List Nat) (os : List IOp) : (paired T I os).length = os.length := by simp [paired]
theorem PSt.all {T I : List Nat} {os : List IOp} {ny t : Nat} {R : List Int} {PO : List Nat} {cur : List IOp} (h : PSt T I os ny t 0 R PO cur) (hT : ∀ j, j < os.length → T.getD j 0 < t) : cur = paired T I os := by
  apply List.ext_getElem
  · rw [h.lc, paired_len]
  · intro j h1 h2
    have hj : j < os.length := by rw [← h.lc]; exact h1
    obtain ⟨s1, s2, s3⟩ := h.same j hj
    have s4 := h.done j hj (.inl (hT j hj))
    have e : cur.getD j default = cur[j] := by rw [List.getD_eq_getElem?_getD, List.getElem?_eq_getElem h1]; rfl
    rw [e] at s1 s2 s3 s4
    have e2 : (paired T I os)[j] = { os.getD j default with p := pair T I j } := by simp [paired]
    rw [e2, ← s4]
    cases hc : cur[j]
    rw [hc] at s1 s2 s3
    simp_all
end Go.Proofs.Ybulkebqk
