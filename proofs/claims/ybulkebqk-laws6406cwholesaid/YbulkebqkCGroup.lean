/-
  The plain part of gather and of numberPairs: positions grouped by transaction; numbers of pairs.
-/
import Derived.Test.YbulkebqkCClone
namespace Go.Proofs.Ybulkebqk
set_option linter.unusedVariables false

/-- The places below j at which T says t. -/
def posUp (T : List Nat) (t j : Nat) : List Nat := (List.range j).filter fun k => T.getD k 0 == t
def pos (T : List Nat) (t : Nat) : List Nat := posUp T t T.length
theorem posUp_yes (T : List Nat) (t j : Nat) (h : T.getD j 0 = t) : posUp T t (j + 1) = posUp T t j ++ [j] := by
  simp only [posUp, List.range_succ, List.filter_append]
  congr 1
  simp [List.filter_cons]
  simpa using h
theorem posUp_no (T : List Nat) (t j : Nat) (h : T.getD j 0 ≠ t) : posUp T t (j + 1) = posUp T t j := by
  simp only [posUp, List.range_succ, List.filter_append]
  have : (T.getD j 0 == t) = false := by simpa using h
  rw [List.filter_cons, this]
  simp
theorem posUp_mem (T : List Nat) (t j k : Nat) : k ∈ posUp T t j ↔ k < j ∧ T.getD k 0 = t := by simp [posUp]
theorem posUp_zero (T : List Nat) (t : Nat) : posUp T t 0 = [] := rfl
/-- Fewer places: a first part. -/
theorem posUp_pre (T : List Nat) (t j : Nat) : ∀ d, posUp T t j <+: posUp T t (j + d)
  | 0 => List.prefix_refl _
  | d + 1 => by
    refine (posUp_pre T t j d).trans ?_
    by_cases h : T.getD (j + d) 0 = t
    · rw [← Nat.add_assoc, posUp_yes T t (j + d) h]; exact List.prefix_append _ _
    · rw [← Nat.add_assoc, posUp_no T t (j + d) h]; exact List.prefix_refl _
theorem posUp_prefix (T : List Nat) (t : Nat) {j m : Nat} (h : j ≤ m) : posUp T t j <+: posUp T t m := by
  obtain ⟨d, rfl⟩ := Nat.le.dest h
  exact posUp_pre T t j d
theorem posUp_lt (T : List Nat) (t : Nat) {j m : Nat} (h : j < m) (ht : T.getD j 0 = t) : (posUp T t j).length < (posUp T t m).length := by
  have := (posUp_prefix T t (show j + 1 ≤ m from h)).length_le
  rw [posUp_yes T t j ht] at this
  simp at this; omega

section
variable {α : Type}
/-- Lists one behind the other. -/
def flat (f : Nat → List α) (n : Nat) : List α := (List.range n).flatMap f
theorem flat_succ (f : Nat → List α) (n : Nat) : flat f (n + 1) = flat f n ++ f n := by simp [flat, List.range_succ]
theorem flat_zero (f : Nat → List α) : flat f 0 = [] := rfl
theorem flat_congr {f g : Nat → List α} {n : Nat} (h : ∀ i, i < n → f i = g i) : flat f n = flat g n := by
  induction n with
  | zero => rfl
  | succ n ih => rw [flat_succ, flat_succ, ih fun i hi => h i (by omega), h n (by omega)]
theorem flat_len {β : Type} {f : Nat → List α} {g : Nat → List β} {n : Nat} (h : ∀ i, i < n → (f i).length = (g i).length) : (flat f n).length = (flat g n).length := by
  induction n with
  | zero => rfl
  | succ n ih => rw [flat_succ, flat_succ, List.length_append, List.length_append, ih fun i hi => h i (by omega), h n (by omega)]
theorem flat_le (f : Nat → List α) {t n : Nat} (h : t ≤ n) : (flat f t).length ≤ (flat f n).length := by
  induction n with
  | zero => rw [show t = 0 by omega]; exact Nat.le_refl _
  | succ n ih =>
    by_cases e : t = n + 1
    · rw [e]; exact Nat.le_refl _
    · rw [flat_succ, List.length_append]
      have := ih (by omega)
      omega
theorem flat_at (f : Nat → List α) (z : α) {n t r : Nat} (ht : t < n) (hr : r < (f t).length) : (flat f n).getD ((flat f t).length + r) z = (f t).getD r z := by
  induction n with
  | zero => omega
  | succ n ih =>
    rw [flat_succ]
    by_cases e : t = n
    · subst e
      simp [List.getD_eq_getElem?_getD, List.getElem?_append_right]
    · have h1 := ih (by omega)
      have h2 : (flat f t).length + r < (flat f n).length := by
        have := flat_le f (show t + 1 ≤ n by omega)
        rw [flat_succ, List.length_append] at this; omega
      rw [List.getD_eq_getElem?_getD, List.getElem?_append_left h2, ← List.getD_eq_getElem?_getD]
      exact h1
theorem flat_set (f : Nat → List α) (x : α) {n t r : Nat} (ht : t < n) (hr : r < (f t).length) : (flat f n).set ((flat f t).length + r) x = flat (fun i => if i = t then (f i).set r x else f i) n := by
  induction n with
  | zero => omega
  | succ n ih =>
    rw [flat_succ, flat_succ]
    by_cases e : t = n
    · subst e
      rw [List.set_append_right _ _ (by omega), if_pos rfl]
      congr 1
      · exact flat_congr fun i hi => by rw [if_neg (by omega)]
      · congr 1; omega
    · have h2 : (flat f t).length + r < (flat f n).length := by
        have := flat_le f (show t + 1 ≤ n by omega)
        rw [flat_succ, List.length_append] at this; omega
      rw [List.set_append_left _ _ h2, ih (by omega), if_neg (by omega)]
end

/-- Where the places of transaction t begin. -/
def start (T : List Nat) (t : Nat) : Nat := (flat (pos T) t).length
theorem start_succ (T : List Nat) (t : Nat) : start T (t + 1) = start T t + (pos T t).length := by rw [start, flat_succ, List.length_append]; rfl
theorem start_mono (T : List Nat) {t n : Nat} (h : t ≤ n) : start T t ≤ start T n := flat_le _ h
theorem upto_le (T : List Nat) (t : Nat) : ∀ j, (flat (fun i => posUp T i j) t).length ≤ j := by
  have key : ∀ j t, (flat (fun i => posUp T i (j + 1)) t).length = (flat (fun i => posUp T i j) t).length + if T.getD j 0 < t then 1 else 0 := by
    intro j t
    induction t with
    | zero => simp [flat]
    | succ t ih =>
      rw [flat_succ, flat_succ, List.length_append, List.length_append, ih]
      by_cases h : T.getD j 0 = t
      · rw [posUp_yes T t j h, if_neg (by omega), if_pos (by omega)]; simp; omega
      · rw [posUp_no T t j h]
        by_cases h2 : T.getD j 0 < t
        · rw [if_pos h2, if_pos (by omega)]; omega
        · rw [if_neg h2, if_neg (by omega)]; omega
  intro j
  induction j with
  | zero =>
    induction t with
    | zero => simp [flat]
    | succ t ih => rw [flat_succ, List.length_append, posUp_zero]; simp at ih ⊢; exact ih
  | succ j ih => rw [key]; split <;> omega
theorem start_le (T : List Nat) (t : Nat) : start T t ≤ T.length := upto_le T t T.length

/-! gather's three phases. -/
def gcnt (T : List Nat) (n j : Nat) : List Nat := (List.range (n + 1)).map fun i => if i = 0 then 0 else (posUp T (i - 1) j).length
def gsum (T : List Nat) (n i : Nat) : List Nat := (List.range (n + 1)).map fun k => if k ≤ i then start T k else (pos T (k - 1)).length
def gfill (T : List Nat) (n j : Nat) : List Nat := (List.range n).map fun i => start T i + (posUp T i j).length
def glist (T : List Nat) (n j : Nat) : List Nat := flat (fun i => posUp T i j ++ List.replicate ((pos T i).length - (posUp T i j).length) 0) n
def starts (T : List Nat) (n : Nat) : List Nat := (List.range (n + 1)).map (start T)

theorem rmap_len {α : Type} (n : Nat) (g : Nat → α) : ((List.range n).map g).length = n := by simp
theorem rmap_at {α : Type} (n : Nat) (g : Nat → α) (z : α) (k : Nat) (h : k < n) : ((List.range n).map g).getD k z = g k := by simp [List.getD_eq_getElem?_getD, List.getElem?_range h]
theorem rmap_set {α : Type} (n : Nat) (g h : Nat → α) (k : Nat) (x : α) (hx : h k = x) (ho : ∀ i, i ≠ k → h i = g i) : ((List.range n).map g).set k x = (List.range n).map h := by
  apply List.ext_getElem?; intro j
  by_cases hj : j < n
  · by_cases e : k = j
    · subst e
      rw [List.getElem?_set_self (by simpa using hj)]
      simp [List.getElem?_range hj, hx]
    · rw [List.getElem?_set_ne e]
      simp [List.getElem?_range hj, ho j (Ne.symm e)]
  · rw [List.getElem?_eq_none (by simp; omega), List.getElem?_eq_none (by simp; omega)]

theorem gcnt_zero (T : List Nat) (n : Nat) : gcnt T n 0 = List.replicate (n + 1) 0 := by
  apply List.ext_getElem?; intro j
  by_cases hj : j < n + 1
  · simp only [gcnt, List.getElem?_map, List.getElem?_range hj, posUp_zero]; simp [hj]
  · rw [List.getElem?_eq_none (by simp [gcnt]; omega), List.getElem?_eq_none (by simp; omega)]
theorem gcnt_at (T : List Nat) (n j t : Nat) (h : t < n) : (gcnt T n j).getD (t + 1) 0 = (posUp T t j).length := by
  rw [gcnt, rmap_at _ _ _ _ (by omega), if_neg (by omega)]; rfl
theorem gcnt_step (T : List Nat) (n j t : Nat) (h : T.getD j 0 = t) : (gcnt T n j).set (t + 1) ((posUp T t j).length + 1) = gcnt T n (j + 1) := by
  refine rmap_set _ _ _ _ _ ?_ fun i hi => ?_
  · rw [if_neg (by omega), show t + 1 - 1 = t by omega, posUp_yes T t j h]; simp
  · by_cases e : i = 0
    · rw [if_pos e, if_pos e]
    · rw [if_neg e, if_neg e, posUp_no T (i - 1) j (by omega)]
theorem gsum_zero (T : List Nat) (n : Nat) : gcnt T n T.length = gsum T n 0 := by
  apply List.map_congr_left
  intro i _
  by_cases e : i = 0
  · subst e; simp [start, flat]
  · rw [if_neg e, if_neg (by omega)]; rfl
theorem gsum_at (T : List Nat) (n i : Nat) (h : i < n) : (gsum T n i).getD i 0 = start T i ∧ (gsum T n i).getD (i + 1) 0 = (pos T i).length := by
  rw [gsum, rmap_at _ _ _ _ (by omega), rmap_at _ _ _ _ (by omega), if_pos (by omega), if_neg (by omega)]
  exact ⟨rfl, rfl⟩
theorem gsum_step (T : List Nat) (n i : Nat) : (gsum T n i).set (i + 1) (start T (i + 1)) = gsum T n (i + 1) := by
  refine rmap_set _ _ _ _ _ ?_ fun k hk => ?_
  · rw [if_pos (by omega)]
  · by_cases e : k ≤ i
    · rw [if_pos e, if_pos (by omega)]
    · rw [if_neg e, if_neg (by omega)]
theorem gsum_all (T : List Nat) (n : Nat) : gsum T n n = starts T n := by
  apply List.map_congr_left
  intro k hk
  rw [List.mem_range] at hk
  rw [if_pos (by omega)]
theorem starts_at (T : List Nat) (n i : Nat) (h : i ≤ n) : (starts T n).getD i 0 = start T i := by rw [starts, rmap_at _ _ _ _ (by omega)]
theorem gfill_zero (T : List Nat) (n : Nat) : (starts T n).take n = gfill T n 0 := by
  rw [starts, List.range_succ, List.map_append, List.take_left' (by simp)]
  apply List.map_congr_left
  intro i _
  rw [posUp_zero]; rfl
theorem gfill_at (T : List Nat) (n j t : Nat) (h : t < n) : (gfill T n j).getD t 0 = start T t + (posUp T t j).length := by rw [gfill, rmap_at _ _ _ _ h]
theorem gfill_step (T : List Nat) (n j t : Nat) (h : T.getD j 0 = t) : (gfill T n j).set t (start T t + (posUp T t j).length + 1) = gfill T n (j + 1) := by
  refine rmap_set _ _ _ _ _ ?_ fun i hi => ?_
  · rw [posUp_yes T t j h]; simp; omega
  · rw [posUp_no T i j (by omega)]
theorem glist_zero (T : List Nat) (n : Nat) : glist T n 0 = List.replicate (start T n) 0 := by
  induction n with
  | zero => rfl
  | succ n ih => rw [glist, flat_succ]; rw [glist] at ih; rw [ih, posUp_zero, start_succ]; simp
theorem gpart_len (T : List Nat) (i : Nat) {j : Nat} (hj : j ≤ T.length) : (posUp T i j ++ List.replicate ((pos T i).length - (posUp T i j).length) 0).length = (pos T i).length := by
  have := (posUp_prefix T i hj).length_le
  simp only [List.length_append, List.length_replicate]
  simp only [pos]; omega
theorem glist_step (T : List Nat) (n j t : Nat) (hj : j < T.length) (h : T.getD j 0 = t) (ht : t < n) : (glist T n j).set (start T t + (posUp T t j).length) j = glist T n (j + 1) := by
  have hs : start T t = (flat (fun i => posUp T i j ++ List.replicate ((pos T i).length - (posUp T i j).length) 0) t).length := (flat_len fun i _ => gpart_len T i (by omega)).symm
  have hlt := posUp_lt T t hj h
  rw [glist, hs, flat_set _ _ ht (by rw [gpart_len T t (by omega)]; exact hlt)]
  refine flat_congr fun i _ => ?_
  by_cases e : i = t
  · rw [if_pos e, e, posUp_yes T t j h]
    rw [List.set_append_right _ _ (Nat.le_refl _)]
    simp only [Nat.sub_self, List.append_assoc]
    congr 1
    obtain ⟨d, hd⟩ : ∃ d, (pos T t).length - (posUp T t j).length = d + 1 := ⟨(pos T t).length - (posUp T t j).length - 1, by simp only [pos]; omega⟩
    rw [hd, List.length_append, show (pos T t).length - ((posUp T t j).length + [j].length) = d by simp; omega]
    rfl
  · rw [if_neg e, posUp_no T i j (by omega)]
theorem glist_all (T : List Nat) (n : Nat) : glist T n T.length = flat (pos T) n := by
  refine flat_congr fun i _ => ?_
  simp [pos]
theorem glist_len (T : List Nat) (n : Nat) {j : Nat} (hj : j ≤ T.length) : (glist T n j).length = start T n := flat_len fun i _ => gpart_len T i hj

/-! numberPairs. -/
def nub1 (acc : List Nat) (x : Nat) : List Nat := if x ∈ acc then acc else acc ++ [x]
def nub (l : List Nat) : List Nat := l.foldl nub1 []
theorem nub_snoc (l : List Nat) (x : Nat) : nub (l ++ [x]) = nub1 (nub l) x := by simp [nub]
theorem nub_pre (l l' : List Nat) : nub l <+: nub (l ++ l') := by
  have : ∀ (l' a : List Nat), a <+: l'.foldl nub1 a := by
    intro l'
    induction l' with
    | nil => exact fun a => List.prefix_refl a
    | cons x l' ih =>
      intro a
      refine List.IsPrefix.trans ?_ (ih (nub1 a x))
      unfold nub1
      split
      · exact List.prefix_refl _
      · exact List.prefix_append _ _
  rw [nub, nub, List.foldl_append]
  exact this _ _
theorem nub_mem (l : List Nat) : ∀ x, x ∈ l → x ∈ nub l := by
  have : ∀ (l a : List Nat) x, (x ∈ a ∨ x ∈ l) → x ∈ l.foldl nub1 a := by
    intro l
    induction l with
    | nil => intro a x h; simpa using h
    | cons y l ih =>
      intro a x h
      refine ih _ x ?_
      unfold nub1
      rcases h with h | h
      · left; split
        · exact h
        · exact List.mem_append_left _ h
      · rcases List.mem_cons.1 h with rfl | h
        · left; split
          · assumption
          · simp
        · exact .inr h
  exact fun x h => this l [] x (.inr h)
theorem nub_len (l : List Nat) : (nub l).length ≤ l.length := by
  have : ∀ (l a : List Nat), (l.foldl nub1 a).length ≤ a.length + l.length := by
    intro l
    induction l with
    | nil => intro a; simp
    | cons x l ih =>
      intro a
      have h1 := ih (nub1 a x)
      have h2 : (nub1 a x).length ≤ a.length + 1 := by unfold nub1; split <;> simp
      simp only [List.foldl_cons, List.length_cons]; omega
  simpa [nub] using this l []
theorem idx_pre {a b : List Nat} (h : a <+: b) {x : Nat} (hx : x ∈ a) : b.idxOf x = a.idxOf x := by
  obtain ⟨c, rfl⟩ := h
  rw [List.idxOf_append, if_pos hx]

/-- The items that transaction t has reached with its places below k. -/
def seen (T I : List Nat) (t k : Nat) : List Nat := nub ((posUp T t k).map fun j => I.getD j 0)
theorem seen_zero (T I : List Nat) (t : Nat) : seen T I t 0 = [] := rfl
theorem seen_no (T I : List Nat) (t k : Nat) (h : T.getD k 0 ≠ t) : seen T I t (k + 1) = seen T I t k := by rw [seen, posUp_no T t k h]; rfl
theorem seen_yes (T I : List Nat) (t k : Nat) (h : T.getD k 0 = t) : seen T I t (k + 1) = nub1 (seen T I t k) (I.getD k 0) := by
  rw [seen, posUp_yes T t k h, List.map_append]
  exact nub_snoc _ _
theorem seen_prefix (T I : List Nat) (t : Nat) {j m : Nat} (h : j ≤ m) : seen T I t j <+: seen T I t m := by
  obtain ⟨c, hc⟩ := posUp_prefix T t h
  rw [seen, seen, ← hc, List.map_append]
  exact nub_pre _ _
def cnt (T I : List Nat) : Nat → Nat
  | 0 => 0
  | t + 1 => cnt T I t + (seen T I t T.length).length
theorem cnt_le (T I : List Nat) : ∀ t, cnt T I t ≤ start T t
  | 0 => Nat.le_refl 0
  | t + 1 => by
    have h1 := cnt_le T I t
    have h2 : (seen T I t T.length).length ≤ (pos T t).length := by
      have := nub_len ((posUp T t T.length).map fun j => I.getD j 0)
      rw [List.length_map] at this; exact this
    rw [start_succ]
    simp only [cnt]; omega
def pair (T I : List Nat) (k : Nat) : Nat := cnt T I (T.getD k 0) + (seen T I (T.getD k 0) T.length).idxOf (I.getD k 0)
/-- The pair is known as soon as the place is gone through. -/
theorem pair_now (T I : List Nat) (t k : Nat) (hk : k < T.length) (h : T.getD k 0 = t) : pair T I k = cnt T I t + (seen T I t (k + 1)).idxOf (I.getD k 0) := by
  rw [pair, h, idx_pre (seen_prefix T I t (show k + 1 ≤ T.length from hk))]
  exact nub_mem _ _ (List.mem_map.2 ⟨k, (posUp_mem T t (k + 1) k).2 ⟨by omega, h⟩, rfl⟩)
def pairStarts (T I : List Nat) (n : Nat) : List Nat := (List.range (n + 1)).map (cnt T I)
end Go.Proofs.Ybulkebqk
