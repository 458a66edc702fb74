/-
  The items of a schedule, in the order in which they first appear; the map that numbers them (plain).
-/
import Derived.Test.YbulkebqkCCalm
namespace Go.Proofs.Ybulkebqk
open Go.RowKit Go.Maps
set_option linter.unusedVariables false

def nubB1 {α : Type} [DecidableEq α] (a : List α) (x : α) : List α := if x ∈ a then a else a ++ [x]
/-- The items of the reads and writes among l's first q operations. -/
def itemsUp (l : List OpV) (q : Nat) : List ByteArray := (accs (l.take q)).foldl (fun a o => nubB1 a o.i) []
theorem itemsUp_zero (l : List OpV) : itemsUp l 0 = [] := rfl
theorem itemsUp_yes (l : List OpV) (q : Nat) (hq : q < l.length) (h : acc (l.getD q default).k = true) : itemsUp l (q + 1) = nubB1 (itemsUp l q) (l.getD q default).i := by
  rw [itemsUp, accs_yes l q hq h, List.foldl_append]; rfl
theorem itemsUp_no (l : List OpV) (q : Nat) (hq : q < l.length) (h : acc (l.getD q default).k = false) : itemsUp l (q + 1) = itemsUp l q := by
  rw [itemsUp, accs_no l q hq h]; rfl
theorem nubB1_pre {α : Type} [DecidableEq α] (a : List α) (x : α) : a <+: nubB1 a x := by
  unfold nubB1; split
  · exact List.prefix_refl _
  · exact List.prefix_append _ _
theorem itemsUp_step (l : List OpV) (q : Nat) : itemsUp l q <+: itemsUp l (q + 1) := by
  rcases Nat.lt_or_ge q l.length with hq | hq
  · cases h : acc (l.getD q default).k with
    | true => rw [itemsUp_yes l q hq h]; exact nubB1_pre _ _
    | false => rw [itemsUp_no l q hq h]; exact List.prefix_refl _
  · have : l.take (q + 1) = l.take q := by rw [List.take_of_length_le hq, List.take_of_length_le (by omega)]
    rw [itemsUp, itemsUp, this]; exact List.prefix_refl _
theorem itemsUp_pre (l : List OpV) (q : Nat) : ∀ d, itemsUp l q <+: itemsUp l (q + d)
  | 0 => List.prefix_refl _
  | d + 1 => (itemsUp_pre l q d).trans (itemsUp_step l (q + d))
theorem itemsUp_prefix (l : List OpV) {q r : Nat} (h : q ≤ r) : itemsUp l q <+: itemsUp l r := by
  obtain ⟨d, rfl⟩ := Nat.le.dest h
  exact itemsUp_pre l q d
theorem itemsUp_len (l : List OpV) : ∀ q, (itemsUp l q).length ≤ q
  | 0 => Nat.le_refl 0
  | q + 1 => by
    have ih := itemsUp_len l q
    rcases Nat.lt_or_ge q l.length with hq | hq
    · cases h : acc (l.getD q default).k with
      | true =>
        rw [itemsUp_yes l q hq h, nubB1]
        split
        · omega
        · simp; omega
      | false => rw [itemsUp_no l q hq h]; omega
    · have : l.take (q + 1) = l.take q := by rw [List.take_of_length_le hq, List.take_of_length_le (by omega)]
      have e : itemsUp l (q + 1) = itemsUp l q := by rw [itemsUp, itemsUp, this]
      rw [e]; omega
theorem idxB_pre {α : Type} [DecidableEq α] {a b : List α} (h : a <+: b) {x : α} (hx : x ∈ a) : plc b x = plc a x := by
  obtain ⟨c, rfl⟩ := h
  unfold plc
  rw [List.idxOf_append, if_pos hx]
theorem items_mem (l : List OpV) : ∀ o, o ∈ accs l → o.i ∈ itemsUp l l.length := by
  have key : ∀ (m : List OpV) (a : List ByteArray) x, (x ∈ a ∨ ∃ o ∈ m, o.i = x) → x ∈ m.foldl (fun a o => nubB1 a o.i) a := by
    intro m
    induction m with
    | nil => intro a x h; rcases h with h | ⟨o, ho, _⟩
             · exact h
             · simp at ho
    | cons p m ih =>
      intro a x h
      refine ih _ x ?_
      rcases h with h | ⟨o, ho, rfl⟩
      · exact .inl ((nubB1_pre a p.i).mem h)
      · rcases List.mem_cons.1 ho with rfl | ho
        · left
          show o.i ∈ nubB1 a o.i
          unfold nubB1
          split
          · assumption
          · simp
        · exact .inr ⟨o, ho, rfl⟩
  intro o ho
  rw [itemsUp, List.take_length]
  exact key _ _ _ (.inr ⟨o, ho, rfl⟩)
/-- The number that a read or write's item gets at once is the number that it keeps. -/
theorem idx_now (l : List OpV) (q : Nat) (hq : q < l.length) (h : acc (l.getD q default).k = true) : plc (itemsUp l l.length) (l.getD q default).i = plc (itemsUp l (q + 1)) (l.getD q default).i := by
  refine idxB_pre (itemsUp_prefix l (show q + 1 ≤ l.length from hq)) ?_
  rw [itemsUp_yes l q hq h, nubB1]
  split
  · assumption
  · simp

theorem key_str (s : ByteArray) : WideAt.IsKeyLit (.string s.data.toList) := trivial
/-- The map that gives each of ys' first k strings its place. -/
def strMap (ys : List ByteArray) : Nat → DataW Unit
  | 0 => .map []
  | k + 1 => (strMap ys k).put (.string (ys.getD k default).data.toList) (.lit (.int .i64 k))
theorem strMap_is (ys : List ByteArray) : ∀ k, IsMap (strMap ys k)
  | 0 => isMap_empty
  | k + 1 => (strMap_is ys k).put _ _
theorem strMap_congr (ys zs : List ByteArray) : ∀ k, (∀ j, j < k → ys.getD j default = zs.getD j default) → strMap ys k = strMap zs k
  | 0, _ => rfl
  | k + 1, h => by rw [strMap, strMap, h k (by omega), strMap_congr ys zs k fun j hj => h j (by omega)]
theorem bytes_lit {s t : ByteArray} (h : Lit.string s.data.toList = Lit.string t.data.toList) : s = t := by
  simp only [Lit.string.injEq] at h
  cases s; cases t
  simp at h
  simp [h]
/-- Looked up: its place, and that it is there. -/
theorem strMap_at (ys : List ByteArray) (hd : ∀ i j, i < j → j < ys.length → ys.getD i default ≠ ys.getD j default) (z : DataW Unit) : ∀ k j, j < k → k ≤ ys.length → (strMap ys k).atKey (.string (ys.getD j default).data.toList) z = .lit (.int .i64 j) ∧ has (strMap ys k) (.string (ys.getD j default).data.toList) = true
  | 0, j, h, _ => by omega
  | k + 1, j, h, hk => by
    by_cases e : j = k
    · subst e
      exact ⟨atKey_put_same (strMap_is ys j) (key_str _) _ _, has_put_same (strMap_is ys j) (key_str _) _⟩
    · have hne : ys.getD j default ≠ ys.getD k default := hd j k (by omega) (by omega)
      obtain ⟨h1, h2⟩ := strMap_at ys hd z k j (by omega) (by omega)
      rw [strMap, atKey_put_other (fun e' => hne (bytes_lit e')), has_put_other (fun e' => hne (bytes_lit e'))]
      exact ⟨h1, h2⟩
theorem strMap_not (ys : List ByteArray) (x : ByteArray) : ∀ k, (∀ j, j < k → ys.getD j default ≠ x) → has (strMap ys k) (.string x.data.toList) = false
  | 0, _ => rfl
  | k + 1, h => by
    rw [strMap, has_put_other (fun e' => h k (by omega) (bytes_lit e'.symm))]
    exact strMap_not ys x k fun j hj => h j (by omega)
/-- No item stands twice. -/
theorem items_apart (l : List OpV) : ∀ q, (itemsUp l q).Nodup
  | 0 => List.nodup_nil
  | q + 1 => by
    rcases Nat.lt_or_ge q l.length with hq | hq
    · cases h : acc (l.getD q default).k with
      | true =>
        rw [itemsUp_yes l q hq h, nubB1]
        split
        · exact items_apart l q
        · rename_i hn
          rw [List.nodup_append]
          refine ⟨items_apart l q, by simp, ?_⟩
          intro a ha b hb e
          rw [List.mem_singleton] at hb
          subst hb
          exact hn (e ▸ ha)
      | false => rw [itemsUp_no l q hq h]; exact items_apart l q
    · have : l.take (q + 1) = l.take q := by rw [List.take_of_length_le hq, List.take_of_length_le (by omega)]
      have e : itemsUp l (q + 1) = itemsUp l q := by rw [itemsUp, itemsUp, this]
      rw [e]; exact items_apart l q
theorem nodup_apart {ys : List ByteArray} (h : ys.Nodup) : ∀ i j, i < j → j < ys.length → ys.getD i default ≠ ys.getD j default := by
  intro i j hij hj e
  rw [List.getD_eq_getElem?_getD, List.getD_eq_getElem?_getD, List.getElem?_eq_getElem (by omega), List.getElem?_eq_getElem hj] at e
  exact List.pairwise_iff_getElem.1 h i j (by omega) hj hij (by simpa using e)
end Go.Proofs.Ybulkebqk
