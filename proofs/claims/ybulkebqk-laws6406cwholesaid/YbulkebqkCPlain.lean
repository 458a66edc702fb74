/-
  The plain part of LawS6406CWhole: the ascending list of a schedule's transactions.
-/
import Derived.Test.YbulkebqkCTx
namespace Go.Proofs.Ybulkebqk
set_option linter.unusedVariables false

/-- xs are the transactions of l, ascending, each once. -/
def Tx (l : List OpV) (xs : List Int) : Prop := xs.Pairwise (· < ·) ∧ ∀ x, x ∈ xs ↔ ∃ o ∈ l, o.t = x

theorem asc_unique : ∀ (xs ys : List Int), xs.Pairwise (· < ·) → ys.Pairwise (· < ·) → (∀ x, x ∈ xs ↔ x ∈ ys) → xs = ys
  | [], [], _, _, _ => rfl
  | [], y :: ys, _, _, h => absurd ((h y).2 (by simp)) (by simp)
  | x :: xs, [], _, _, h => absurd ((h x).1 (by simp)) (by simp)
  | x :: xs, y :: ys, hx, hy, h => by
    rw [List.pairwise_cons] at hx hy
    have e : x = y := by
      rcases List.mem_cons.1 ((h x).1 (by simp)) with e | e
      · exact e
      · rcases List.mem_cons.1 ((h y).2 (by simp)) with e' | e'
        · exact e'.symm
        · have := hx.1 y e'; have := hy.1 x e; omega
    subst e
    rw [asc_unique xs ys hx.2 hy.2 fun z => ?_]
    constructor
    · intro hz
      rcases List.mem_cons.1 ((h z).1 (List.mem_cons_of_mem _ hz)) with e | e
      · have := hx.1 z hz; omega
      · exact e
    · intro hz
      rcases List.mem_cons.1 ((h z).2 (List.mem_cons_of_mem _ hz)) with e | e
      · have := hy.1 z hz; omega
      · exact e

theorem Tx.unique {l : List OpV} {xs ys : List Int} (h : Tx l xs) (h' : Tx l ys) : xs = ys :=
  asc_unique xs ys h.1 h'.1 fun x => (h.2 x).trans (h'.2 x).symm

theorem compact_upto (d : Array Int) (hs : ∀ i j, i ≤ j → j < d.size → d[i]! ≤ d[j]!) : ∀ m, m ≤ d.size →
    (Lib.compactUpTo d m).Pairwise (· < ·) ∧ ∀ x, x ∈ Lib.compactUpTo d m ↔ ∃ j, j < m ∧ d[j]! = x
  | 0, _ => by simp [Lib.compactUpTo]
  | m + 1, hm => by
    obtain ⟨h1, h2⟩ := compact_upto d hs m (by omega)
    rw [Lib.compactUpTo_succ]
    by_cases hk : Lib.keeps d m = true
    · rw [if_pos hk]
      refine ⟨List.pairwise_append.2 ⟨h1, by simp, ?_⟩, ?_⟩
      · intro x hx y hy
        obtain rfl : y = d[m]! := by simpa using hy
        obtain ⟨j, hj, rfl⟩ := (h2 x).1 hx
        have k1 := hs j (m - 1) (by omega) (by omega)
        have k2 := hs (m - 1) m (by omega) (by omega)
        have k3 : d[m]! ≠ d[m - 1]! := by
          have := of_decide_eq_true hk
          rcases this with h | h
          · omega
          · exact h
        omega
      · intro x
        rw [List.mem_append, h2]
        constructor
        · rintro (⟨j, hj, e⟩ | h)
          · exact ⟨j, by omega, e⟩
          · exact ⟨m, by omega, by simpa using (List.mem_singleton.1 h).symm⟩
        · rintro ⟨j, hj, e⟩
          by_cases hjm : j = m
          · subst hjm; exact .inr (by simp [e])
          · exact .inl ⟨j, by omega, e⟩
    · rw [if_neg hk, List.append_nil]
      refine ⟨h1, fun x => ?_⟩
      rw [h2]
      have hk' : ¬ (m = 0 ∨ d[m]! ≠ d[m - 1]!) := fun h => hk (decide_eq_true h)
      have hm0 : m ≠ 0 := fun h => hk' (.inl h)
      have he : d[m]! = d[m - 1]! := Classical.byContradiction fun h => hk' (.inr h)
      constructor
      · rintro ⟨j, hj, e⟩; exact ⟨j, by omega, e⟩
      · rintro ⟨j, hj, e⟩
        by_cases hjm : j = m
        · subst hjm; exact ⟨j - 1, by omega, by rw [← he]; exact e⟩
        · exact ⟨j, by omega, e⟩

theorem txOf_tx (l : List OpV) : Tx l (txOf l) := by
  have hp : ((l.map (·.t)).mergeSort fun x y => decide (x ≤ y)).Pairwise (· ≤ ·) := by
    have := List.pairwise_mergeSort (le := fun x y : Int => decide (x ≤ y)) (fun a b c h1 h2 => by simp at *; omega) (fun a b => by simp; omega) (l.map (·.t))
    exact this.imp fun h => by simpa using h
  have hm : ∀ x, x ∈ ((l.map (·.t)).mergeSort fun x y => decide (x ≤ y)) ↔ ∃ o ∈ l, o.t = x := fun x => by
    rw [List.mem_mergeSort]; simp
  unfold txOf
  generalize ((l.map (·.t)).mergeSort fun x y => decide (x ≤ y)) = zs at hp hm
  have hs : ∀ i j, i ≤ j → j < zs.toArray.size → zs.toArray[i]! ≤ zs.toArray[j]! := by
    intro i j hij hj
    have hj' : j < zs.length := by simpa using hj
    rcases Nat.lt_or_ge i j with h | h
    · have := List.pairwise_iff_getElem.1 hp i j (by omega) hj' h
      rw [getElem!_pos zs.toArray i (by simp; omega), getElem!_pos zs.toArray j hj]
      simpa using this
    · have : i = j := by omega
      subst this; exact Int.le_refl _
  obtain ⟨h1, h2⟩ := compact_upto zs.toArray hs zs.length (by simp)
  refine ⟨h1, fun x => ?_⟩
  rw [← hm]
  show x ∈ Lib.compactUpTo zs.toArray zs.length ↔ _
  rw [h2]
  constructor
  · rintro ⟨j, hj, e⟩
    rw [getElem!_pos zs.toArray j (by simpa using hj)] at e
    rw [← e]; simp
  · intro h
    obtain ⟨j, hj, e⟩ := List.mem_iff_getElem.1 h
    refine ⟨j, hj, ?_⟩
    rw [getElem!_pos zs.toArray j (by simpa using hj)]
    simpa using e
end Go.Proofs.Ybulkebqk
