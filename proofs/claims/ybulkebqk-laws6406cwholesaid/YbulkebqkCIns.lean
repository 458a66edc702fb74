/-
  The plain part of zzs6406ctxns: a number put at its place in an ascending list.
-/
import Derived.Test.YbulkebqkCSame
namespace Go.Proofs.Ybulkebqk
set_option linter.unusedVariables false

def ins (xs : List Int) (p : Nat) (t : Int) : List Int := xs.take p ++ t :: xs.drop p
theorem ins_len (xs : List Int) (p : Nat) (t : Int) (hp : p ≤ xs.length) : (ins xs p t).length = xs.length + 1 := by simp [ins]; omega
theorem ins_mem (xs : List Int) (p : Nat) (t z : Int) : z ∈ ins xs p t ↔ z = t ∨ z ∈ xs := by
  have : z ∈ xs ↔ z ∈ xs.take p ∨ z ∈ xs.drop p := by rw [← List.mem_append, List.take_append_drop]
  rw [this, ins, List.mem_append, List.mem_cons]
  constructor
  · rintro (h | h | h)
    · exact .inr (.inl h)
    · exact .inl h
    · exact .inr (.inr h)
  · rintro (h | h | h)
    · exact .inr (.inl h)
    · exact .inl h
    · exact .inr (.inr h)

theorem tx_more {l : List OpV} {k : Nat} (hk : k < l.length) {xs ys : List Int} (h : Tx (l.take k) xs) (hp : ys.Pairwise (· < ·)) (hm : ∀ z, z ∈ ys ↔ z = (l.getD k default).t ∨ z ∈ xs) : Tx (l.take (k + 1)) ys := by
  refine ⟨hp, fun z => ?_⟩
  rw [hm, h.2, take_succ_getD l k hk]
  constructor
  · rintro (rfl | ⟨o, ho, e⟩)
    · exact ⟨_, by simp, rfl⟩
    · exact ⟨o, List.mem_append_left _ ho, e⟩
  · rintro ⟨o, ho, e⟩
    rcases List.mem_append.1 ho with h | h
    · exact .inr ⟨o, h, e⟩
    · obtain rfl := List.mem_singleton.1 h
      exact .inl e.symm

theorem tx_found {l : List OpV} {k : Nat} (hk : k < l.length) {xs : List Int} (h : Tx (l.take k) xs) (hm : (l.getD k default).t ∈ xs) : Tx (l.take (k + 1)) xs :=
  tx_more hk h h.1 fun z => ⟨.inr, fun h => h.elim (fun e => e ▸ hm) id⟩

theorem tx_ins {l : List OpV} {k : Nat} (hk : k < l.length) {xs : List Int} (h : Tx (l.take k) xs) (p : Nat) (hp : p ≤ xs.length) (hlo : ∀ j, j < p → xs.getD j 0 < (l.getD k default).t) (hhi : p < xs.length → (l.getD k default).t < xs.getD p 0) :
    Tx (l.take (k + 1)) (ins xs p (l.getD k default).t) := by
  refine tx_more hk h ?_ (ins_mem xs p _)
  generalize (l.getD k default).t = t at hlo hhi ⊢
  have h1 : ∀ a ∈ xs.take p, a < t := by
    intro a ha
    obtain ⟨j, hj, rfl⟩ := List.mem_iff_getElem.1 ha
    have hj' : j < p := by simp at hj; omega
    have := hlo j hj'
    rw [List.getD_eq_getElem?_getD, List.getElem?_eq_getElem (by omega)] at this
    simpa using this
  have h2 : ∀ a ∈ xs.drop p, t < a := by
    intro a ha
    obtain ⟨j, hj, rfl⟩ := List.mem_iff_getElem.1 ha
    have hj' : p + j < xs.length := by simp at hj; omega
    have := hhi (by omega)
    rw [List.getD_eq_getElem?_getD, List.getElem?_eq_getElem (by omega)] at this
    rw [List.getElem_drop]
    rcases Nat.eq_zero_or_pos j with rfl | h0
    · simpa using this
    · have h3 := List.pairwise_iff_getElem.1 h.1 p (p + j) (by omega) hj' (by omega)
      simp at this; omega
  rw [ins, List.pairwise_append, List.pairwise_cons]
  refine ⟨h.1.take, ⟨h2, h.1.drop⟩, ?_⟩
  intro a ha b hb
  rcases List.mem_cons.1 hb with rfl | hb
  · exact h1 a ha
  · have := h1 a ha; have := h2 b hb; omega
end Go.Proofs.Ybulkebqk
