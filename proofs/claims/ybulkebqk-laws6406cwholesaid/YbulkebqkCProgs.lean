/-
  The programs of a schedule as its index has them (plain).
-/
import Derived.Test.YbulkebqkCNumA
import Derived.Test.YbulkebqkCSame
namespace Go.Proofs.Ybulkebqk
set_option linter.unusedVariables false

theorem filter_range {α β : Type} (A : List α) (p : α → Bool) (f : α → β) (d : α) : (A.filter p).map f = ((List.range A.length).filter fun k => p (A.getD k d)).map fun k => f (A.getD k d) := by
  have h : A = (List.range A.length).map fun k => A.getD k d := by
    apply List.ext_getElem
    · simp
    · intro i h1 h2
      simp [List.getD_eq_getElem?_getD, List.getElem?_eq_getElem h1]
  have h2 : (A.filter p).map f = (((List.range A.length).map fun k => A.getD k d).filter p).map f := by rw [← h]
  rw [h2, List.filter_map, List.map_map]
  rfl
theorem idx_inj {xs : List Int} {a b : Int} (ha : a ∈ xs) (hb : b ∈ xs) (h : xs.idxOf a = xs.idxOf b) : a = b := by
  have h1 := List.getElem_idxOf (List.idxOf_lt_length_iff.2 ha)
  have h2 := List.getElem_idxOf (List.idxOf_lt_length_iff.2 hb)
  rw [← h1, ← h2]
  congr 1

/-- The transactions of the reads and writes, by number. -/
def tnums (xs : List Int) (l : List OpV) : List Nat := (accs l).map fun o => xs.idxOf o.t
theorem tnums_iops (xs : List Int) (ys : List ByteArray) (l : List OpV) : (iops xs ys l).map (·.t) = tnums xs l := by simp [iops, tnums, iop, Function.comp_def]
theorem accs_filter (l : List OpV) (t : Int) : l.filter (fun o => o.t == t && acc o.k) = (accs l).filter fun o => o.t == t := by
  rw [accs, List.filter_filter]
theorem progOf_eq (l : List OpV) (t : Int) : progOf l t = ((accs l).filter fun o => o.t == t).map fun o => (⟨o.k, 0, o.i⟩ : OpV) := by
  rw [progOf, progUp, List.take_length, accs_filter]
/-- A transaction's program, place by place. -/
theorem prog_pos (xs : List Int) (l : List OpV) (hx : ∀ o, o ∈ l → o.t ∈ xs) (t : Int) (ht : t ∈ xs) : progOf l t = (pos (tnums xs l) (xs.idxOf t)).map fun k => (⟨((accs l).getD k default).k, 0, ((accs l).getD k default).i⟩ : OpV) := by
  rw [progOf_eq, filter_range _ _ _ default]
  have hl : (tnums xs l).length = (accs l).length := by simp [tnums]
  rw [pos, posUp, hl]
  congr 1
  refine List.filter_congr fun k hk => ?_
  rw [List.mem_range] at hk
  have hmem : (accs l).getD k default ∈ accs l := by rw [List.getD_eq_getElem?_getD, List.getElem?_eq_getElem hk]; simp
  have e : (tnums xs l).getD k 0 = xs.idxOf ((accs l).getD k default).t := by
    rw [tnums, List.getD_eq_getElem?_getD, List.getElem?_map, List.getD_eq_getElem?_getD, List.getElem?_eq_getElem hk]; simp
  rw [e]
  have ho := hx _ (List.mem_filter.1 hmem).1
  by_cases h : ((accs l).getD k default).t = t
  · rw [h]; simp
  · have h1 : (((accs l).getD k default).t == t) = false := by simpa using h
    have h2 : (xs.idxOf ((accs l).getD k default).t == xs.idxOf t) = false := by
      simp only [beq_eq_false_iff_ne]
      exact fun e => h (idx_inj ho ht e)
    rw [h1, h2]

theorem progs_sum (xs : List Int) (hx : xs.Nodup) : ∀ (A : List OpV), (∀ o, o ∈ A → o.t ∈ xs) → (xs.map fun t => (A.filter fun o => o.t == t).length).sum = A.length := by
  intro A
  induction A with
  | nil =>
    intro _
    simp only [List.filter_nil, List.length_nil]
    clear hx
    induction xs with
    | nil => rfl
    | cons y ys ih => simpa using ih
  | cons o A ih =>
    intro hm
    have h1 := ih fun p hp => hm p (List.mem_cons_of_mem _ hp)
    have h2 : ∀ (zs : List Int), zs.Nodup → (zs.map fun t => ((o :: A).filter fun p => p.t == t).length).sum = (zs.map fun t => (A.filter fun p => p.t == t).length).sum + if o.t ∈ zs then 1 else 0 := by
      intro zs
      induction zs with
      | nil => intro _; simp
      | cons z zs ihz =>
        intro hn
        have hn' := List.nodup_cons.1 hn
        have := ihz hn'.2
        simp only [List.map_cons, List.sum_cons, this]
        by_cases e : o.t = z
        · have e1 : (o.t == z) = true := by simpa using e
          have e2 : o.t ∉ zs := by rw [e]; exact hn'.1
          rw [List.filter_cons, if_pos e1, if_neg e2, if_pos (by rw [e]; simp)]
          simp; omega
        · have e1 : ¬ (o.t == z) = true := by simpa using e
          rw [List.filter_cons, if_neg e1]
          by_cases e2 : o.t ∈ zs
          · rw [if_pos e2, if_pos (List.mem_cons_of_mem _ e2)]; omega
          · rw [if_neg e2, if_neg (by simp [e, e2])]; omega
    rw [h2 xs hx, h1, if_pos (hm o (by simp))]
    simp
theorem accs_sum (xs : List Int) (hx : xs.Nodup) (l : List OpV) (hm : ∀ o, o ∈ l → o.t ∈ xs) : (xs.map fun t => (progOf l t).length).sum = (accs l).length := by
  rw [← progs_sum xs hx (accs l) fun o ho => hm o (List.mem_filter.1 ho).1]
  congr 1
  apply List.map_congr_left
  intro t _
  rw [progOf_eq, List.length_map]
theorem sum_eq_each (xs : List Int) (f g : Int → Nat) (h : ∀ t, t ∈ xs → f t ≤ g t) (hs : (xs.map f).sum = (xs.map g).sum) : ∀ t, t ∈ xs → f t = g t := by
  induction xs with
  | nil => intro t ht; simp at ht
  | cons z zs ih =>
    have hz := h z (by simp)
    have hle : (zs.map f).sum ≤ (zs.map g).sum := by
      have : ∀ ws : List Int, (∀ t, t ∈ ws → f t ≤ g t) → (ws.map f).sum ≤ (ws.map g).sum := by
        intro ws
        induction ws with
        | nil => intro _; simp
        | cons y ws ihw =>
          intro hh
          have h1 := hh y (by simp)
          have h2 := ihw fun t ht => hh t (List.mem_cons_of_mem _ ht)
          simp; omega
      exact this zs fun t ht => h t (List.mem_cons_of_mem _ ht)
    simp only [List.map_cons, List.sum_cons] at hs
    intro t ht
    rcases List.mem_cons.1 ht with rfl | ht
    · omega
    · exact ih (fun t ht => h t (List.mem_cons_of_mem _ ht)) (by omega) t ht
/-- Programs that are first parts of others, as many reads and writes in all: the same programs. -/
theorem progs_same (xs : List Int) (hx : xs.Nodup) (la lb : List OpV) (ha : ∀ o, o ∈ la → o.t ∈ xs) (hb : ∀ o, o ∈ lb → o.t ∈ xs) (hp : ∀ t, t ∈ xs → progOf lb t <+: progOf la t) (hl : (accs lb).length = (accs la).length) : ∀ t, t ∈ xs → progOf la t = progOf lb t := by
  have h := sum_eq_each xs (fun t => (progOf lb t).length) (fun t => (progOf la t).length) (fun t ht => (hp t ht).length_le) (by rw [accs_sum xs hx lb hb, accs_sum xs hx la ha, hl])
  intro t ht
  exact ((hp t ht).eq_of_length (h t ht)).symm
end Go.Proofs.Ybulkebqk
