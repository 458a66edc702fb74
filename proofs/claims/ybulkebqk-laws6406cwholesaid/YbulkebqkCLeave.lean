/-
  zzs6406cinterleave: some of the operations of the schedule, no more than it has.
-/
import Derived.Test.YbulkebqkCBlk
import Derived.Test.YbulkebqkCIop
import Derived.Test.YbulkebqkCPairs0
import Derived.Test.YbulkebqkCBuild
import Derived.Maps.AppendAt
namespace Go.Proofs.Ybulkebqk
open Go.RowKit
set_option linter.unusedVariables false

/-- Five rows of places below n, each in a block of its own. -/
structure Five (w : World) (base n : Nat) (vs : List Value) (qs : List (List Nat)) : Prop where
  lv : vs.length = 5
  lq : qs.length = 5
  own : ∀ c, c < 5 → w.ownsRow base 3 1 (vs.getD c default) (qs.getD c []).length (nats (qs.getD c []))
  lt : ∀ c, c < 5 → ∀ x, x ∈ qs.getD c [] → x < n
  ne : ∀ c d, c < 5 → d < 5 → c ≠ d → ∀ g, (vs.getD c default).ownBlock = some g → (vs.getD d default).ownBlock ≠ some g

theorem Five.same {w w' : World} {base n : Nat} {vs : List Value} {qs : List (List Nat)} (h : Five w base n vs qs) (hs : ∀ c g, c < 5 → (vs.getD c default).ownBlock = some g → w'.heap[g]? = w.heap[g]?) : Five w' base n vs qs :=
  ⟨h.lv, h.lq, fun c hc => owns_same (h.own c hc) fun g hg => hs c g hc hg, h.lt, h.ne⟩
theorem Five.block {w : World} {base n : Nat} {vs : List Value} {qs : List (List Nat)} (h : Five w base n vs qs) {c g : Nat} (hc : c < 5) (hg : (vs.getD c default).ownBlock = some g) : base ≤ g ∧ g < w.heap.size := (h.own c hc).lt g hg
theorem Five.alloc {w : World} {base n : Nat} {vs : List Value} {qs : List (List Nat)} (h : Five w base n vs qs) (o : Obj) : Five (w.alloc o) base n vs qs := h.same fun c g hc hg => Below.heap_alloc _ _ _ (h.block hc hg).2
theorem Five.below {w w' : World} {base n : Nat} {vs : List Value} {qs : List (List Nat)} (h : Five w base n vs qs) (hb : Below w.heap.size w w') : Five w' base n vs qs := h.same fun c g hc hg => hb.block g (h.block hc hg).2
theorem Five.mono {w : World} {base n m : Nat} {vs : List Value} {qs : List (List Nat)} (h : Five w base n vs qs) (hm : n ≤ m) : Five w base m vs qs := ⟨h.lv, h.lq, h.own, fun c hc x hx => Nat.lt_of_lt_of_le (h.lt c hc x hx) hm, h.ne⟩
theorem Five.nil (w : World) (base : Nat) : Five w base 0 (List.replicate 5 (.slice none 0 0)) (List.replicate 5 []) := by
  have hv : ∀ c, c < 5 → (List.replicate 5 (Value.slice none 0 0)).getD c default = .slice none 0 0 := fun c hc => by rw [List.getD_eq_getElem?_getD, List.getElem?_replicate, if_pos hc]; rfl
  have hq : ∀ c, c < 5 → (List.replicate 5 ([] : List Nat)).getD c [] = [] := fun c hc => by rw [List.getD_eq_getElem?_getD, List.getElem?_replicate, if_pos hc]; rfl
  refine ⟨rfl, rfl, fun c hc => ?_, fun c hc x hx => ?_, fun c d hc hd _ g hg => ?_⟩
  · rw [hv c hc, hq c hc]; exact World.ownsRow_nil _ _ _ _
  · rw [hq c hc] at hx; simp at hx
  · rw [hv c hc] at hg; simp [Value.ownBlock] at hg

/-- A place is appended to one of the five. -/
theorem Five.push {w w' : World} {base n c x : Nat} {vs : List Value} {qs : List (List Nat)} {v' : Value} (h : Five w base n vs qs) (hc : c < 5) (hx : x < n) (hown : w'.ownsRow base 3 1 v' ((qs.getD c []).length + 1) (nats (qs.getD c []) ++ [.int .i64 (x : Int)]))
    (hgr : w.grownBy w' (vs.getD c default).ownBlock) (hat : v'.ownBlock = (vs.getD c default).ownBlock ∨ v'.ownBlock = some w.heap.size) : Five w' base n (vs.set c v') (qs.set c (qs.getD c [] ++ [x])) := by
  have gv : ∀ d, (vs.set c v').getD d default = if c = d then v' else vs.getD d default := fun d => getD_set _ _ _ _ _ (by rw [h.lv]; exact hc)
  have gq : ∀ d, (qs.set c (qs.getD c [] ++ [x])).getD d [] = if c = d then qs.getD c [] ++ [x] else qs.getD d [] := fun d => getD_set _ _ _ _ _ (by rw [h.lq]; exact hc)
  have old : ∀ d g, d < 5 → d ≠ c → (vs.getD d default).ownBlock = some g → v'.ownBlock ≠ some g := by
    intro d g hd hdc hg e
    rcases hat with e' | e'
    · rw [e] at e'; exact h.ne d c hd hc hdc g hg e'.symm
    · rw [e] at e'
      have := (h.block hd hg).2
      simp only [Option.some.injEq] at e'
      omega
  refine ⟨by rw [List.length_set]; exact h.lv, by rw [List.length_set]; exact h.lq, fun d hd => ?_, fun d hd y hy => ?_, fun d e hd he hde g hg => ?_⟩
  · rw [gv, gq]
    by_cases e : c = d
    · rw [if_pos e, if_pos e]
      have en : nats (qs.getD c [] ++ [x]) = nats (qs.getD c []) ++ [.int .i64 (x : Int)] := by simp [nats]
      rw [en]
      simpa using hown
    · rw [if_neg e, if_neg e]
      exact owns_same (h.own d hd) fun g hg => hgr.block g (h.block hd hg).2 fun e' => h.ne d c hd hc (Ne.symm e) g hg e'.symm
  · rw [gq] at hy
    by_cases e : c = d
    · rw [if_pos e] at hy
      rcases List.mem_append.1 hy with h1 | h1
      · exact h.lt c hc y h1
      · rw [List.mem_singleton.1 h1]; exact hx
    · rw [if_neg e] at hy
      exact h.lt d hd y hy
  · rw [gv] at hg ⊢
    by_cases e1 : c = d
    · rw [if_pos e1] at hg
      rw [if_neg (by omega)]
      exact fun e' => old e g he (by omega) e' hg
    · rw [if_neg e1] at hg
      by_cases e2 : c = e
      · rw [if_pos e2]
        exact old d g hd (Ne.symm e1) hg
      · rw [if_neg e2]
        exact h.ne d e hd he hde g hg

theorem sum_set (l : List Nat) : ∀ c, c < l.length → (l.set c (l.getD c 0 + 1)).sum = l.sum + 1 := by
  induction l with
  | nil => intro c h; simp at h
  | cons x l ih =>
    intro c h
    cases c with
    | zero => simp; omega
    | succ c =>
      have := ih c (by simpa using h)
      simp only [List.set_cons_succ, List.getD_cons_succ, List.sum_cons, this]
      omega
theorem sum_le (l m : List Nat) (hl : l.length = m.length) (h : ∀ c, c < l.length → l.getD c 0 ≤ m.getD c 0) : l.sum ≤ m.sum := by
  induction l generalizing m with
  | nil => simp
  | cons x l ih =>
    cases m with
    | nil => simp at hl
    | cons y m =>
      have h0 := h 0 (by simp)
      have h1 := ih m (by simpa using hl) (fun c hc => by have := h (c + 1) (by simpa using hc); simpa using this)
      simp at h0
      simp; omega
theorem lens_set (qs : List (List Nat)) (c x : Nat) : (qs.set c (qs.getD c [] ++ [x])).map List.length = (qs.map List.length).set c ((qs.map List.length).getD c 0 + 1) := by
  rw [List.map_set]
  congr 1
  simp [List.getD_eq_getElem?_getD, List.getElem?_map]
  cases qs[c]? <;> simp
theorem lens_at (qs : List (List Nat)) (c : Nat) : (qs.map List.length).getD c 0 = (qs.getD c []).length := by
  simp [List.getD_eq_getElem?_getD, List.getElem?_map]
  cases qs[c]? <;> simp
end Go.Proofs.Ybulkebqk
