/-
  One word of unite: orWord by the plain functions.
-/
import Derived.Test.YbulkebqkGrown
namespace Go.Proofs.Ybulkebqk
open Go.RowKit
set_option linter.unusedVariables false

theorem or_step {H0 base F G1 G2 N : Nat} {c : Option Nat} {wd : Int} {vl vs : Value} {qb : Nat} {tr : Bool} {ts : Int} {rs ls : List Int} {f : Nat → Int} {p i nc : Nat} {cs : List Value} {w : World} (A : Apart H0 base F G1 G2 c)
    (h : Ob H0 base F G1 G2 N c wd vl vs qb tr ts (R rs f p i) (Lg rs ls f p tr ts i) (nc + nC rs ls f p tr ts i) (cs ++ Cg rs ls f p tr ts i) w)
    (hN : (N : Int) ≤ 1000000) (hp : p + i < N) (hrs : rs.length = N) (hr : W64 (rs.getD (p + i) 0)) (hf : W64 (f i)) (hnc : nc + i ≤ 100000) :
    Calls Yba.prog 34 #[.pointer (some ⟨F, 0, none⟩), .int .i64 ((p + i : Nat) : Int), .int .u64 (f i)] w fun e w' => e = .returned (.bool (newB rs f p i)) ∧
      Ob H0 base F G1 G2 N c wd vl vs qb tr ts (R rs f p (i + 1)) (Lg rs ls f p tr ts (i + 1)) (nc + nC rs ls f p tr ts (i + 1)) (cs ++ Cg rs ls f p tr ts (i + 1)) w' ∧ Frame H0 F G1 G2 c w w' := by
  have e1 : (R rs f p i).getD (p + i) 0 = rs.getD (p + i) 0 := R_at i i (Nat.le_refl _)
  have e2 : (Lg rs ls f p tr ts i).getD (p + i) 0 = ls.getD (p + i) 0 := Lg_at i i (Nat.le_refl _)
  cases hb : newB rs f p i with
  | false =>
    have hl : logB rs ls f p tr ts i = false := by simp [logB, hb]
    have hz : (bits .andNot .u64 (f i) ((R rs f p i).getD (p + i) 0) == 0) = true := by rw [e1]; simpa [newB] using hb
    refine (or_stay h (p + i) (f i) hN hp hz).mono ?_
    rintro e w' ⟨rfl, rfl⟩
    refine ⟨rfl, ?_, Frame.refl _ _ _ _ _ _⟩
    rw [R_stay hr hf hb (by omega)]
    simpa [Lg, nC, Cg, hl] using h
  | true =>
    have hz : (bits .andNot .u64 (f i) ((R rs f p i).getD (p + i) 0) == 0) = false := by rw [e1]; simpa [newB] using hb
    cases hl : logB rs ls f p tr ts i with
    | false =>
      have hl' : (tr && ((Lg rs ls f p tr ts i).getD (p + i) 0 != ts)) = false := by rw [e2]; rw [logB, hb, Bool.true_and] at hl; exact hl
      refine (or_new A h (p + i) (f i) hN hp hz hl').mono ?_
      rintro e w' ⟨rfl, ho, hfr⟩
      rw [e1] at ho
      refine ⟨rfl, ?_, hfr⟩
      simpa [R, Lg, nC, Cg, hl] using ho
    | true =>
      rw [logB, hb, Bool.true_and, Bool.and_eq_true] at hl
      obtain ⟨htr, hne⟩ := hl
      subst htr
      have hne' : ((Lg rs ls f p true ts i).getD (p + i) 0 != ts) = true := by rw [e2]; exact hne
      have hl : logB rs ls f p true ts i = true := by rw [logB, hb, Bool.true_and, Bool.and_eq_true]; exact ⟨rfl, hne⟩
      have hnl := nC_le (rs := rs) (ls := ls) (f := f) (p := p) (tr := true) (ts := ts) i
      refine (or_log A h (p + i) (f i) hN (by omega) hp hz hne').mono ?_
      rintro e w' ⟨rfl, ho, hfr⟩
      rw [e1] at ho
      refine ⟨rfl, ?_, hfr⟩
      rw [R, Lg, nC, Cg, if_pos hl, if_pos hl, if_pos hl, ← List.append_assoc, ← Nat.add_assoc]
      exact ho
end Go.Proofs.Ybulkebqk
