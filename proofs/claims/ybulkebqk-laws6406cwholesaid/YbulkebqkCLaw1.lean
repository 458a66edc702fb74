/-
  Slices.Clone of items; the index kept; what the law knows once the schedules have proved alike.
-/
import Derived.Test.YbulkebqkCLaw0
namespace Go.Proofs.Ybulkebqk
open Go.RowKit
set_option linter.unusedVariables false
set_option maxRecDepth 100000

theorem clone20_none (c : Nat) (w : World) : Calls Yba.prog 20 #[.slice none 0 c] w fun e w' => e = .returned (.slice none 0 0) ∧ w' = w := by
  have q : ∀ (w : World), (binOp .eql 69 (.slice none 0 c) (.slice none 0 0)).run Yba.prog w = .ok (.bool true) w := fun w => Lib.run_eql_slice_nil w _ _ _ _ _ _ _ Yba.underlying69
  go_enter Yba.func20, Yba.ntmps20
  go_wp2
  go_ret
  exact ⟨rfl, rfl⟩
/-- slices.Clone of items: the copy holds the same strings. -/
theorem clone20_at (a : Option Addr) (n c : Nat) (ys : List ByteArray) (w : World) (hn : ys.length = n) (bn : n ≤ 1000000) (hA : At w a (strs ys)) :
    Calls Yba.prog 20 #[.slice a n c] w fun e w' => ∃ a' c', e = .returned (.slice a' n c') ∧ At w' a' (strs ys) ∧ Below w.heap.size w w' := by
  cases a with
  | none =>
    have h0 : n = 0 := by
      rcases Nat.eq_zero_or_pos n with h | h
      · exact h
      · obtain ⟨g, e, _⟩ := hA (by rw [strs_len]; omega)
        cases e
    subst h0
    refine (clone20_none c w).mono ?_
    rintro e w' ⟨rfl, rfl⟩
    exact ⟨none, 0, rfl, hA, Below.refl _ _⟩
  | some a =>
    refine (clone20_some a n c (strs ys) w bn (by rw [strs_len]; omega) (fun u hu => by
      obtain ⟨x, _, rfl⟩ := List.mem_map.1 hu
      rfl) (fun j u hu => by
      have hj : j < (strs ys).length := by rcases Nat.lt_or_ge j (strs ys).length with h | h; exact h; rw [List.getElem?_eq_none h] at hu; cases hu
      obtain ⟨g, e, hR⟩ := hA (by omega)
      cases e
      rw [show ((⟨g, 0, none⟩ : Addr).add j) = ⟨g, j, none⟩ from by unfold Addr.add; split <;> simp_all]
      exact hR.cell hu)).mono ?_
    rintro e w' ⟨g, cap, rfl, hg, hR, hB⟩
    exact ⟨some ⟨g, 0, none⟩, cap, rfl, fun _ => ⟨g, rfl, hR⟩, hB⟩

theorem add0 (g j : Nat) : ((⟨g, 0, none⟩ : Addr).add j) = ⟨g, j, none⟩ := by unfold Addr.add; split <;> simp_all
theorem io_one (os : List IOp) : ∀ u, u ∈ ioCells os → u.oneCell' = true := by
  intro u hu
  obtain ⟨x, _, hx⟩ := List.mem_flatMap.1 hu
  simp only [IOp.cells, List.mem_cons, List.not_mem_nil, or_false] at hx
  rcases hx with rfl | rfl | rfl | rfl <;> rfl
theorem op_one (os : List OpV) : ∀ u, u ∈ opCells os → u.oneCell' = true := by
  intro u hu
  obtain ⟨x, _, hx⟩ := List.mem_flatMap.1 hu
  simp only [OpV.cells, List.mem_cons, List.not_mem_nil, or_false] at hx
  rcases hx with rfl | rfl | rfl <;> rfl
theorem IxAt.below {w w' : World} {X B : Nat} {l : List OpV} {xs : List Int} {ys : List ByteArray} (h : IxAt w X l xs ys) (hB : Below B w w') (hw : w.heap.size ≤ B) : IxAt w' X l xs ys := by
  obtain ⟨gT, cT, k1, G, cO, Sg, Lg, ml, Pg, E, n1, a1, abv, t9, t10, t11, os, T, I, hos, hT, hI, hn1, hX, hRT, hA1, hG, hml, hSg, hLg, hPg, hE, hAb, hNum⟩ := h
  have up : ∀ b, b < w.heap.size → w'.heap[b]? = w.heap[b]? := fun b hb => hB.block b (by omega)
  refine ⟨gT, cT, k1, G, cO, Sg, Lg, ml, Pg, E, n1, a1, abv, t9, t10, t11, os, T, I, hos, hT, hI, hn1, hX.same (up _ hX.lt), hRT.same (up _ hRT.lt), fun h => ?_, hG.same (up _ hG.lt), hml, hSg.same (up _ hSg.lt), hLg.same (up _ hLg.lt), hPg.same (up _ hPg.lt), hE.same (up _ hE.lt), ?_, hNum.kept (Nat.le_refl _) fun b _ hb => up b hb⟩
  · obtain ⟨g, e, hr⟩ := hA1 h
    exact ⟨g, e, hr.same (up g hr.lt)⟩
  · revert hAb
    cases absUp xs l l.length with
    | none => exact id
    | some bs =>
      rintro ⟨g, h1, h2, h3⟩
      exact ⟨g, h1, h2, h3.same (up g h3.lt)⟩

/-- What the law knows once the two schedules have proved alike: its inputs and the index at X, in the world W. -/
structure LawAt (B : Nat) (w0 W : World) (g1 g2 n m X p : Nat) (aT : Option Addr) (la lb : List OpV) (xa : List Int) : Prop where
  lenA : la.length = n
  lenB : lb.length = m
  bn : n ≤ 65536
  bm : m ≤ 65536
  lenX : xa.length = p
  pn : p ≤ n
  pm : p ≤ m
  ta : Tx la xa
  tb : Tx lb xa
  same : SameP la lb xa
  small : Small lb
  ra : Row W g1 (opCells la)
  rb : Row W g2 (opCells lb)
  at' : At W aT (ints .i64 xa)
  ix : IxAt W X lb xa (itemsUp la la.length)
  below : Below B w0 W
  size : B ≤ W.heap.size
theorem LawAt.next {B : Nat} {w0 W w : World} {g1 g2 n m X p : Nat} {aT : Option Addr} {la lb : List OpV} {xa : List Int} (H : LawAt B w0 W g1 g2 n m X p aT la lb xa) (h : Below W.heap.size W w) : LawAt B w0 w g1 g2 n m X p aT la lb xa :=
  ⟨H.lenA, H.lenB, H.bn, H.bm, H.lenX, H.pn, H.pm, H.ta, H.tb, H.same, H.small, H.ra.below h H.ra.lt, H.rb.below h H.rb.lt, H.at'.below h, H.ix.below h (Nat.le_refl _), H.below.trans (h.mono H.size), Nat.le_trans H.size h.size⟩
end Go.Proofs.Ybulkebqk
