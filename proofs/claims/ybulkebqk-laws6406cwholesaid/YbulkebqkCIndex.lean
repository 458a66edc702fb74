/-
  txnNumbering.index: the place of a transaction's number.
-/
import Derived.Test.YbulkebqkCNumB
namespace Go.Proofs.Ybulkebqk
open Go.RowKit Go.Maps
set_option linter.unusedVariables false

theorem key_int (x : Int) : WideAt.IsKeyLit (.int .i64 x) := trivial
theorem idxMap_succ (xs : List Int) (k : Nat) : idxMap xs (k + 1) = (idxMap xs k).put (.int .i64 (xs.getD k 0)) (.lit (.int .i64 k)) := by simp [idxMap, List.range_succ]
theorem idxMap_is (xs : List Int) : ∀ k, IsMap (idxMap xs k)
  | 0 => isMap_empty
  | k + 1 => by rw [idxMap_succ]; exact (idxMap_is xs k).put _ _
theorem idxMap_tidy (xs : List Int) : ∀ k, Tidy (idxMap xs k)
  | 0 => tidy_empty
  | k + 1 => by rw [idxMap_succ]; exact (idxMap_tidy xs k).put (key_int _) _
/-- Different places hold different numbers. -/
def Apart (xs : List Int) : Prop := ∀ i j, i < j → j < xs.length → xs.getD i 0 ≠ xs.getD j 0
theorem asc_apart {xs : List Int} (h : xs.Pairwise (· < ·)) : Apart xs := by
  intro i j hij hj
  have := List.pairwise_iff_getElem.1 h i j (by omega) hj hij
  rw [List.getD_eq_getElem?_getD, List.getD_eq_getElem?_getD, List.getElem?_eq_getElem (by omega), List.getElem?_eq_getElem hj]
  simp; omega
theorem idxMap_at (xs : List Int) (ha : Apart xs) (z : DataW Unit) : ∀ k j, j < k → k ≤ xs.length → (idxMap xs k).atKey (.int .i64 (xs.getD j 0)) z = .lit (.int .i64 j)
  | 0, j, h, _ => by omega
  | k + 1, j, h, hk => by
    rw [idxMap_succ]
    by_cases e : j = k
    · subst e; exact atKey_put_same (idxMap_is xs j) (key_int _) _ _
    · rw [atKey_put_other (fun e' => ha j k (by omega) (by omega) (by simpa using e'))]
      exact idxMap_at xs ha z k j (by omega) (by omega)
theorem idxMap_has (xs : List Int) : ∀ k j, j < k → k ≤ xs.length → has (idxMap xs k) (.int .i64 (xs.getD j 0)) = true
  | 0, j, h, _ => by omega
  | k + 1, j, h, hk => by
    rw [idxMap_succ]
    by_cases e : xs.getD j 0 = xs.getD k 0
    · rw [e]; exact has_put_same (idxMap_is xs k) (key_int _) _
    · rw [has_put_other (fun e' => e (by simpa using e'))]
      exact idxMap_has xs k j (by
        rcases Nat.lt_or_ge j k with h' | h'
        · exact h'
        · exact absurd (by rw [show j = k by omega]) e) (by omega)
theorem idxMap_not (xs : List Int) (x : Int) : ∀ k, k ≤ xs.length → (∀ j, j < k → xs.getD j 0 ≠ x) → has (idxMap xs k) (.int .i64 x) = false
  | 0, _, _ => rfl
  | k + 1, hk, h => by
    rw [idxMap_succ, has_put_other (fun e' => h k (by omega) (by simpa using e'.symm))]
    exact idxMap_not xs x k (by omega) fun j hj => h j (by omega)
theorem idxMap_size (xs : List Int) (ha : Apart xs) : ∀ k, k ≤ xs.length → size (idxMap xs k) = k
  | 0, _ => rfl
  | k + 1, hk => by
    rw [idxMap_succ, size_put (idxMap_tidy xs k), idxMap_not xs _ k (by omega) fun j hj => ha j k hj (by omega), idxMap_size xs ha k (by omega)]
    rfl

theorem idx_at {xs : List Int} {x : Int} (h : x ∈ xs) : ∃ j, j < xs.length ∧ xs.getD j 0 = x ∧ idx0 xs x = (j : Int) := by
  have hj := List.idxOf_lt_length_iff.2 h
  refine ⟨xs.idxOf x, hj, ?_, by simp [idx0, h]⟩
  rw [List.getD_eq_getElem?_getD, List.getElem?_eq_getElem hj]
  simp

set_option maxRecDepth 20000 in
theorem index48_map (b n : Nat) (xs : List Int) (x : Int) (w : World) (hx : x ∈ xs) (ha : Apart xs) (hwf : (Lit.int .i64 x).wf = true) (hM : w.ownsMap Yba.prog 3 (plainElem Yba.prog 3) b xs.length (idxMap xs xs.length)) :
    Calls Yba.prog 48 #[.agg #[.int .i64 0, .slice none 0 0, .map (some b)], .int .i64 x] w fun e w' => e = .returned (.int .i64 (idx0 xs x)) ∧ Below w.heap.size w w' := by
  obtain ⟨j, hj, hjx, hidx⟩ := idx_at hx
  rw [hidx]
  have hat := idxMap_at xs ha (.lit (.int .i64 0)) xs.length j hj (Nat.le_refl _)
  rw [hjx] at hat
  have hkey : keyOf Yba.prog 3 (.int .i64 x) = some (.int .i64 x) := keyOf_int_mk Yba.underlying3 hwf
  have HM : Hid (w.ownsMap Yba.prog 3 (plainElem Yba.prog 3) b xs.length (idxMap xs xs.length)) := hM
  have HAT : Hid ((idxMap xs xs.length).atKey (.int .i64 x) (.lit (.int .i64 0)) = .lit (.int .i64 j)) := hat
  have hbl := hM.lt
  clear hat hM hx ha hj hjx hidx hwf
  have q : ∀ w : World, (binOp .neq 71 (.map (some b)) (.map none)).run Yba.prog w = .ok (.bool true) w := fun w => run_neq_map_nil w _ _ _ _ Yba.underlying71
  go_enter Yba.func48, Yba.ntmps48
  go_wp2_with (first
    | (at_lookup; refine wpList_lookup_own_int _ rfl _ _ 71 rfl 3 3 .i64 law3 Yba.underlying71 Yba.underlying3 (zero3 _) b xs.length _ rfl (HM.out.alloc _) _ _ rfl hkey ?_; intro c hc hwc)
    | go_in)
  go_ret
  have e : c = (j : Int) := by
    have := hc.symm.trans HAT.out
    simpa using this
  subst e
  exact ⟨by simp, (Below.refl _ _).alloc (Nat.le_refl _) _⟩

set_option maxRecDepth 20000 in
theorem index48_tab (g m : Nat) (lw x : Int) (zs : List Int) (p : Nat) (w : World) (hp : x - lw = (p : Int)) (hb : -100000 ≤ x ∧ x ≤ 100000) (hl : -100000 ≤ lw ∧ lw ≤ 100000) (hpm : p < m) (hz : zs.length = m) (hR : Row w g (ints .i64 zs)) :
    Calls Yba.prog 48 #[.agg #[.int .i64 lw, .slice (some ⟨g, 0, none⟩) m m, .map none], .int .i64 x] w fun e w' => e = .returned (.int .i64 (zs.getD p 0)) ∧ Below w.heap.size w w' := by
  have hix : wrap64 (x - lw) = (p : Int) := by rw [wrap_in _ (by omega)]; exact hp
  have c := hR.cell (ints_at .i64 zs p (by rw [hz]; exact hpm))
  have hpI : (p : Int) < (m : Int) := by omega
  obtain ⟨v, hv⟩ : ∃ v, v = zs.getD p 0 := ⟨_, rfl⟩
  rw [← hv] at c ⊢
  have hgl := hR.lt
  clear hR hv hp hb hl
  have q : ∀ w : World, (binOp .neq 71 (.map none) (.map none)).run Yba.prog w = .ok (.bool false) w := fun w => run_neq_map_nil w _ _ _ _ Yba.underlying71
  go_enter Yba.func48, Yba.ntmps48
  go_wp2_with fail
  go_ret
  exact ⟨rfl, (Below.refl _ _).alloc (Nat.le_refl _) _⟩

/-- The place that index gives to the transaction of an operation of the schedule itself. -/
theorem index48 {B : Nat} {w : World} {l : List OpV} {xs : List Int} {nv : Value} (hN : NumAt B w l xs nv) (hT : Tx l xs) (hS : Small l) (q : Nat) (hq : q < l.length) :
    Calls Yba.prog 48 #[nv, .int .i64 (l.getD q default).t] w fun e w' => e = .returned (.int .i64 (idx0 xs (l.getD q default).t)) ∧ Below w.heap.size w w' := by
  have hmem : (l.getD q default).t ∈ xs := (hT.2 _).2 ⟨l.getD q default, by
    rw [List.getD_eq_getElem?_getD, List.getElem?_eq_getElem hq]; simp, rfl⟩
  have hs := hS q hq
  rcases hN with ⟨rfl, _⟩ | ⟨h0, _, b, _, rfl, hM⟩ | ⟨h0, _, g, m, _, hm, rfl, hR⟩
  · simp at hq
  · exact index48_map b 0 xs _ w hmem (asc_apart hT.1) (WalkArith.wf_i64 (by omega)) hM
  · have h1 := lo_le l l.length q hq
    have h2 := le_hi l l.length q hq
    have hl := hS.lo h0 l.length (Nat.le_refl _)
    have hh := hS.hi h0 l.length (Nat.le_refl _)
    obtain ⟨p, hp⟩ : ∃ p : Nat, (l.getD q default).t - lo l l.length = (p : Int) := ⟨((l.getD q default).t - lo l l.length).toNat, by omega⟩
    have hpm : p < m := by omega
    refine (index48_tab g m _ _ _ p w hp (by omega) (by omega) hpm (by simp) hR).mono ?_
    rintro e w' ⟨rfl, hB⟩
    refine ⟨?_, hB⟩
    rw [List.getD_eq_getElem?_getD, List.getElem?_map, List.getElem?_range hpm]
    simp only [Option.map_some, Option.getD_some]
    rw [show lo l l.length + (p : Int) = (l.getD q default).t by omega]
end Go.Proofs.Ybulkebqk
