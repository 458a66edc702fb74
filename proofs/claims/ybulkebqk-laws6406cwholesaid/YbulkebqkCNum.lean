/-
  numberTransactions: the transactions of a schedule, and how their numbers are found.
-/
import Derived.Test.YbulkebqkCPlain
import Derived.Maps.Own
import Derived.Maps.OwnOps
import Derived.Maps.OwnSet
import Derived.Maps.Views
namespace Go.Proofs.Ybulkebqk
open Go.RowKit Go.Maps
set_option linter.unusedVariables false

theorem makeMap71 (n : Nat) (w : World) : (Instr.makeMap 71 (some (.int .i64 (n : Int)))).run Yba.prog w = .ok (.map (some w.heap.size)) (w.alloc (.map #[] 0)) := by
  simp [Instr.makeMap, run_underlying Yba.underlying71, asInt, asIntOf, Result.andThen]

theorem num39_nil (g cap : Nat) (w : World) (hR : Row w g (opCells [])) :
    Calls Yba.prog 39 #[.slice (some ⟨g, 0, none⟩) 0 cap] w fun e w' => ∃ g', e = .returned (.tuple #[.slice (some ⟨g', 0, none⟩) 0 0, .agg #[.int .i64 0, .slice none 0 0, .map none]]) ∧ w.heap.size ≤ g' ∧ g' < w'.heap.size ∧ Row w' g' (ints .i64 []) ∧ Below w.heap.size w w' := by
  have HR : Hid (Row w g (opCells [])) := hR
  clear hR
  go_enter Yba.func39, Yba.ntmps39
  go_wp2_with fail
  refine (txs47 g 0 cap [] _ rfl (by omega) (HR.out.alloc _)).mono ?_
  rintro e W1 ⟨g', he, hg, hrow, hB⟩
  have ht : txOf [] = [] := by simp [txOf, Lib.compact, Lib.compactUpTo]
  rw [ht] at he hrow
  simp only [List.length_nil] at he
  subst he
  have hn : Row (w.alloc (.cells #[.int .i64 0, .slice none 0 0, .map none] 73)) w.heap.size [.int .i64 0, .slice none 0 0, .map none] := row_block (heap_alloc_new w _)
  rw [World.size_alloc] at hg hB
  have hn1 := hn.below hB (by omega)
  have c0 := hn1.cell (i := 0) rfl
  have c1 := hn1.cell (i := 1) rfl
  have c2 := hn1.cell (i := 2) rfl
  have f0 := hn1.frozen 0
  have f1 := hn1.frozen 1
  have f2 := hn1.frozen 2
  have HRW : Hid (Row W1 g' (ints .i64 [])) := hrow
  clear hn hn1 hrow ht
  go_wp2_with fail
  refine bodyPost_ret (v := .tuple #[.slice (some ⟨g', 0, none⟩) 0 0, .agg #[.int .i64 0, .slice none 0 0, .map none]]) (by simp [results, Yba.results39, go_sem, c0, c1, c2]) rfl ?_
  have hBW : Below w.heap.size w W1 := ((Below.refl _ _).alloc (Nat.le_refl _) _).trans (hB.mono (by omega))
  refine ⟨g', rfl, by omega, by simpa using HRW.out.lt, ?_, ?_⟩
  · exact ((HRW.out.other ⟨w.heap.size, 0, none⟩ _ (by simp; omega)).other ⟨w.heap.size, 1, none⟩ _ (by simp; omega)).other ⟨w.heap.size, 2, none⟩ _ (by simp; omega)
  · exact ((hBW.setCell (p := ⟨w.heap.size, 0, none⟩) (Nat.le_refl _) _).setCell (p := ⟨w.heap.size, 1, none⟩) (Nat.le_refl _) _).setCell (p := ⟨w.heap.size, 2, none⟩) (Nat.le_refl _) _

/-- The least and the greatest transaction of the first k operations. -/
def lo (l : List OpV) (k : Nat) : Int := (List.range k).foldl (fun m j => min m (l.getD j default).t) (l.getD 0 default).t
def hi (l : List OpV) (k : Nat) : Int := (List.range k).foldl (fun m j => max m (l.getD j default).t) (l.getD 0 default).t
theorem lo_succ (l : List OpV) (k : Nat) : lo l (k + 1) = min (lo l k) (l.getD k default).t := by simp [lo, List.range_succ]
theorem hi_succ (l : List OpV) (k : Nat) : hi l (k + 1) = max (hi l k) (l.getD k default).t := by simp [hi, List.range_succ]
theorem lo_le (l : List OpV) : ∀ k j, j < k → lo l k ≤ (l.getD j default).t
  | 0, j, h => by omega
  | k + 1, j, h => by
    rw [lo_succ]
    by_cases e : j = k
    · subst e; omega
    · have := lo_le l k j (by omega); omega
theorem le_hi (l : List OpV) : ∀ k j, j < k → (l.getD j default).t ≤ hi l k
  | 0, j, h => by omega
  | k + 1, j, h => by
    rw [hi_succ]
    by_cases e : j = k
    · subst e; omega
    · have := le_hi l k j (by omega); omega
/-- All transactions are small numbers. -/
def Small (l : List OpV) : Prop := ∀ j, j < l.length → -1000 ≤ (l.getD j default).t ∧ (l.getD j default).t ≤ 1000
theorem Small.lo {l : List OpV} (h : Small l) (h0 : 0 < l.length) : ∀ k, k ≤ l.length → -1000 ≤ lo l k ∧ lo l k ≤ 1000
  | 0, _ => by simpa [Ybulkebqk.lo] using h 0 h0
  | k + 1, hk => by
    rw [lo_succ]
    have := h.lo h0 k (by omega); have := h k (by omega); omega
theorem Small.hi {l : List OpV} (h : Small l) (h0 : 0 < l.length) : ∀ k, k ≤ l.length → -1000 ≤ hi l k ∧ hi l k ≤ 1000
  | 0, _ => by simpa [Ybulkebqk.hi] using h 0 h0
  | k + 1, hk => by
    rw [hi_succ]
    have := h.hi h0 k (by omega); have := h k (by omega); omega
end Go.Proofs.Ybulkebqk
