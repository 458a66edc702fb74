/-
  The walks of (*indexQueue).push.
-/
import Derived.Test.YbulkebqkOb
namespace Go.Proofs.Ybulkebqk
open Go.RowKit
set_option linter.unusedVariables false

/-- The bit r of a word. -/
def bt (r : Nat) : Int := IntKind.u64.wrap (2 ^ r)
theorem divs (u d r : Nat) (hd : u / 64 = d) (hr : u % 64 = r) : (u : Int).tdiv 64 = (d : Int) ∧ (u : Int) / 64 = (d : Int) ∧ (u : Int).tmod 64 = (r : Int) ∧ (u : Int) % 64 = (r : Int) := by
  refine ⟨?_, ?_, ?_, ?_⟩
  · rw [Int.tdiv_eq_ediv_of_nonneg (by omega)]; omega
  · omega
  · rw [Int.tmod_eq_emod_of_nonneg (by omega)]; omega
  · omega

/-- push where the word is not empty: one level or more. -/
theorem push_had (q gl g0 nl cap n0 u d r : Nat) (x : Int) (w : World) (hd : u / 64 = d) (hr : u % 64 = r) (hn0 : n0 ≤ 1000) (hdn : d < n0) (hl : 1 ≤ nl) (hl2 : nl ≤ 2) (cq : w.cell? ⟨q, 0, none⟩ = some (.slice (some ⟨gl, 0, none⟩) nl cap)) (cl : w.cell? ⟨gl, 0, none⟩ = some (.slice (some ⟨g0, 0, none⟩) n0 n0)) (cx : w.cell? ⟨g0, d, none⟩ = some (.int .u64 x)) (fx : w.frozen? ⟨g0, d, none⟩ = false)
   (hx : (x != 0) = true):
    Calls Yba.prog 46 #[.pointer (some ⟨q, 0, none⟩), .int .i64 u] w fun e w' => e = .returned (.tuple #[]) ∧ ∃ k, w' = (w.setCell ⟨g0, d, none⟩ (.int .u64 (bits .or .u64 x (bt r)))).drewN k := by
  obtain ⟨e1, e2, e3, e4⟩ := divs u d r hd hr
  have hr64 : r < 64 := by omega
  have hdI : (d : Int) < (n0 : Int) := by omega
  have hlI : (0 : Int) < (nl : Int) := by omega
  clear hd hr
  go_enter Yba.func46, Yba.ntmps46
  go_wp2
  refine wp_loop_rounds 1 ?_
  rw [rounds_succ]
  go_wp2
  go_region
  go_wp2
  exact bodyPost_ret (v := .tuple #[]) (by simp [results, Yba.results46, go_sem]) rfl ⟨rfl, 1, rfl⟩

/-- push where the word is empty, one level. -/
theorem push_one (q gl g0 cap u r : Nat) (x : Int) (w : World) (hd : u / 64 = 0) (hr : u % 64 = r) (cq : w.cell? ⟨q, 0, none⟩ = some (.slice (some ⟨gl, 0, none⟩) 1 cap)) (cl : w.cell? ⟨gl, 0, none⟩ = some (.slice (some ⟨g0, 0, none⟩) 1 1)) (cx : w.cell? ⟨g0, 0, none⟩ = some (.int .u64 x)) (fx : w.frozen? ⟨g0, 0, none⟩ = false)
   (hx : (x != 0) = false):
    Calls Yba.prog 46 #[.pointer (some ⟨q, 0, none⟩), .int .i64 u] w fun e w' => e = .returned (.tuple #[]) ∧ ∃ k, w' = (w.setCell ⟨g0, 0, none⟩ (.int .u64 (bits .or .u64 x (bt r)))).drewN k := by
  obtain ⟨e1, e2, e3, e4⟩ := divs u 0 r hd hr
  have hr64 : r < 64 := by omega
  clear hd hr
  go_enter Yba.func46, Yba.ntmps46
  go_wp2
  refine wp_loop_rounds 2 ?_
  rw [rounds_succ]
  go_wp2
  go_region
  go_wp2
  rw [rounds_succ]
  go_wp2
  go_end0
  exact ⟨rfl, 1, rfl⟩

/-- push where the word is empty, two levels. -/
theorem push_two (q gl g0 g1 cap n0 u d r : Nat) (x y : Int) (w : World) (hd : u / 64 = d) (hr : u % 64 = r) (hn0 : n0 ≤ 64) (hdn : d < n0) (cq : w.cell? ⟨q, 0, none⟩ = some (.slice (some ⟨gl, 0, none⟩) 2 cap)) (cl : w.cell? ⟨gl, 0, none⟩ = some (.slice (some ⟨g0, 0, none⟩) n0 n0)) (cl1 : w.cell? ⟨gl, 1, none⟩ = some (.slice (some ⟨g1, 0, none⟩) 1 1)) (cx : w.cell? ⟨g0, d, none⟩ = some (.int .u64 x)) (fx : w.frozen? ⟨g0, d, none⟩ = false)
   (cy : w.cell? ⟨g1, 0, none⟩ = some (.int .u64 y)) (fy : w.frozen? ⟨g1, 0, none⟩ = false) (h01 : g0 ≠ g1) (hl0 : g0 ≠ gl) (hl1 : g1 ≠ gl) (hx : (x != 0) = false):
    Calls Yba.prog 46 #[.pointer (some ⟨q, 0, none⟩), .int .i64 u] w fun e w' => e = .returned (.tuple #[]) ∧ ∃ k, w' = ((w.setCell ⟨g0, d, none⟩ (.int .u64 (bits .or .u64 x (bt r)))).setCell ⟨g1, 0, none⟩ (.int .u64 (bits .or .u64 y (bt d)))).drewN k := by
  obtain ⟨e1, e2, e3, e4⟩ := divs u d r hd hr
  obtain ⟨f1, f2, f3, f4⟩ := divs d 0 d (by omega) (by omega)
  have hr64 : r < 64 := by omega
  have hdI : (d : Int) < (n0 : Int) := by omega
  have h10 : g1 ≠ g0 := fun h => h01 h.symm
  have hh0 : gl ≠ g0 := fun h => hl0 h.symm
  have hh1 : gl ≠ g1 := fun h => hl1 h.symm
  clear hd hr
  go_enter Yba.func46, Yba.ntmps46
  go_wp2
  refine wp_loop_rounds 3 ?_
  rw [rounds_succ]
  go_wp2
  go_region
  go_wp2
  rw [rounds_succ]
  go_wp2
  by_cases hy : (y != 0) = true
  · go_wp2
    go_region
    go_wp2
    exact bodyPost_ret (v := .tuple #[]) (by simp [results, Yba.results46, go_sem]) rfl ⟨rfl, 2, rfl⟩
  · have hy' : (y != 0) = false := by simpa using hy
    clear hy
    go_wp2
    go_region
    go_wp2
    rw [rounds_succ]
    go_wp2
    go_end0
    exact ⟨rfl, 2, rfl⟩
end Go.Proofs.Ybulkebqk
