/-
  The contract of zzs6406bsameq: two queues that hold the same words are told the same.
-/
import Derived.Test.YbulkebqkQueue
namespace Go.Proofs.Ybulkebqk
open Go.RowKit
set_option linter.unusedVariables false

/-- Two rows of the same words, behind new blocks and draws. -/
theorem same_rows {w : World} {g h : Nat} {zs : List Int} (hg : Row w g (ints .u64 zs)) (hh : Row w h (ints .u64 zs)) (n c1 c2 : Nat) (hn : zs.length = n) (hm : n ≤ 1000) {W : World} (e1 : W.heap[g]? = w.heap[g]?) (e2 : W.heap[h]? = w.heap[h]?) :
    Calls Yba.prog 11 #[.slice (some ⟨g, 0, none⟩) n c1, .slice (some ⟨h, 0, none⟩) n c2] W fun e w' => e = .returned (.bool true) ∧ ∃ k, w' = W.drewN k :=
  equal11_some g 0 h 0 n c1 c2 (fun i => zs.getD i 0) W (by omega) (fun i hi => by rw [Nat.zero_add]; exact (hg.same e1).cell (ints_at _ _ _ (by omega))) (fun i hi => by rw [Nat.zero_add]; exact (hh.same e2).cell (ints_at _ _ _ (by omega)))

set_option maxHeartbeats 400000 in
theorem sameq1 (gl g0 cap hl h0 cap2 : Nat) (zs : List Int) (w : World) (hz : zs.length = 1) (rl : Row w gl [.slice (some ⟨g0, 0, none⟩) 1 1]) (r0 : Row w g0 (ints .u64 zs)) (sl : Row w hl [.slice (some ⟨h0, 0, none⟩) 1 1]) (s0 : Row w h0 (ints .u64 zs)) :
    Calls Yba.prog 15 #[.agg #[.slice (some ⟨gl, 0, none⟩) 1 cap], .agg #[.slice (some ⟨hl, 0, none⟩) 1 cap2]] w fun e w' => e = .returned (.bool true) ∧ Below w.heap.size w w' := by
  have c0 : w.cell? ⟨gl, 0, none⟩ = some (.slice (some ⟨g0, 0, none⟩) 1 1) := rl.cell rfl
  have d0 : w.cell? ⟨hl, 0, none⟩ = some (.slice (some ⟨h0, 0, none⟩) 1 1) := sl.cell rfl
  have k1 := rl.lt
  have k2 := sl.lt
  have l1 := r0.lt
  have l2 := s0.lt
  have R0 : Hid (Row w g0 (ints .u64 zs)) := r0
  have S0 : Hid (Row w h0 (ints .u64 zs)) := s0
  have HZ : Hid (zs.length = 1) := hz
  clear rl r0 sl s0 hz
  go_enter Yba.func15, Yba.ntmps15
  go_wp2
  have eqb : ∀ g k, g < w.heap.size → (((w.alloc (.cells #[.slice (some ⟨gl, 0, none⟩) 1 cap] 36)).alloc (.cells #[.slice (some ⟨hl, 0, none⟩) 1 cap2] 36)).drewN k).heap[g]? = w.heap[g]? := fun g k hg => (Below.heap_alloc _ _ _ (by simp; omega)).trans (Below.heap_alloc _ _ _ hg)
  have eqb2 : ∀ g k k', g < w.heap.size → ((((w.alloc (.cells #[.slice (some ⟨gl, 0, none⟩) 1 cap] 36)).alloc (.cells #[.slice (some ⟨hl, 0, none⟩) 1 cap2] 36)).drewN k).drewN k').heap[g]? = w.heap[g]? := fun g k _ hg => eqb g k hg
  refine wp_loop_rounds 2 ?_
  rw [rounds_succ]
  go_wp2
  go_quiet ((go_at_call 11; exact Calls.quiet_of (same_rows R0.out S0.out 1 1 1 HZ.out (by omega) (eqb _ _ (by omega)) (eqb _ _ (by omega)))))
  go_wp2
  rw [rounds_succ]
  go_wp2
  go_ret
  exact ⟨rfl, below_drewN (((Below.refl _ _).alloc (Nat.le_refl _) _).alloc (by simp) _) _⟩

set_option maxHeartbeats 400000 in
theorem sameq2 (gl g0 g1 cap hl h0 h1 cap2 n0 : Nat) (zs : List Int) (y : Int) (w : World) (hz : zs.length = n0) (hn0 : n0 ≤ 1000) (rl : Row w gl [.slice (some ⟨g0, 0, none⟩) n0 n0, .slice (some ⟨g1, 0, none⟩) 1 1]) (r0 : Row w g0 (ints .u64 zs)) (sl : Row w hl [.slice (some ⟨h0, 0, none⟩) n0 n0, .slice (some ⟨h1, 0, none⟩) 1 1]) (s0 : Row w h0 (ints .u64 zs)) (r1 : Row w g1 (ints .u64 [y])) (s1 : Row w h1 (ints .u64 [y])) :
    Calls Yba.prog 15 #[.agg #[.slice (some ⟨gl, 0, none⟩) 2 cap], .agg #[.slice (some ⟨hl, 0, none⟩) 2 cap2]] w fun e w' => e = .returned (.bool true) ∧ Below w.heap.size w w' := by
  have c0 : w.cell? ⟨gl, 0, none⟩ = some (.slice (some ⟨g0, 0, none⟩) n0 n0) := rl.cell rfl
  have d0 : w.cell? ⟨hl, 0, none⟩ = some (.slice (some ⟨h0, 0, none⟩) n0 n0) := sl.cell rfl
  have c1 : w.cell? ⟨gl, 1, none⟩ = some (.slice (some ⟨g1, 0, none⟩) 1 1) := rl.cell rfl
  have d1 : w.cell? ⟨hl, 1, none⟩ = some (.slice (some ⟨h1, 0, none⟩) 1 1) := sl.cell rfl
  have l3 := r1.lt
  have l4 := s1.lt
  have k1 := rl.lt
  have k2 := sl.lt
  have l1 := r0.lt
  have l2 := s0.lt
  have R0 : Hid (Row w g0 (ints .u64 zs)) := r0
  have S0 : Hid (Row w h0 (ints .u64 zs)) := s0
  have R1 : Hid (Row w g1 (ints .u64 [y])) := r1
  have S1 : Hid (Row w h1 (ints .u64 [y])) := s1
  have HZ : Hid (zs.length = n0) := hz
  clear rl r0 sl s0 hz r1 s1
  go_enter Yba.func15, Yba.ntmps15
  go_wp2
  have eqb : ∀ g k, g < w.heap.size → (((w.alloc (.cells #[.slice (some ⟨gl, 0, none⟩) 2 cap] 36)).alloc (.cells #[.slice (some ⟨hl, 0, none⟩) 2 cap2] 36)).drewN k).heap[g]? = w.heap[g]? := fun g k hg => (Below.heap_alloc _ _ _ (by simp; omega)).trans (Below.heap_alloc _ _ _ hg)
  have eqb2 : ∀ g k k', g < w.heap.size → ((((w.alloc (.cells #[.slice (some ⟨gl, 0, none⟩) 2 cap] 36)).alloc (.cells #[.slice (some ⟨hl, 0, none⟩) 2 cap2] 36)).drewN k).drewN k').heap[g]? = w.heap[g]? := fun g k _ hg => eqb g k hg
  refine wp_loop_rounds 3 ?_
  rw [rounds_succ]
  go_wp2
  go_quiet ((go_at_call 11; exact Calls.quiet_of (same_rows R0.out S0.out n0 n0 n0 HZ.out hn0 (eqb _ _ (by omega)) (eqb _ _ (by omega)))))
  go_wp2
  rw [rounds_succ]
  go_wp2
  obtain ⟨Wx, hWx⟩ : ∃ Wx, Wx = ((w.alloc (.cells #[.slice (some ⟨gl, 0, none⟩) 2 cap] 36)).alloc (.cells #[.slice (some ⟨hl, 0, none⟩) 2 cap2] 36)).drewN nq := ⟨_, rfl⟩
  have x1 : Wx.cell? ⟨gl, 1, none⟩ = some (.slice (some ⟨g1, 0, none⟩) 1 1) := by rw [hWx]; exact (World.cell?_of_block (eqb _ _ k1)).trans c1
  have x2 : Wx.cell? ⟨hl, 1, none⟩ = some (.slice (some ⟨h1, 0, none⟩) 1 1) := by rw [hWx]; exact (World.cell?_of_block (eqb _ _ k2)).trans d1
  have x3 : Wx.cell? ⟨w.heap.size, 0, none⟩ = some (.slice (some ⟨gl, 0, none⟩) 2 cap) := by rw [hWx]; simp
  have x4 : Wx.cell? ⟨w.heap.size + 1, 0, none⟩ = some (.slice (some ⟨hl, 0, none⟩) 2 cap2) := by rw [hWx]; simp
  have eqx : ∀ g k, g < w.heap.size → (Wx.drewN k).heap[g]? = w.heap[g]? := fun g k hg => by rw [hWx]; exact eqb g 0 hg
  have hBx : Below w.heap.size w Wx := by rw [hWx]; exact below_drewN (((Below.refl _ _).alloc (Nat.le_refl _) _).alloc (by simp) _) _
  rw [← hWx]
  clear hWx eqb
  go_quiet ((go_at_call 11; exact Calls.quiet_of (same_rows R1.out S1.out 1 1 1 (by rfl) (by omega) (by exact eqx _ _ (by omega)) (by exact eqx _ _ (by omega)))))
  go_wp2
  rw [rounds_succ]
  go_wp2
  go_ret
  exact ⟨rfl, below_drewN hBx _⟩

end Go.Proofs.Ybulkebqk
