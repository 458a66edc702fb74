/-
  The State that newState lays (298 cells) as an array of which only what the law reads is told; the contract of newState.
-/
import Derived.Test.YbulkebogRows
import Derived.WalkKit
import Derived.WalkSpells
import Derived.Below
import Derived.Maps.OwnSet
import Derived.Laws.Tables
import Derived.Outline
namespace Go.Proofs.Ybulkebog
open Go.RowKit

/-- The cells of a State that newState lays: all zero but its slots, the map v. -/
def St (P : Program) (v : Value) : Array Value := (P.built 62 [(2, v)]).getD #[]
theorem st_size (r : Option Nat) : (St Yba.prog (.map r)).size = 298 := by kernel_rfl
theorem st0 (r : Option Nat) : (St Yba.prog (.map r))[0]? = some (.int .u64 0) := by kernel_rfl
theorem st1 (r : Option Nat) : (St Yba.prog (.map r))[1]? = some (.int .u64 0) := by kernel_rfl
theorem st2 (r : Option Nat) : (St Yba.prog (.map r))[2]? = some (.int .u64 0) := by kernel_rfl
theorem st3 (r : Option Nat) : (St Yba.prog (.map r))[3]? = some (.int .u64 0) := by kernel_rfl
theorem st4 (r : Option Nat) : (St Yba.prog (.map r))[4]? = some (.int .i64 0) := by kernel_rfl
theorem st5 (r : Option Nat) : (St Yba.prog (.map r))[5]? = some (.map r) := by kernel_rfl
theorem st297 (r : Option Nat) : (St Yba.prog (.map r))[297]? = some (.map none) := by kernel_rfl
theorem st_built (r : Option Nat) : (Yba.prog.built 62 [(2, .map r)]).isSome = true := by kernel_rfl

theorem wpList_state {ops : Array Oper} {rest : List Oper} {o : Oper} {a : Act} {w : World} {Q : Exit → Act → World → Prop} (hg : o.guard = none) (x : Operand) (ho : o.op = .build 62 #[(2, x)]) (r : Option Nat) (hx : a.eval x = .map r)
    (h : wpList Yba.prog ops Q rest (a.put o.dst (.agg (St Yba.prog (.map r)))) w) : wpList Yba.prog ops Q (o :: rest) a w := by
  refine wpList_build hg 62 _ ho ?_ ?_
  · simp only [List.map_toArray, List.map_cons, List.map_nil, hx]; exact st_built r
  · simp only [List.map_toArray, List.map_cons, List.map_nil, hx]; exact h

/-- What is known of the world behind newState: block B is an empty map, block B + 1 the State. -/
structure Fresh (w w1 : World) : Prop where
  below : Below w.heap.size w w1
  size : w1.heap.size = w.heap.size + 2
  slots : w1.heap[w.heap.size]? = some (.map #[] 0)
  c0 : w1.cell? ⟨w.heap.size + 1, 0, none⟩ = some (.int .u64 0)
  c1 : w1.cell? ⟨w.heap.size + 1, 1, none⟩ = some (.int .u64 0)
  c2 : w1.cell? ⟨w.heap.size + 1, 2, none⟩ = some (.int .u64 0)
  c3 : w1.cell? ⟨w.heap.size + 1, 3, none⟩ = some (.int .u64 0)
  c4 : w1.cell? ⟨w.heap.size + 1, 4, none⟩ = some (.int .i64 0)
  c5 : w1.cell? ⟨w.heap.size + 1, 5, none⟩ = some (.map (some w.heap.size))
  c297 : w1.cell? ⟨w.heap.size + 1, 297, none⟩ = some (.map none)
  fz : ∀ o, w1.frozen? ⟨w.heap.size + 1, o, none⟩ = false

set_option maxHeartbeats 400000 in
set_option maxRecDepth 100000 in
theorem new_any (w : World) : Calls Yba.prog 4 #[] w fun e w' => e = .returned (.pointer (some ⟨w.heap.size + 1, 0, none⟩)) ∧ w' = (w.alloc (.map #[] 0)).alloc (.cells (St Yba.prog (.map (some w.heap.size))) 62) := by
  have hmm := @run_makeMap Yba.prog
  go_enter Yba.func4, Yba.ntmps4
  go_wp2_with (refine wpList_state (by rfl) _ (by rfl) _ (by rfl) ?_)
  go_ret
  exact ⟨rfl, rfl⟩

theorem fresh_new (w : World) : Fresh w ((w.alloc (.map #[] 0)).alloc (.cells (St Yba.prog (.map (some w.heap.size))) 62)) := by
  have hc : ∀ o, ((w.alloc (.map #[] 0)).alloc (.cells (St Yba.prog (.map (some w.heap.size))) 62)).cell? ⟨w.heap.size + 1, o, none⟩ = (St Yba.prog (.map (some w.heap.size)))[o]? := by
    intro o; exact World.cell?_alloc_at _ _ _ _ (by simp)
  exact {
    below := ((Below.refl _ _).alloc (Nat.le_refl _) _).alloc (by simp) _
    size := by simp
    slots := by rw [(MapKept.heap_alloc _ _).2 _ (by simp)]; exact (MapKept.heap_alloc _ _).1
    c0 := (hc 0).trans (st0 _), c1 := (hc 1).trans (st1 _), c2 := (hc 2).trans (st2 _), c3 := (hc 3).trans (st3 _), c4 := (hc 4).trans (st4 _), c5 := (hc 5).trans (st5 _), c297 := (hc 297).trans (st297 _)
    fz := fun o => World.frozen?_alloc_at _ _ _ _ (by simp) }

theorem new_fresh (w : World) : Calls Yba.prog 4 #[] w fun e w' => e = .returned (.pointer (some ⟨w.heap.size + 1, 0, none⟩)) ∧ Fresh w w' :=
  (new_any w).mono fun _ _ ⟨he, hw⟩ => ⟨he, hw ▸ fresh_new w⟩
end Go.Proofs.Ybulkebog
