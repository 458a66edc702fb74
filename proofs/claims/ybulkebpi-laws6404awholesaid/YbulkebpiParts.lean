/-
  Rows of pointers that the law lays: what is known of them, and how it is carried.
-/
import Derived.Test.YbulkebpiRows
import Derived.WalkKit
import Derived.WalkSpells
import Derived.Below
import Derived.Laws.Tables
import Derived.Laws.CopyOwn
import Derived.Deep.RegionHeld3
import Derived.BigQuiet
import Derived.Deep.QuietTactic
import Derived.Outline
namespace Go.Proofs.Ybulkebpi
open Go.RowKit

/-- Block g is the row of the pointers ps. -/
def Ring (w : World) (g : Nat) (ps : List (Option Addr)) : Prop := w.heap[g]? = some (.cells (ps.map Value.pointer).toArray 29 (0, 0))

theorem Ring.lt {w : World} {g : Nat} {ps : List (Option Addr)} (h : Ring w g ps) : g < w.heap.size := (Array.getElem?_eq_some_iff.1 h).1

theorem Ring.cell {w : World} {g : Nat} {ps : List (Option Addr)} (h : Ring w g ps) (i : Nat) : w.cell? ⟨g, i, none⟩ = ps[i]?.map Value.pointer := by
  unfold Ring at h
  simp [World.cell?, h]

theorem Ring.frozen {w : World} {g : Nat} {ps : List (Option Addr)} (h : Ring w g ps) (i : Nat) : w.frozen? ⟨g, i, none⟩ = false := by
  unfold Ring at h
  simp [World.frozen?, h]

theorem Ring.alloc {w : World} {g : Nat} {ps : List (Option Addr)} (h : Ring w g ps) (o : Obj) : Ring (w.alloc o) g ps :=
  (Below.heap_alloc w o g h.lt).trans h

theorem Ring.other {w : World} {g : Nat} {ps : List (Option Addr)} (h : Ring w g ps) (a : Addr) (u : Value) (hg : g ≠ a.block) : Ring (w.setCell a u) g ps :=
  (Below.heap_setCell w a u g hg).trans h

theorem Ring.set {w : World} {g : Nat} {ps : List (Option Addr)} (h : Ring w g ps) (k : Nat) (p : Option Addr) : Ring (w.setCell ⟨g, k, none⟩ (.pointer p)) g (ps.set k p) := by
  have hlt := h.lt
  unfold Ring at *
  rw [setCell_eq_setRow w g k _ 29 (0, 0) (.pointer p) h, setRow_heap w g _ _ 29 (0, 0) h]
  simp [List.map_set]
end Go.Proofs.Ybulkebpi
