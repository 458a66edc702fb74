/-
  Rows of cells that the call lays, as lists of values: what is known of them and how it is carried.
-/
import Derived.Test.YbulkebqkRows
import Derived.WalkKit
import Derived.WalkSpells
import Derived.Below
import Derived.Laws.Tables
import Derived.Laws.CopyOwn
import Derived.Deep.OwnRows
import Derived.Deep.AppendLies
import Derived.Deep.RegionHeld3
import Derived.BigQuiet
import Derived.Deep.QuietTactic
import Derived.WalkSmall
import Derived.Outline
namespace Go.Proofs.Ybulkebqk
open Go.RowKit

/-- Block g holds the values vs in its first cells; none of its cells is frozen. -/
def Row (w : World) (g : Nat) (vs : List Value) : Prop := ∃ c t, w.heap[g]? = some (.cells c t (0, 0)) ∧ c.toList.take vs.length = vs

theorem Row.lt {w : World} {g : Nat} {vs : List Value} (h : Row w g vs) : g < w.heap.size := by
  obtain ⟨c, t, h, _⟩ := h
  exact (Array.getElem?_eq_some_iff.1 h).1

theorem Row.cell {w : World} {g : Nat} {vs : List Value} (h : Row w g vs) {i : Nat} {v : Value} (hv : vs[i]? = some v) : w.cell? ⟨g, i, none⟩ = some v := by
  obtain ⟨c, t, h, ht⟩ := h
  rw [cell_of_row w g i c t (0, 0) h]
  have hi : i < vs.length := by
    rcases Nat.lt_or_ge i vs.length with h | h
    · exact h
    · rw [List.getElem?_eq_none h] at hv; cases hv
  rw [← ht, List.getElem?_take, if_pos hi] at hv
  simpa using hv

theorem Row.cells {w : World} {g : Nat} {vs : List Value} (h : Row w g vs) (j : Nat) (v : Value) (hv : vs[j]? = some v) : w.cell? ((⟨g, 0, none⟩ : Addr).add j) = some v := by
  rw [Addr.add_lit, Nat.zero_add]
  exact h.cell hv

theorem Row.frozen {w : World} {g : Nat} {vs : List Value} (h : Row w g vs) (i : Nat) : w.frozen? ⟨g, i, none⟩ = false := by
  obtain ⟨c, t, h, _⟩ := h
  simp [World.frozen?, h]

theorem Row.same {w w' : World} {g : Nat} {vs : List Value} (h : Row w g vs) (e : w'.heap[g]? = w.heap[g]?) : Row w' g vs := by
  obtain ⟨c, t, h, ht⟩ := h
  exact ⟨c, t, e.trans h, ht⟩

theorem Row.alloc {w : World} {g : Nat} {vs : List Value} (h : Row w g vs) (o : Obj) : Row (w.alloc o) g vs := h.same (Below.heap_alloc w o g h.lt)
theorem Row.other {w : World} {g : Nat} {vs : List Value} (h : Row w g vs) (a : Addr) (u : Value) (hg : g ≠ a.block) : Row (w.setCell a u) g vs := h.same (Below.heap_setCell w a u g hg)
theorem Row.below {w w' : World} {g B : Nat} {vs : List Value} (h : Row w g vs) (hb : Below B w w') (hg : g < B) : Row w' g vs := h.same (hb.block g hg)
theorem Row.grown {w w' : World} {g : Nat} {row : Option Nat} {vs : List Value} (h : Row w g vs) (hb : w.grownBy w' row) (hg : some g ≠ row) : Row w' g vs := h.same (hb.block g h.lt hg)
theorem Row.drewN {w : World} {g : Nat} {vs : List Value} (h : Row w g vs) (n : Nat) : Row (w.drewN n) g vs := h

theorem Row.set {w : World} {g : Nat} {vs : List Value} (h : Row w g vs) (k : Nat) (v : Value) : Row (w.setCell ⟨g, k, none⟩ v) g (vs.set k v) := by
  obtain ⟨c, t, h, ht⟩ := h
  refine ⟨c.setIfInBounds k v, t, ?_, ?_⟩
  · rw [setCell_eq_setRow w g k c t (0, 0) v h, setRow_heap w g _ _ t (0, 0) h]
  · simp only [Array.toList_setIfInBounds, List.length_set]
    rw [List.take_set, ht]

theorem row_made (w : World) (z : Value) (n : Nat) (t : TypeId) : Row (w.alloc (.cells (madeCells #[z] n) t)) w.heap.size (List.replicate n z) := by
  refine ⟨_, t, (MapKept.heap_alloc w _).1, ?_⟩
  rw [toList_madeCells_one]; simp

theorem row_block {w : World} {g : Nat} {c : Array Value} {t : TypeId} (h : w.heap[g]? = some (.cells c t (0, 0))) : Row w g c.toList := ⟨c, t, h, List.take_of_length_le (Nat.le_refl _)⟩

theorem row_owned {w : World} {base g n cap : Nat} {e : TypeId} {size : Nat} {xs : List Value} (h : w.ownsRow base e size (.slice (some ⟨g, 0, none⟩) n cap) n xs) : Row w g xs := by
  rcases h.2 with ⟨h, _⟩ | ⟨g', cap', cur, hv, _, hg, _, _, _, ht⟩
  · cases h
  · simp only [Value.slice.injEq, Option.some.injEq, Addr.mk.injEq] at hv
    obtain ⟨⟨rfl, _⟩, _, rfl⟩ := hv
    refine ⟨cur, e, hg, ?_⟩
    rw [h.1]; exact ht

theorem Row.upto {w : World} {g : Nat} {vs us : List Value} (h : Row w g (vs ++ us)) : Row w g vs := by
  obtain ⟨c, t, h, ht⟩ := h
  refine ⟨c, t, h, ?_⟩
  have := congrArg (List.take vs.length) ht
  rw [List.take_take] at this
  simpa using this
end Go.Proofs.Ybulkebqk
