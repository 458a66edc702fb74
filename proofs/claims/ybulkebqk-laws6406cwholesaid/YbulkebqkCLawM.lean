/-
  One operation of a schedule, written over.
-/
import Derived.Test.YbulkebqkCLaw0
namespace Go.Proofs.Ybulkebqk
open Go.RowKit
set_option linter.unusedVariables false

theorem opCells_set : ∀ (l : List OpV) (j : Nat) (o : OpV), j < l.length → (((opCells l).set (j * 3) (.int .u8 o.k)).set (j * 3 + 1) (.int .i64 o.t)).set (j * 3 + 2) (.string o.i) = opCells (l.set j o)
  | [], j, o, h => by simp at h
  | x :: l, 0, o, _ => by simp [opCells, OpV.cells]
  | x :: l, j + 1, o, h => by
    have ih := opCells_set l j o (by simpa using h)
    have e : ∀ (c : List Value) d (v : Value), (x.cells ++ c).set ((j + 1) * 3 + d) v = x.cells ++ c.set (j * 3 + d) v := fun c d v => by
      have : (j + 1) * 3 + d = x.cells.length + (j * 3 + d) := by simp [OpV.cells]; omega
      rw [this, List.set_append_right _ _ (by omega)]
      simp
    have e0 := fun c v => e c 0 v
    simp only [Nat.add_zero] at e0
    have h1 : opCells (x :: l) = x.cells ++ opCells l := by simp [opCells]
    have h2 : opCells ((x :: l).set (j + 1) o) = x.cells ++ opCells (l.set j o) := by simp [opCells]
    rw [h1, h2, e0, e, e, ih]
theorem set_all {P : OpV → Prop} {l : List OpV} {j : Nat} {o' : OpV} (hl : ∀ o, o ∈ l → P o) (ho : P o') : ∀ o, o ∈ l.set j o' → P o := by
  intro o h
  rcases List.mem_or_eq_of_mem_set h with h | rfl
  · exact hl o h
  · exact ho
theorem mut_fin {B g1 g2 j : Nat} {w W : World} {la lb : List OpV} (o : OpV) (hj : j < lb.length) (h1 : Row W g1 (opCells la)) (h2 : Row W g2 (opCells lb)) (hne : g1 ≠ g2) (hB : Below B w W) (hg : B ≤ g2) (ob : Obj) :
    Row ((((W.setCell ⟨g2, j * 3, none⟩ (.int .u8 o.k)).setCell ⟨g2, j * 3 + 1, none⟩ (.int .i64 o.t)).setCell ⟨g2, j * 3 + 2, none⟩ (.string o.i)).alloc ob) g1 (opCells la) ∧
    Row ((((W.setCell ⟨g2, j * 3, none⟩ (.int .u8 o.k)).setCell ⟨g2, j * 3 + 1, none⟩ (.int .i64 o.t)).setCell ⟨g2, j * 3 + 2, none⟩ (.string o.i)).alloc ob) g2 (opCells (lb.set j o)) ∧
    Below B w ((((W.setCell ⟨g2, j * 3, none⟩ (.int .u8 o.k)).setCell ⟨g2, j * 3 + 1, none⟩ (.int .i64 o.t)).setCell ⟨g2, j * 3 + 2, none⟩ (.string o.i)).alloc ob) := by
  refine ⟨?_, ?_, ?_⟩
  · exact (((h1.other _ _ hne).other _ _ hne).other _ _ hne).alloc _
  · rw [← opCells_set lb j o hj]
    exact (((h2.set _ _).set _ _).set _ _).alloc _
  · have h2l := h2.lt
    exact (((hB.setCell (p := ⟨g2, _, none⟩) hg _).setCell (p := ⟨g2, _, none⟩) hg _).setCell (p := ⟨g2, _, none⟩) hg _).alloc (by simp [World.setCell]; omega) _
end Go.Proofs.Ybulkebqk
