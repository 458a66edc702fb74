/-
  The contract of traceVotes.
-/
import Derived.Test.YbulkebogNew
namespace Go.Proofs.Ybulkebog
open Go.RowKit

theorem trace_off (b : Nat) (v : Value) (w : World) (h : w.cell? ⟨b, 297, none⟩ = some v) (hf : w.frozen? ⟨b, 297, none⟩ = false) :
    Calls Yba.prog 5 #[.pointer (some ⟨b, 0, none⟩), .bool false] w fun e w' => e = .returned (.tuple #[]) ∧ w' = w.setCell ⟨b, 297, none⟩ (.map none) := by
  go_enter Yba.func5, Yba.ntmps5
  go_wp2
  go_end0
  exact ⟨rfl, rfl⟩

theorem trace_on (b : Nat) (v : Value) (w : World) (h : w.cell? ⟨b, 297, none⟩ = some v) (hf : w.frozen? ⟨b, 297, none⟩ = false) (hb : b < w.heap.size) :
    Calls Yba.prog 5 #[.pointer (some ⟨b, 0, none⟩), .bool true] w fun e w' => e = .returned (.tuple #[]) ∧ w' = ((w.setCell ⟨b, 297, none⟩ (.map none)).setCell ⟨b, 297, none⟩ (.map (some w.heap.size))).alloc (.map #[] 0) := by
  have hmm := @run_makeMap Yba.prog
  go_enter Yba.func5, Yba.ntmps5
  go_wp2
  go_end0
  exact ⟨rfl, rfl⟩

/-- How an element of a map reads where nothing is asked of it. -/
def anyElem (_ : Value) : Option (DataW Unit × List MemPlace) := some (.lit (.bool true), [])

theorem own_empty {w1 : World} {B : Nat} (k : TypeId) (h : w1.heap[B]? = some (.map #[] 0)) : w1.ownsMap Yba.prog k anyElem B 0 (.map []) :=
  ⟨#[], 0, h, ⟨by simp, MapKept.stamped_empty 0, by simp⟩, Nat.le_refl _, rfl⟩

/-- What is known of the world W while the State of block B + 1 holds the supply (sup, 0, 0, sup), the time t, the empty map of block B as its slots, and the map ch as its changed. -/
structure Here (B : Nat) (w W : World) (sup t : Int) (ch : Option Nat) : Prop where
  below : Below B w W
  s0 : W.cell? ⟨B + 1, 0, none⟩ = some (.int .u64 sup)
  s1 : W.cell? ⟨B + 1, 1, none⟩ = some (.int .u64 0)
  s2 : W.cell? ⟨B + 1, 2, none⟩ = some (.int .u64 0)
  s3 : W.cell? ⟨B + 1, 3, none⟩ = some (.int .u64 sup)
  s4 : W.cell? ⟨B + 1, 4, none⟩ = some (.int .i64 t)
  s5 : W.cell? ⟨B + 1, 5, none⟩ = some (.map (some B))
  s297 : W.cell? ⟨B + 1, 297, none⟩ = some (.map ch)
  fz : ∀ o, W.frozen? ⟨B + 1, o, none⟩ = false
  slots : W.ownsMap Yba.prog 83 anyElem B 0 (.map [])
  big : B + 1 < W.heap.size

theorem Here.alloc {B : Nat} {w W : World} {sup t : Int} {ch : Option Nat} (h : Here B w W sup t ch) (o : Obj) : Here B w (W.alloc o) sup t ch := by
  obtain ⟨below, s0, s1, s2, s3, s4, s5, s297, fz, slots, big⟩ := h
  refine ⟨below.alloc (by omega) _, ?_, ?_, ?_, ?_, ?_, ?_, ?_, ?_, slots.alloc _, by simp; omega⟩
  all_goals first | (rw [World.cell?_alloc_past _ _ _ big]; assumption) | (intro o; rw [World.frozen?_alloc_past _ _ _ big]; exact fz o)

theorem Here.change {B : Nat} {w W : World} {sup t : Int} {ch : Option Nat} (h : Here B w W sup t ch) (r : Option Nat) : Here B w (W.setCell ⟨B + 1, 297, none⟩ (.map r)) sup t r := by
  obtain ⟨below, s0, s1, s2, s3, s4, s5, s297, fz, slots, big⟩ := h
  refine ⟨below.setCell (by simp) _, ?_, ?_, ?_, ?_, ?_, ?_, ?_, ?_, slots.setCell (by simp) _, by simp; omega⟩
  all_goals first | (simp [go_sem, *]; done) | (intro o; rw [World.frozen?_setCell]; exact fz o)

theorem trace_off_here {B : Nat} {w W : World} {sup t : Int} {ch : Option Nat} (h : Here B w W sup t ch) :
    Calls Yba.prog 5 #[.pointer (some ⟨B + 1, 0, none⟩), .bool false] W fun e W' => e = .returned (.tuple #[]) ∧ Here B w W' sup t none ∧ ∀ m n D, m ≠ B + 1 → W.ownsMap Yba.prog 63 anyElem m n D → W'.ownsMap Yba.prog 63 anyElem m n D := by
  refine (trace_off _ _ _ h.s297 (h.fz _)).mono ?_
  rintro e W' ⟨rfl, rfl⟩
  exact ⟨rfl, h.change none, fun m n D hm ho => ho.setCell hm _⟩

theorem trace_on_here {B : Nat} {w W : World} {sup t : Int} {ch : Option Nat} (h : Here B w W sup t ch) :
    Calls Yba.prog 5 #[.pointer (some ⟨B + 1, 0, none⟩), .bool true] W fun e W' => e = .returned (.tuple #[]) ∧ ∃ nb, nb = W.heap.size ∧ B + 1 < nb ∧ Here B w W' sup t (some nb) ∧ W'.ownsMap Yba.prog 63 anyElem nb 0 (.map []) ∧ ∀ m n D, m ≠ B + 1 → W.ownsMap Yba.prog 63 anyElem m n D → W'.ownsMap Yba.prog 63 anyElem m n D := by
  refine (trace_on _ _ _ h.s297 (h.fz _) h.big).mono ?_
  rintro e W' ⟨rfl, rfl⟩
  refine ⟨rfl, W.heap.size, rfl, h.big, ((h.change none).change _).alloc _, ?_, fun m n D hm ho => ((ho.setCell hm _).setCell hm _).alloc _⟩
  have := World.ownsMap_made ((W.setCell ⟨B + 1, 297, none⟩ (.map none)).setCell ⟨B + 1, 297, none⟩ (.map (some W.heap.size))) Yba.prog 63 anyElem
  simpa using this
end Go.Proofs.Ybulkebog
