/-
  Schedules in memory; Schedule.Transactions: the transactions' numbers, ascending, each once.
-/
import Derived.Test.YbulkebqkCSmall
import Derived.Test.YbulkebqkCTab
import Derived.Ground.NamesProg
import Derived.Ground.Names2Prog
import Derived.Shelf.Lay
import Derived.Shelf.Sort.Plain
import Derived.Shelf.Slices.CompactI
import Derived.Sort.OwnSortedInts
import Derived.Sort.Grow
import Derived.Lib.SortBridge
namespace Go.Proofs
open Go.Shelf
shelf_lay Lays.n189 Nm 189 at Yba as Yba.laysSort
shelf_lay Lays2.n20 Nm2 20 at Yba as Yba.laysCompact
end Go.Proofs

namespace Go.Proofs.Ybulkebqk
open Go.RowKit Go.Shelf Go.Sort
set_option linter.unusedVariables false

theorem Yba.info3 : (Yba.prog.info? 3).map (fun i => (i.zero, i.size, i.bytes)) = some (some (.int .i64 0), 1, 8) := by kernel_rfl

/-- An operation of a schedule. -/
structure OpV where
  k : Int
  t : Int
  i : ByteArray
deriving Inhabited

/-- Its three cells; those of a schedule. -/
def OpV.cells (o : OpV) : List Value := [.int .u8 o.k, .int .i64 o.t, .string o.i]
def opCells (l : List OpV) : List Value := l.flatMap OpV.cells

theorem opCells_len (l : List OpV) : (opCells l).length = l.length * 3 := by
  induction l with
  | nil => rfl
  | cons o l ih => simp only [opCells, List.flatMap_cons, List.length_append] at ih ⊢; rw [ih]; simp [OpV.cells]; omega
theorem opCells_at : ∀ (l : List OpV) (j : Nat), j < l.length → (opCells l)[j * 3]? = some (.int .u8 (l.getD j default).k) ∧ (opCells l)[j * 3 + 1]? = some (.int .i64 (l.getD j default).t) ∧ (opCells l)[j * 3 + 2]? = some (.string (l.getD j default).i)
  | [], j, h => by simp at h
  | o :: l, 0, _ => by simp [opCells, OpV.cells]
  | o :: l, j + 1, h => by
    have ih := opCells_at l j (by simpa using h)
    have e : ∀ d, (opCells (o :: l))[(j + 1) * 3 + d]? = (opCells l)[j * 3 + d]? := fun d => by
      have : (j + 1) * 3 + d = (j * 3 + d) + 3 := by omega
      rw [this]; simp [opCells, OpV.cells]
    have e0 := e 0
    simp only [Nat.add_zero] at e0
    rw [e0, e 1, e 2]
    simpa using ih

/-- The transactions of a schedule, ascending, each once. -/
def txOf (l : List OpV) : List Int := Lib.compact ((l.map (·.t)).mergeSort fun x y => decide (x ≤ y))

theorem row_sorted {w : World} {g n : Nat} {os : Array Obj} {zs ts : List Int} (h : Row w g (ints .i64 zs)) (hl : ts.length = zs.length) : Row (grow (putRow (Value.int .i64) (Sort.ahead w n) g 0 ts.toArray) os) g (ints .i64 ts) := by
  obtain ⟨c, t, hb, ht⟩ := h
  refine ⟨_, t, heap_sortedI _ hb, ?_⟩
  have hc : zs.length ≤ c.size := by
    have := congrArg List.length ht
    simp [ints] at this; omega
  have := take_putCellsI c ts (by omega)
  simpa [ints] using this

theorem row_holds {w : World} {g : Nat} {zs : List Int} (h : Row w g (ints .i64 zs)) : Holds (Value.int .i64) w g 0 zs.toArray := by
  obtain ⟨c, t, hb, ht⟩ := h
  exact holds_of_blockI hb (by simpa [ints] using ht)

theorem sort53 (g cap : Nat) (zs : List Int) (w : World) (n : Nat) (hn : zs.length = n) (hb : n ≤ 1000000) (h : Row w g (ints .i64 zs)) :
    Calls Yba.prog 53 #[.slice (some ⟨g, 0, none⟩) n cap] w fun e w' => e = .returned (.tuple #[]) ∧ Row w' g (ints .i64 (zs.mergeSort fun x y => decide (x ≤ y))) ∧ w.grownBy w' (some g) := by
  subst hn
  refine Calls.mono (show Calls Yba.prog 53 _ w _ from Any.slices_Sort_int Yba.laysSort g 0 cap zs w (row_holds h) h.lt (by omega)) ?_
  rintro e w' ⟨rfl, n, os, rfl⟩
  exact ⟨rfl, row_sorted h (by simp), grownBy_sortedI _⟩

theorem compact55 (g cap : Nat) (zs : List Int) (w : World) (n : Nat) (hn : zs.length = n) (hb : n ≤ 1000000) (hc : n ≤ cap) (h : Row w g (ints .i64 zs)) :
    Calls Yba.prog 55 #[.slice (some ⟨g, 0, none⟩) n cap] w fun e w' => e = .returned (.slice (some ⟨g, 0, none⟩) (Lib.compact zs).length cap) ∧ Row w' g (ints .i64 (Lib.compact zs)) ∧ w.grownBy w' (some g) ∧ (Lib.compact zs).length ≤ n := by
  subst hn
  have hle : (Lib.compact zs).length ≤ zs.length := Lib.compact_length_le zs
  refine Calls.mono (show Calls Yba.prog 55 _ w _ from Any.slices_Compact_int Yba.laysCompact g 0 cap zs w (row_holds h) (by omega) hc) ?_
  rintro e w' ⟨rfl, q, rfl⟩
  have hr := row_sorted (n := q) (os := #[]) (ts := Lib.compact zs ++ List.replicate (zs.length - (Lib.compact zs).length) 0) h (by simp; omega)
  have hg := grownBy_sortedI (w := w) (g := g) (n := q) (os := #[]) (Lib.compact zs ++ List.replicate (zs.length - (Lib.compact zs).length) 0).toArray
  rw [grow_empty] at hr hg
  refine ⟨rfl, ?_, hg, hle⟩
  have : ints .i64 (Lib.compact zs ++ List.replicate (zs.length - (Lib.compact zs).length) 0) = ints .i64 (Lib.compact zs) ++ ints .i64 (List.replicate (zs.length - (Lib.compact zs).length) 0) := by simp [ints]
  rw [this] at hr
  exact hr.upto

theorem clip54 (g n cap : Nat) (w : World) (hn : n ≤ 1000000) (hc : n ≤ cap) : Calls Yba.prog 54 #[.slice (some ⟨g, 0, none⟩) n cap] w fun e w' => e = .returned (.slice (some ⟨g, 0, none⟩) n n) ∧ w' = w := by
  have h1 : (n : Int) ≤ (cap : Int) := by omega
  go_enter Yba.func54, Yba.ntmps54
  go_wp2
  go_ret
  exact ⟨by simp, rfl⟩

theorem txs47 (g n cap : Nat) (l : List OpV) (w : World) (hn : l.length = n) (hb : n ≤ 1000000) (hR : Row w g (opCells l)) :
    Calls Yba.prog 47 #[.slice (some ⟨g, 0, none⟩) n cap] w fun e w' => ∃ g', e = .returned (.slice (some ⟨g', 0, none⟩) (txOf l).length (txOf l).length) ∧ w.heap.size ≤ g' ∧ Row w' g' (ints .i64 (txOf l)) ∧ Below w.heap.size w w' := by
  have hmk : ∀ wx : World, (Instr.makeSlice 41 (.int .i64 (n : Int)) (.int .i64 (n : Int))).run Yba.prog wx = .ok (.slice (some ⟨wx.heap.size, 0, none⟩) n n) (wx.alloc (.cells (madeCells #[.int .i64 0] n) 3)) := fun wx => run_make_row' (P := Yba.prog) 41 3 (.int .i64 0) 8 Yba.underlying41 Yba.info3 rfl .i64 .i64 n (by omega) (by omega) wx
  have HR : Hid (Row w g (opCells l)) := hR
  have HL : Hid (l.length = n) := hn
  have hgl := hR.lt
  clear hR hn
  go_enter Yba.func47, Yba.ntmps47
  go_wp2_with fail
  go_loopw [11] (fun i wr => ∃ k : Nat, k ≤ n ∧ i = .int .i64 k ∧ Row wr w.heap.size (ints .i64 (part 0 n (fun j => (l.getD j default).t) k)) ∧ Below w.heap.size w wr) (fun i _ => n - (intOf i).toNat)
  case atStart =>
    refine ⟨0, Nat.zero_le _, rfl, ?_, (Below.refl _ _).alloc (Nat.le_refl _) _⟩
    have h := row_made w (.int .i64 0) n 3
    rw [part_zero]; simpa [ints] using h
  case round =>
    obtain ⟨k, hk, rfl, hT, hB⟩ := hrel
    clear hmk
    by_cases hlt : k < n
    · obtain ⟨c0, c1, c2⟩ := opCells_at l k (by rw [HL.out]; exact hlt)
      have d0 := (HR.out.below hB hgl).cell c0
      have d1 := (HR.out.below hB hgl).cell c1
      have d2 := (HR.out.below hB hgl).cell c2
      obtain ⟨o, ho⟩ : ∃ o, o = l.getD k default := ⟨_, rfl⟩
      rw [← ho] at d0 d1 d2
      have HO : Hid (o = l.getD k default) := ho
      clear ho c0 c1 c2
      have cT : wr.cell? ⟨w.heap.size, k, none⟩ = some (.int .i64 ((part 0 n (fun j => (l.getD j default).t) k).getD k 0)) := hT.cell (ints_at _ _ _ (by rw [part_len]; exact hlt))
      obtain ⟨x, hx⟩ : ∃ x, x = (part 0 n (fun j => (l.getD j default).t) k).getD k 0 := ⟨_, rfl⟩
      rw [← hx] at cT
      have fT := hT.frozen k
      have sT := hT.lt
      have HT : Hid (Row wr w.heap.size (ints .i64 (part 0 n (fun j => (l.getD j default).t) k))) := hT
      clear hx hT
      have kn : (k : Int) < (n : Int) := by omega
      go_wp2_with fail
      go_roundw
      case rel =>
        refine ⟨k + 1, by omega, by go_num, ?_, (hB.setCell (p := ⟨w.heap.size, k, none⟩) (Nat.le_refl _) _).alloc (by simp; omega) _⟩
        rw [← part_set, ← HO.out, ← ints_set]; exact (HT.out.set k _).alloc _
      case measure => simp [intOf]; omega
    · have hkn : n = k := by omega
      have hfull : part 0 n (fun j => (l.getD j default).t) k = l.map (·.t) := by
        rw [← hkn, part_full, ← HL.out]
        apply List.ext_getElem?; intro j
        by_cases hj : j < l.length
        · simp [full, List.getElem?_range hj, List.getElem?_eq_getElem hj]
        · simp [full, List.getElem?_eq_none (Nat.le_of_not_lt hj)]
          omega
      rw [hfull] at hT
      have HT : Hid (Row wr w.heap.size (ints .i64 (l.map (·.t)))) := hT
      have kn : ¬ (k : Int) < (n : Int) := by omega
      have hsort := sort53 w.heap.size n (l.map (·.t)) wr n (by simp [HL.out]) hb HT.out
      clear hfull hT hkn
      go_wp2_with fail
      refine hsort.mono ?_
      rintro e W1 ⟨rfl, hS, hG1⟩
      have hB1 : Below w.heap.size w W1 := hB.grown hG1 hB.size (by intro k hk; cases hk; exact Nat.le_refl _)
      have hcomp := compact55 w.heap.size n _ W1 n (by simp [HL.out]) hb (Nat.le_refl _) hS
      clear hsort hS hG1 HT
      go_wp2_with fail
      refine hcomp.mono ?_
      rintro e W2 ⟨he, hC, hG2, hle⟩
      have he' : e = .returned (.slice (some ⟨w.heap.size, 0, none⟩) (txOf l).length n) := he
      clear he
      subst he'
      have hB2 : Below w.heap.size w W2 := hB1.grown hG2 hB1.size (by intro k hk; cases hk; exact Nat.le_refl _)
      have hclip := clip54 w.heap.size (txOf l).length n W2 (Nat.le_trans hle hb) hle
      have HC : Hid (Row W2 w.heap.size (ints .i64 (txOf l))) := hC
      clear hcomp hG2 hC
      go_wp2_with fail
      refine hclip.mono ?_
      rintro e W3 ⟨rfl, rfl⟩
      clear hclip
      go_wp2_with fail
      go_ret
      exact ⟨w.heap.size, rfl, Nat.le_refl _, HC.out, hB2⟩
end Go.Proofs.Ybulkebqk
