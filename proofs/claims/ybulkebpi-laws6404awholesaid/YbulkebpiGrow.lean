/-
  The contract of (*idleConns[int]).grow: four walks (the new length 8 or twice the old; head at the end or before it), then one.
-/
import Derived.Test.YbulkebpiMake
namespace Go.Proofs.Ybulkebpi
open Go.RowKit
set_option linter.unusedVariables false

theorem size29 : (Yba.prog.info? 29).map (·.size) = some 1 := by kernel_rfl
theorem ring_heap (w : World) (n : Nat) : (w.alloc (.cells (madeCells #[.pointer none] n) 29)).heap[w.heap.size]? = some (.cells ((List.replicate n none).map Value.pointer).toArray 29 (0, 0)) := ring_made w n

theorem Ring.from {w : World} {g h : Nat} {A B : List (Option Addr)} (hR : Ring w g (A ++ B)) (hA : A.length = h) (j : Nat) (v : Value) (hv : (B.map Value.pointer)[j]? = some v) : w.cell? ((⟨g, h, none⟩ : Addr).add j) = some v := by
  rw [show (⟨g, h, none⟩ : Addr).add j = ⟨g, h + j, none⟩ by simp [Addr.add], hR.cell, List.getElem?_append_right (by omega)]
  rw [List.getElem?_map] at hv
  rw [show h + j - A.length = j by omega]
  exact hv

theorem Ring.upto {w : World} {g : Nat} {A B : List (Option Addr)} (hR : Ring w g (A ++ B)) (j : Nat) (v : Value) (hv : (A.map Value.pointer)[j]? = some v) : w.cell? ((⟨g, 0, none⟩ : Addr).add j) = some v := by
  rw [show (⟨g, 0, none⟩ : Addr).add j = ⟨g, j, none⟩ by simp [Addr.add]; omega, hR.cell]
  rw [List.getElem?_map] at hv
  have hj : j < A.length := by
    rcases Nat.lt_or_ge j A.length with h | h
    · exact h
    · rw [List.getElem?_eq_none h] at hv; cases hv
  rw [List.getElem?_append_left hj]
  exact hv

theorem ptr_one (A : List (Option Addr)) : ∀ v ∈ A.map Value.pointer, v.oneCell' = true := by
  intro v hv
  obtain ⟨p, _, rfl⟩ := List.mem_map.1 hv
  rfl


/-- What grow leaves: w' where the new row of W cells is full; all else as it was, but for q's first two cells. -/
structure Left (w w' : World) (q W : Nat) (n : Int) (R : List (Option Addr)) : Prop where
  ring : Ring w' w.heap.size R
  q0 : w'.cell? ⟨q, 0, none⟩ = some (.slice (some ⟨w.heap.size, 0, none⟩) W W)
  q1 : w'.cell? ⟨q, 1, none⟩ = some (.int .i64 0)
  q2 : w'.cell? ⟨q, 2, none⟩ = some (.int .i64 n)
  rings : ∀ g ps, g ≠ q → Ring w g ps → Ring w' g ps
  below : ∀ B w0, B ≤ q → B ≤ w.heap.size → Below B w0 w → Below B w0 w'

theorem left_mk {w w3 : World} {q W : Nat} {n : Int} {R : List (Option Addr)} (hR : Ring w3 w.heap.size R) (hb : Below w.heap.size w w3) (hq : q < w.heap.size) {v0 v1 : Value} (c0 : w.cell? ⟨q, 0, none⟩ = some v0) (c1 : w.cell? ⟨q, 1, none⟩ = some v1) (c2 : w.cell? ⟨q, 2, none⟩ = some (.int .i64 n)) :
    Left w ((w3.setCell ⟨q, 0, none⟩ (.slice (some ⟨w.heap.size, 0, none⟩) W W)).setCell ⟨q, 1, none⟩ (.int .i64 0)) q W n R := by
  have e0 := (hb.cell (p := ⟨q, 0, none⟩) hq).trans c0
  have e1 := (hb.cell (p := ⟨q, 1, none⟩) hq).trans c1
  have e2 := (hb.cell (p := ⟨q, 2, none⟩) hq).trans c2
  refine ⟨(hR.other _ _ (by simp; omega)).other _ _ (by simp; omega), ?_, ?_, ?_, ?_, ?_⟩
  · simp [go_sem, *]
  · simp [go_sem, *]
  · simp [go_sem, *]
  · intro g ps hg h
    exact (Ring.other (Ring.other ((hb.block g h.lt).trans h) _ _ hg) _ _ hg)
  · intro B w0 hB hB' h
    exact ((h.trans (hb.mono hB')).setCell hB _).setCell hB _

theorem splice_two (Z X1 X2 : List Value) (hZ : X1.length + X2.length ≤ Z.length) : splice (splice Z 0 X1) X1.length X2 = X1 ++ (X2 ++ Z.drop (X1.length + X2.length)) := by
  simp only [splice, List.take_zero, List.nil_append, Nat.zero_add]
  rw [List.take_append_of_le_length (Nat.le_refl _), List.take_of_length_le (Nat.le_refl _)]
  congr 2
  rw [List.drop_append, List.drop_of_length_le (by omega), List.nil_append, List.drop_drop]
  congr 1; omega

theorem ring_splice {w : World} {G W m : Nat} {X1 X2 : List Value} {B A : List (Option Addr)} (hX1 : X1 = B.map Value.pointer) (hX2 : X2 = A.map Value.pointer) (hm : B.length = m) (hW : B.length + A.length ≤ W)
    (h : w.heap[G]? = some (.cells (splice (splice ((List.replicate W none).map Value.pointer) 0 X1) m X2).toArray 29 (0, 0))) : Ring w G (B ++ (A ++ List.replicate (W - (B.length + A.length)) none)) := by
  have hl : X1.length = m := by rw [hX1]; simpa using hm
  rw [← hl, splice_two _ _ _ (by simp [hX1, hX2]; exact hW)] at h
  unfold Ring
  rw [h, hX1, hX2]
  simp

set_option maxHeartbeats 400000 in
theorem grow_a (g q h m : Nat) (n : Int) (A B : List (Option Addr)) (w : World) (hL : ((h : Int) + (m : Int)) ≤ 65536) (hm : (0 : Int) < (m : Int)) (h8 : ¬ 2 * ((h : Int) + (m : Int)) < 8) (hA : A.length = h) (hBl : B.length = m) (hR : Ring w g (A ++ B))
    (c0 : w.cell? ⟨q, 0, none⟩ = some (.slice (some ⟨g, 0, none⟩) (h + m) (h + m))) (c1 : w.cell? ⟨q, 1, none⟩ = some (.int .i64 h)) (c2 : w.cell? ⟨q, 2, none⟩ = some (.int .i64 n)) (fz : ∀ o, w.frozen? ⟨q, o, none⟩ = false) (hql : q < w.heap.size) :
    Calls Yba.prog 5 #[.pointer (some ⟨q, 0, none⟩)] w fun e w' => e = .returned (.tuple #[]) ∧ Left w w' q (2 * (h + m)) n (B ++ (A ++ List.replicate ((2 * (h + m)) - (B.length + A.length)) none)) := by
  have hmk : ∀ wx : World, (Instr.makeSlice 24 (.int .i64 (2 * ((h : Int) + (m : Int)))) (.int .i64 (2 * ((h : Int) + (m : Int))))).run Yba.prog wx = .ok (.slice (some ⟨wx.heap.size, 0, none⟩) (2 * (h + m)) (2 * (h + m))) (wx.alloc (.cells (madeCells #[.pointer none] (2 * (h + m))) 29)) := by
    intro wx
    have := run_make_row' (P := Yba.prog) 24 29 (.pointer none) 8 Yba.underlying24 Yba.info29 rfl .i64 .i64 (2 * (h + m)) (by omega) (by omega) wx
    simpa using this
  have HG1 : Hid _ := ring_heap w (2 * (h + m))
  have hB1 : Below w.heap.size w (w.alloc (.cells (madeCells #[.pointer none] (2 * (h + m))) 29)) := (Below.refl _ _).alloc (Nat.le_refl _) _
  have HR : Hid (Ring w g (A ++ B)) := hR
  have hgl := hR.lt
  have HA : Hid (A.length = h) := hA
  have HB : Hid (B.length = m) := hBl
  have hm0 : ¬ m = 0 := by omega
  have hhm : (h : Int) ≤ (h : Int) + (m : Int) := by omega
  have hhn : h ≤ h + m := by omega
  have hmW : (m : Int) ≤ 2 * ((h : Int) + (m : Int)) := by omega
  have hmN : ¬ (2 * (h + m)) = m := by omega
  obtain ⟨X1, hX1⟩ : ∃ X1, X1 = B.map Value.pointer := ⟨_, rfl⟩
  have HX1 : Hid (X1 = B.map Value.pointer) := hX1
  have lX1 : X1.length = m := by rw [hX1]; simpa using hBl
  clear hX1 hBl
  have hh0 : (0 : Int) ≤ (h : Int) := by omega
  obtain ⟨X2, hX2⟩ : ∃ X2, X2 = A.map Value.pointer := ⟨_, rfl⟩
  have HX2 : Hid (X2 = A.map Value.pointer) := hX2
  have lX2 : X2.length = h := by rw [hX2]; simpa using hA
  clear hX2 hA hR
  go_enter Yba.func5, Yba.ntmps5
  go_wp2
  go_region_held3 (fun w' => w'.cell? ⟨q, 0, none⟩ = some (.slice (some ⟨g, 0, none⟩) (h + m) (h + m)) ∧ w'.cell? ⟨q, 1, none⟩ = some (.int .i64 h)) (go_keep)
    ((refine step_copy_splice (by rfl) (.tmp 12) (.tmp 21) 24 24 (by rfl) 29 Yba.underlying24 size29 _ _ _ _ _ _ (by rfl) (by rfl) w.heap.size 0 ((List.replicate (2 * (h + m)) none).map Value.pointer) 29 HG1.out X1 (by rw [lX1]; simp [Nat.min_def]; omega) (fun _ => ⟨rfl, ⟨g, h, none⟩, by simp, fun j v hv => (HR.out.alloc _).from HA.out j v (HX1.out ▸ hv)⟩) (by simp [lX1]; omega) (fun v hv => ptr_one B v (HX1.out ▸ hv)) w.heap.size w hB1.drew (Nat.le_refl _) ?_; intro w2 HG2 hB2; have e0 := (hB2.cell (p := ⟨q, 0, none⟩) hql).trans c0; have e1 := (hB2.cell (p := ⟨q, 1, none⟩) hql).trans c1; have f2 := fun o => (hB2.frozen (p := ⟨q, o, none⟩) hql).trans (fz o)))
  have HR2 : Hid (Ring w2 g (A ++ B)) := (hB2.block g hgl).trans HR.out
  have C0 : Hid _ := c0
  have C1 : Hid _ := c1
  have FZ : Hid _ := fz
  clear hmk c0 c1 fz HR hB1 HG1
  go_wp2
  go_region_held3 (fun w' => w'.cell? ⟨q, 0, none⟩ = some (.slice (some ⟨g, 0, none⟩) (h + m) (h + m)) ∧ w'.cell? ⟨q, 1, none⟩ = some (.int .i64 h)) (go_keep)
    ((refine step_copy_splice (by rfl) (.tmp 25) (.tmp 34) 24 24 (by rfl) 29 Yba.underlying24 size29 _ _ _ _ _ _ (by rfl) (by rfl) w.heap.size m (splice ((List.replicate (2 * (h + m)) none).map Value.pointer) 0 X1) 29 HG2.out X2 (by rw [lX2]; simp [Nat.min_def]; omega) (fun _ => ⟨by simp, ⟨g, 0, none⟩, by simp, fun j v hv => (Ring.upto HR2.out) j v (HX2.out ▸ hv)⟩) (by rw [length_splice _ _ _ (by simp [lX1]; omega)]; simp [lX2]; omega) (fun v hv => ptr_one A v (HX2.out ▸ hv)) w.heap.size w hB2.drew (Nat.le_refl _) ?_; intro w3 HG3 hB3; have d0 := (hB3.cell (p := ⟨q, 0, none⟩) hql).trans C0.out; have d1 := (hB3.cell (p := ⟨q, 1, none⟩) hql).trans C1.out; have f3 := fun o => (hB3.frozen (p := ⟨q, o, none⟩) hql).trans (FZ.out o)))
  clear e0 e1 f2
  go_wp2
  go_end0
  exact ⟨rfl, left_mk (ring_splice (W := 2 * (h + m)) (m := m) (B := B) (A := A) HX1.out HX2.out HB.out (by rw [HA.out, HB.out]; omega) HG3.out) hB3 hql C0.out C1.out c2⟩

set_option maxHeartbeats 400000 in
theorem grow_b (g q h m : Nat) (n : Int) (A B : List (Option Addr)) (w : World) (hL : ((h : Int) + (m : Int)) ≤ 65536) (hm : (0 : Int) < (m : Int)) (h8 : 2 * ((h : Int) + (m : Int)) < 8) (hA : A.length = h) (hBl : B.length = m) (hR : Ring w g (A ++ B))
    (c0 : w.cell? ⟨q, 0, none⟩ = some (.slice (some ⟨g, 0, none⟩) (h + m) (h + m))) (c1 : w.cell? ⟨q, 1, none⟩ = some (.int .i64 h)) (c2 : w.cell? ⟨q, 2, none⟩ = some (.int .i64 n)) (fz : ∀ o, w.frozen? ⟨q, o, none⟩ = false) (hql : q < w.heap.size) :
    Calls Yba.prog 5 #[.pointer (some ⟨q, 0, none⟩)] w fun e w' => e = .returned (.tuple #[]) ∧ Left w w' q (8) n (B ++ (A ++ List.replicate ((8) - (B.length + A.length)) none)) := by
  have hmk : ∀ wx : World, (Instr.makeSlice 24 (.int .i64 (8)) (.int .i64 (8))).run Yba.prog wx = .ok (.slice (some ⟨wx.heap.size, 0, none⟩) (8) (8)) (wx.alloc (.cells (madeCells #[.pointer none] (8)) 29)) := by
    intro wx
    have := run_make_row' (P := Yba.prog) 24 29 (.pointer none) 8 Yba.underlying24 Yba.info29 rfl .i64 .i64 (8) (by omega) (by omega) wx
    simpa using this
  have HG1 : Hid _ := ring_heap w (8)
  have hB1 : Below w.heap.size w (w.alloc (.cells (madeCells #[.pointer none] (8)) 29)) := (Below.refl _ _).alloc (Nat.le_refl _) _
  have HR : Hid (Ring w g (A ++ B)) := hR
  have hgl := hR.lt
  have HA : Hid (A.length = h) := hA
  have HB : Hid (B.length = m) := hBl
  have hm0 : ¬ m = 0 := by omega
  have hhm : (h : Int) ≤ (h : Int) + (m : Int) := by omega
  have hhn : h ≤ h + m := by omega
  have hmW : (m : Int) ≤ 8 := by omega
  have hmN : ¬ (8) = m := by omega
  obtain ⟨X1, hX1⟩ : ∃ X1, X1 = B.map Value.pointer := ⟨_, rfl⟩
  have HX1 : Hid (X1 = B.map Value.pointer) := hX1
  have lX1 : X1.length = m := by rw [hX1]; simpa using hBl
  clear hX1 hBl
  have hh0 : (0 : Int) ≤ (h : Int) := by omega
  obtain ⟨X2, hX2⟩ : ∃ X2, X2 = A.map Value.pointer := ⟨_, rfl⟩
  have HX2 : Hid (X2 = A.map Value.pointer) := hX2
  have lX2 : X2.length = h := by rw [hX2]; simpa using hA
  clear hX2 hA hR
  go_enter Yba.func5, Yba.ntmps5
  go_wp2
  go_region_held3 (fun w' => w'.cell? ⟨q, 0, none⟩ = some (.slice (some ⟨g, 0, none⟩) (h + m) (h + m)) ∧ w'.cell? ⟨q, 1, none⟩ = some (.int .i64 h)) (go_keep)
    ((refine step_copy_splice (by rfl) (.tmp 12) (.tmp 21) 24 24 (by rfl) 29 Yba.underlying24 size29 _ _ _ _ _ _ (by rfl) (by rfl) w.heap.size 0 ((List.replicate (8) none).map Value.pointer) 29 HG1.out X1 (by rw [lX1]; simp [Nat.min_def]; omega) (fun _ => ⟨rfl, ⟨g, h, none⟩, by simp, fun j v hv => (HR.out.alloc _).from HA.out j v (HX1.out ▸ hv)⟩) (by simp [lX1]; omega) (fun v hv => ptr_one B v (HX1.out ▸ hv)) w.heap.size w hB1.drew (Nat.le_refl _) ?_; intro w2 HG2 hB2; have e0 := (hB2.cell (p := ⟨q, 0, none⟩) hql).trans c0; have e1 := (hB2.cell (p := ⟨q, 1, none⟩) hql).trans c1; have f2 := fun o => (hB2.frozen (p := ⟨q, o, none⟩) hql).trans (fz o)))
  have HR2 : Hid (Ring w2 g (A ++ B)) := (hB2.block g hgl).trans HR.out
  have C0 : Hid _ := c0
  have C1 : Hid _ := c1
  have FZ : Hid _ := fz
  clear hmk c0 c1 fz HR hB1 HG1
  go_wp2
  go_region_held3 (fun w' => w'.cell? ⟨q, 0, none⟩ = some (.slice (some ⟨g, 0, none⟩) (h + m) (h + m)) ∧ w'.cell? ⟨q, 1, none⟩ = some (.int .i64 h)) (go_keep)
    ((refine step_copy_splice (by rfl) (.tmp 25) (.tmp 34) 24 24 (by rfl) 29 Yba.underlying24 size29 _ _ _ _ _ _ (by rfl) (by rfl) w.heap.size m (splice ((List.replicate (8) none).map Value.pointer) 0 X1) 29 HG2.out X2 (by rw [lX2]; simp [Nat.min_def]; omega) (fun _ => ⟨by simp, ⟨g, 0, none⟩, by simp, fun j v hv => (Ring.upto HR2.out) j v (HX2.out ▸ hv)⟩) (by rw [length_splice _ _ _ (by simp [lX1]; omega)]; simp [lX2]; omega) (fun v hv => ptr_one A v (HX2.out ▸ hv)) w.heap.size w hB2.drew (Nat.le_refl _) ?_; intro w3 HG3 hB3; have d0 := (hB3.cell (p := ⟨q, 0, none⟩) hql).trans C0.out; have d1 := (hB3.cell (p := ⟨q, 1, none⟩) hql).trans C1.out; have f3 := fun o => (hB3.frozen (p := ⟨q, o, none⟩) hql).trans (FZ.out o)))
  clear e0 e1 f2
  go_wp2
  go_end0
  exact ⟨rfl, left_mk (ring_splice (W := 8) (m := m) (B := B) (A := A) HX1.out HX2.out HB.out (by rw [HA.out, HB.out]; omega) HG3.out) hB3 hql C0.out C1.out c2⟩

set_option maxHeartbeats 400000 in
theorem grow_c (g q h : Nat) (n : Int) (A : List (Option Addr)) (w : World) (hL : (h : Int) ≤ 65536) (h8 : ¬ 2 * (h : Int) < 8) (hA : A.length = h) (hR : Ring w g A)
    (c0 : w.cell? ⟨q, 0, none⟩ = some (.slice (some ⟨g, 0, none⟩) h h)) (c1 : w.cell? ⟨q, 1, none⟩ = some (.int .i64 h)) (c2 : w.cell? ⟨q, 2, none⟩ = some (.int .i64 n)) (fz : ∀ o, w.frozen? ⟨q, o, none⟩ = false) (hql : q < w.heap.size) :
    Calls Yba.prog 5 #[.pointer (some ⟨q, 0, none⟩)] w fun e w' => e = .returned (.tuple #[]) ∧ Left w w' q (2 * h) n (([] : List (Option Addr)) ++ (A ++ List.replicate ((2 * h) - (([] : List (Option Addr)).length + A.length)) none)) := by
  have hmk : ∀ wx : World, (Instr.makeSlice 24 (.int .i64 (2 * (h : Int))) (.int .i64 (2 * (h : Int)))).run Yba.prog wx = .ok (.slice (some ⟨wx.heap.size, 0, none⟩) (2 * h) (2 * h)) (wx.alloc (.cells (madeCells #[.pointer none] (2 * h)) 29)) := by
    intro wx
    have := run_make_row' (P := Yba.prog) 24 29 (.pointer none) 8 Yba.underlying24 Yba.info29 rfl .i64 .i64 (2 * h) (by omega) (by omega) wx
    simpa using this
  have HG1 : Hid _ := ring_heap w (2 * h)
  have hB1 : Below w.heap.size w (w.alloc (.cells (madeCells #[.pointer none] (2 * h)) 29)) := (Below.refl _ _).alloc (Nat.le_refl _) _
  have HR : Hid (Ring w g A) := hR
  have hgl := hR.lt
  have HA : Hid (A.length = h) := hA
  have hn0 : ¬ h = 0 := by omega
  have h2h : (0 : Int) ≤ 2 * (h : Int) := by omega
  have hh0 : (0 : Int) ≤ (h : Int) := by omega
  obtain ⟨X2, hX2⟩ : ∃ X2, X2 = A.map Value.pointer := ⟨_, rfl⟩
  have HX2 : Hid (X2 = A.map Value.pointer) := hX2
  have lX2 : X2.length = h := by rw [hX2]; simpa using hA
  clear hX2 hA hR
  go_enter Yba.func5, Yba.ntmps5
  go_wp2
  go_region_held3 (fun w' => w'.cell? ⟨q, 0, none⟩ = some (.slice (some ⟨g, 0, none⟩) h h) ∧ w'.cell? ⟨q, 1, none⟩ = some (.int .i64 h)) (go_keep)
    ((refine step_copy_splice (by rfl) (.tmp 12) (.tmp 21) 24 24 (by rfl) 29 Yba.underlying24 size29 _ _ _ _ _ _ (by rfl) (by rfl) w.heap.size 0 ((List.replicate (2 * h) none).map Value.pointer) 29 HG1.out [] (by simp) (fun h => by simp at h) (by simp) (fun v hv => by cases hv) w.heap.size w hB1.drew (Nat.le_refl _) ?_; intro w2 HG2 hB2; have e0 := (hB2.cell (p := ⟨q, 0, none⟩) hql).trans c0; have e1 := (hB2.cell (p := ⟨q, 1, none⟩) hql).trans c1; have f2 := fun o => (hB2.frozen (p := ⟨q, o, none⟩) hql).trans (fz o)))
  have HR2 : Hid (Ring w2 g (A ++ [])) := by rw [List.append_nil]; exact (hB2.block g hgl).trans HR.out
  have C0 : Hid _ := c0
  have C1 : Hid _ := c1
  have FZ : Hid _ := fz
  clear hmk c0 c1 fz HR hB1 HG1
  go_wp2
  go_region_held3 (fun w' => w'.cell? ⟨q, 0, none⟩ = some (.slice (some ⟨g, 0, none⟩) h h) ∧ w'.cell? ⟨q, 1, none⟩ = some (.int .i64 h)) (go_keep)
    ((refine step_copy_splice (by rfl) (.tmp 25) (.tmp 34) 24 24 (by rfl) 29 Yba.underlying24 size29 _ _ _ _ _ _ (by rfl) (by rfl) w.heap.size 0 (splice ((List.replicate (2 * h) none).map Value.pointer) 0 []) 29 HG2.out X2 (by rw [lX2]; simp [Nat.min_def]; omega) (fun _ => ⟨by simp, ⟨g, 0, none⟩, by simp, fun j v hv => (Ring.upto (B := []) HR2.out) j v (HX2.out ▸ hv)⟩) (by rw [length_splice _ _ _ (by simp)]; simp [lX2]; omega) (fun v hv => ptr_one A v (HX2.out ▸ hv)) w.heap.size w hB2.drew (Nat.le_refl _) ?_; intro w3 HG3 hB3; have d0 := (hB3.cell (p := ⟨q, 0, none⟩) hql).trans C0.out; have d1 := (hB3.cell (p := ⟨q, 1, none⟩) hql).trans C1.out; have f3 := fun o => (hB3.frozen (p := ⟨q, o, none⟩) hql).trans (FZ.out o)))
  clear e0 e1 f2
  go_wp2
  go_end0
  exact ⟨rfl, left_mk (ring_splice (W := 2 * h) (m := 0) (B := ([] : List (Option Addr))) (A := A) rfl HX2.out rfl (by rw [HA.out]; simp only [List.length_nil]; omega) HG3.out) hB3 hql C0.out C1.out c2⟩

set_option maxHeartbeats 400000 in
theorem grow_d (g q h : Nat) (n : Int) (A : List (Option Addr)) (w : World) (hL : (h : Int) ≤ 65536) (h8 : 2 * (h : Int) < 8) (hA : A.length = h) (hR : Ring w g A)
    (c0 : w.cell? ⟨q, 0, none⟩ = some (.slice (some ⟨g, 0, none⟩) h h)) (c1 : w.cell? ⟨q, 1, none⟩ = some (.int .i64 h)) (c2 : w.cell? ⟨q, 2, none⟩ = some (.int .i64 n)) (fz : ∀ o, w.frozen? ⟨q, o, none⟩ = false) (hql : q < w.heap.size) :
    Calls Yba.prog 5 #[.pointer (some ⟨q, 0, none⟩)] w fun e w' => e = .returned (.tuple #[]) ∧ Left w w' q (8) n (([] : List (Option Addr)) ++ (A ++ List.replicate ((8) - (([] : List (Option Addr)).length + A.length)) none)) := by
  have hmk : ∀ wx : World, (Instr.makeSlice 24 (.int .i64 (8)) (.int .i64 (8))).run Yba.prog wx = .ok (.slice (some ⟨wx.heap.size, 0, none⟩) (8) (8)) (wx.alloc (.cells (madeCells #[.pointer none] (8)) 29)) := by
    intro wx
    have := run_make_row' (P := Yba.prog) 24 29 (.pointer none) 8 Yba.underlying24 Yba.info29 rfl .i64 .i64 (8) (by omega) (by omega) wx
    simpa using this
  have HG1 : Hid _ := ring_heap w (8)
  have hB1 : Below w.heap.size w (w.alloc (.cells (madeCells #[.pointer none] (8)) 29)) := (Below.refl _ _).alloc (Nat.le_refl _) _
  have HR : Hid (Ring w g A) := hR
  have hgl := hR.lt
  have HA : Hid (A.length = h) := hA
  have hh0 : (0 : Int) ≤ (h : Int) := by omega
  obtain ⟨X2, hX2⟩ : ∃ X2, X2 = A.map Value.pointer := ⟨_, rfl⟩
  have HX2 : Hid (X2 = A.map Value.pointer) := hX2
  have lX2 : X2.length = h := by rw [hX2]; simpa using hA
  clear hX2 hA hR
  go_enter Yba.func5, Yba.ntmps5
  go_wp2
  go_region_held3 (fun w' => w'.cell? ⟨q, 0, none⟩ = some (.slice (some ⟨g, 0, none⟩) h h) ∧ w'.cell? ⟨q, 1, none⟩ = some (.int .i64 h)) (go_keep)
    ((refine step_copy_splice (by rfl) (.tmp 12) (.tmp 21) 24 24 (by rfl) 29 Yba.underlying24 size29 _ _ _ _ _ _ (by rfl) (by rfl) w.heap.size 0 ((List.replicate (8) none).map Value.pointer) 29 HG1.out [] (by simp) (fun h => by simp at h) (by simp) (fun v hv => by cases hv) w.heap.size w hB1.drew (Nat.le_refl _) ?_; intro w2 HG2 hB2; have e0 := (hB2.cell (p := ⟨q, 0, none⟩) hql).trans c0; have e1 := (hB2.cell (p := ⟨q, 1, none⟩) hql).trans c1; have f2 := fun o => (hB2.frozen (p := ⟨q, o, none⟩) hql).trans (fz o)))
  have HR2 : Hid (Ring w2 g (A ++ [])) := by rw [List.append_nil]; exact (hB2.block g hgl).trans HR.out
  have C0 : Hid _ := c0
  have C1 : Hid _ := c1
  have FZ : Hid _ := fz
  clear hmk c0 c1 fz HR hB1 HG1
  go_wp2
  go_region_held3 (fun w' => w'.cell? ⟨q, 0, none⟩ = some (.slice (some ⟨g, 0, none⟩) h h) ∧ w'.cell? ⟨q, 1, none⟩ = some (.int .i64 h)) (go_keep)
    ((refine step_copy_splice (by rfl) (.tmp 25) (.tmp 34) 24 24 (by rfl) 29 Yba.underlying24 size29 _ _ _ _ _ _ (by rfl) (by rfl) w.heap.size 0 (splice ((List.replicate (8) none).map Value.pointer) 0 []) 29 HG2.out X2 (by rw [lX2]; simp [Nat.min_def]; omega) (fun _ => ⟨by simp, ⟨g, 0, none⟩, by simp, fun j v hv => (Ring.upto (B := []) HR2.out) j v (HX2.out ▸ hv)⟩) (by rw [length_splice _ _ _ (by simp)]; simp [lX2]; omega) (fun v hv => ptr_one A v (HX2.out ▸ hv)) w.heap.size w hB2.drew (Nat.le_refl _) ?_; intro w3 HG3 hB3; have d0 := (hB3.cell (p := ⟨q, 0, none⟩) hql).trans C0.out; have d1 := (hB3.cell (p := ⟨q, 1, none⟩) hql).trans C1.out; have f3 := fun o => (hB3.frozen (p := ⟨q, o, none⟩) hql).trans (FZ.out o)))
  clear e0 e1 f2
  go_wp2
  go_end0
  exact ⟨rfl, left_mk (ring_splice (W := 8) (m := 0) (B := ([] : List (Option Addr))) (A := A) rfl HX2.out rfl (by rw [HA.out]; simp only [List.length_nil]; omega) HG3.out) hB3 hql C0.out C1.out c2⟩


/-- grow, in one: W is the new length. -/
theorem grow_any (g q h L W : Nat) (n : Int) (ps : List (Option Addr)) (w : World) (hL : L ≤ 65536) (hh : h ≤ L) (hW : (2 * L < 8 ∧ W = 8) ∨ (¬ 2 * L < 8 ∧ W = 2 * L)) (hps : ps.length = L) (hR : Ring w g ps)
    (c0 : w.cell? ⟨q, 0, none⟩ = some (.slice (some ⟨g, 0, none⟩) L L)) (c1 : w.cell? ⟨q, 1, none⟩ = some (.int .i64 h)) (c2 : w.cell? ⟨q, 2, none⟩ = some (.int .i64 n)) (fz : ∀ o, w.frozen? ⟨q, o, none⟩ = false) (hql : q < w.heap.size) :
    Calls Yba.prog 5 #[.pointer (some ⟨q, 0, none⟩)] w fun e w' => e = .returned (.tuple #[]) ∧ Left w w' q W n (ps.drop h ++ (ps.take h ++ List.replicate (W - L) none)) := by
  by_cases hm : h < L
  · have hA : (ps.take h).length = h := by simp; omega
    have hB : (ps.drop h).length = L - h := by simp; omega
    obtain ⟨m, hm'⟩ : ∃ m, m = L - h := ⟨_, rfl⟩
    obtain rfl : L = h + m := by omega
    have hB' : (ps.drop h).length = m := by omega
    have hR' : Ring w g (ps.take h ++ ps.drop h) := by rw [List.take_append_drop]; exact hR
    have e : (ps.drop h).length + (ps.take h).length = h + m := by omega
    rcases hW with ⟨h8, rfl⟩ | ⟨h8, rfl⟩
    · have := grow_b g q h m n _ _ w (by omega) (by omega) (by omega) hA hB' hR' c0 c1 c2 fz hql
      rw [e] at this
      exact this
    · have := grow_a g q h m n _ _ w (by omega) (by omega) (by omega) hA hB' hR' c0 c1 c2 fz hql
      rw [e] at this
      exact this
  · obtain rfl : h = L := by omega
    have e1 : ps.drop h = [] := by rw [← hps]; simp
    have e2 : ps.take h = ps := by rw [← hps]; simp
    rw [e1, e2]
    rcases hW with ⟨h8, rfl⟩ | ⟨h8, rfl⟩
    · have := grow_d g q h n ps w (by omega) (by omega) hps hR c0 c1 c2 fz hql
      rw [hps, List.length_nil, Nat.zero_add] at this
      exact this
    · have := grow_c g q h n ps w (by omega) (by omega) hps hR c0 c1 c2 fz hql
      rw [hps, List.length_nil, Nat.zero_add] at this
      exact this

/-- What the new row holds at i: the old row read round from h; behind it nil. -/
theorem rot_lt (ps : List (Option Addr)) (h L W i : Nat) (hps : ps.length = L) (hh : h ≤ L) (hi : i < L) : (ps.drop h ++ (ps.take h ++ List.replicate (W - L) none))[i]? = ps[(h + i) % L]? := by
  by_cases hc : h + i < L
  · rw [List.getElem?_append_left (by simp; omega), List.getElem?_drop, Nat.mod_eq_of_lt hc]
  · have hm : (h + i) % L = h + i - L := by rw [Nat.mod_eq_sub_mod (by omega), Nat.mod_eq_of_lt (by omega)]
    rw [List.getElem?_append_right (by simp; omega), List.getElem?_append_left (by simp; omega), List.length_drop, List.getElem?_take, hm, if_pos (by omega)]
    congr 1; omega
theorem rot_ge (ps : List (Option Addr)) (h L W i : Nat) (hps : ps.length = L) (hh : h ≤ L) (hi : ¬ i < L) (hW : i < W) : (ps.drop h ++ (ps.take h ++ List.replicate (W - L) none))[i]? = some none := by
  rw [List.getElem?_append_right (by simp; omega), List.getElem?_append_right (by simp; omega), List.getElem?_replicate]
  rw [if_pos]
  simp
  omega
end Go.Proofs.Ybulkebpi
