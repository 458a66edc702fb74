/-
  Indexed operations in memory; slices.Equal at them; adjacency.of.
-/
import Derived.Test.YbulkebqkCBlk
namespace Go.Proofs.Ybulkebqk
open Go.RowKit
set_option linter.unusedVariables false

/-- Whole numbers as cells. -/
def nats (zs : List Nat) : List Value := zs.map fun z : Nat => .int .i64 (z : Int)
theorem nats_len (zs : List Nat) : (nats zs).length = zs.length := by simp [nats]
theorem nats_at (zs : List Nat) (i : Nat) (h : i < zs.length) : (nats zs)[i]? = some (.int .i64 ((zs.getD i 0 : Nat) : Int)) := by
  simp [nats, List.getElem?_map, List.getElem?_eq_getElem h, List.getD_eq_getElem?_getD]
theorem nats_set (zs : List Nat) (i z : Nat) : (nats zs).set i (.int .i64 (z : Int)) = nats (zs.set i z) := by simp [nats, List.map_set]
theorem nats_ints (zs : List Nat) : nats zs = ints .i64 (zs.map fun z : Nat => (z : Int)) := by simp [nats, ints]
theorem nats_zero (n : Nat) : nats (List.replicate n 0) = List.replicate n (.int .i64 0) := by simp [nats]
theorem nats_one (zs : List Nat) : ∀ u ∈ nats zs, u.oneCell' = true := by rw [nats_ints]; exact ints_one _ _

/-- An indexed operation. -/
structure IOp where
  k : Int
  t : Nat
  x : Nat
  p : Nat
deriving Inhabited
def IOp.cells (o : IOp) : List Value := [.int .u8 o.k, .int .i64 o.t, .int .i64 o.x, .int .i64 o.p]
def ioCells (l : List IOp) : List Value := l.flatMap IOp.cells
theorem ioCells_len (l : List IOp) : (ioCells l).length = l.length * 4 := by
  induction l with
  | nil => rfl
  | cons o l ih => simp only [ioCells, List.flatMap_cons, List.length_append] at ih ⊢; rw [ih]; simp [IOp.cells]; omega
theorem ioCells_app (l l' : List IOp) : ioCells (l ++ l') = ioCells l ++ ioCells l' := by simp [ioCells]
theorem ioCells_one (l : List IOp) : ∀ u ∈ ioCells l, u.oneCell' = true := by
  intro u hu
  obtain ⟨o, _, h⟩ := List.mem_flatMap.1 hu
  simp only [IOp.cells, List.mem_cons, List.not_mem_nil, or_false] at h
  rcases h with rfl | rfl | rfl | rfl <;> rfl
theorem ioCells_at : ∀ (l : List IOp) (j : Nat), j < l.length → (ioCells l)[j * 4]? = some (.int .u8 (l.getD j default).k) ∧ (ioCells l)[j * 4 + 1]? = some (.int .i64 (l.getD j default).t) ∧ (ioCells l)[j * 4 + 2]? = some (.int .i64 (l.getD j default).x) ∧ (ioCells l)[j * 4 + 3]? = some (.int .i64 (l.getD j default).p)
  | [], j, h => by simp at h
  | o :: l, 0, _ => by simp [ioCells, IOp.cells]
  | o :: l, j + 1, h => by
    have ih := ioCells_at l j (by simpa using h)
    have e : ∀ d, (ioCells (o :: l))[(j + 1) * 4 + d]? = (ioCells l)[j * 4 + d]? := fun d => by
      have : (j + 1) * 4 + d = (j * 4 + d) + 4 := by omega
      rw [this]; simp [ioCells, IOp.cells]
    have e0 := e 0
    simp only [Nat.add_zero] at e0
    rw [e0, e 1, e 2, e 3]
    simpa using ih
/-- The pair of one operation is written. -/
theorem ioCells_set : ∀ (l : List IOp) (j p : Nat), j < l.length → (ioCells l).set (j * 4 + 3) (.int .i64 (p : Int)) = ioCells (l.set j { l.getD j default with p := p })
  | [], j, p, h => by simp at h
  | o :: l, 0, p, _ => by simp [ioCells, IOp.cells]
  | o :: l, j + 1, p, h => by
    have ih := ioCells_set l j p (by simpa using h)
    have : (j + 1) * 4 + 3 = (j * 4 + 3) + 4 := by omega
    rw [this]
    have e : ∀ (o : IOp) (l : List IOp), ioCells (o :: l) = .int .u8 o.k :: .int .i64 o.t :: .int .i64 o.x :: .int .i64 o.p :: ioCells l := fun _ _ => rfl
    rw [e, List.set_cons_succ, List.set_cons_succ, List.set_cons_succ, List.set_cons_succ, ih, List.set_cons_succ, e]
    simp

/-- Equal at the same contents. -/
theorem equal26_same (g1 g2 n c1 c2 : Nat) (os : List IOp) (w : World) (hn : os.length = n) (hb : n ≤ 1000000) (hA : Row w g1 (ioCells os)) (hB : Row w g2 (ioCells os)) :
    Calls Yba.prog 26 #[.slice (some ⟨g1, 0, none⟩) n c1, .slice (some ⟨g2, 0, none⟩) n c2] w fun e w' => e = .returned (.bool true) ∧ ∃ d, w' = w.drewN d := by
  have HX : Hid (os.length = n) := hn
  have HA : Hid (Row w g1 (ioCells os)) := hA
  have HB : Hid (Row w g2 (ioCells os)) := hB
  clear hn hA hB
  go_enter Yba.func26, Yba.ntmps26
  go_wp2_with fail
  go_loopw [13] (fun i wr => ∃ k : Nat, k ≤ n ∧ i = .int .i64 k ∧ (∃ d, wr = w.drewN d)) (fun i _ => n - (intOf i).toNat)
  case atStart => exact ⟨0, Nat.zero_le _, rfl, ⟨0, rfl⟩⟩
  case round =>
    obtain ⟨k, hk, rfl, ⟨d, rfl⟩⟩ := hrel
    by_cases hlt : k < n
    · obtain ⟨p0, p1, p2, p3⟩ := ioCells_at os k (by rw [HX.out]; exact hlt)
      have c0 := HA.out.cell p0
      have c1 := HA.out.cell p1
      have c2 := HA.out.cell p2
      have c3 := HA.out.cell p3
      have d0 := HB.out.cell p0
      have d1 := HB.out.cell p1
      have d2 := HB.out.cell p2
      have d3 := HB.out.cell p3
      obtain ⟨x, hxx⟩ : ∃ x, x = os.getD k default := ⟨_, rfl⟩
      rw [← hxx] at c0 c1 c2 c3 d0 d1 d2 d3
      have kn : (k : Int) < (n : Int) := by omega
      clear p0 p1 p2 p3 hxx
      go_wp2_with fail
      go_quiet (fail)
      go_wp2_with fail
      go_roundw
      case rel => exact ⟨k + 1, by omega, by go_num, ⟨_, rfl⟩⟩
      case measure => simp [intOf]; omega
    · have kn : ¬ (k : Int) < (n : Int) := by omega
      go_wp2_with fail
      go_ret
      exact ⟨rfl, _, rfl⟩

set_option maxRecDepth 20000 in
theorem of43 (gs gl ns cs m cl : Nat) (zs : List Nat) (t s e : Nat) (w : World) (hz : zs.length = ns) (ht : t + 1 < ns) (hb : ns ≤ 1000000) (h1 : zs.getD t 0 = s) (h2 : zs.getD (t + 1) 0 = e) (hse : s ≤ e) (hem : e ≤ m) (hmc : m ≤ cl) (hcl : cl ≤ 1000000) (hR : Row w gs (nats zs)) :
    Calls Yba.prog 43 #[.agg #[.slice (some ⟨gs, 0, none⟩) ns cs, .slice (some ⟨gl, 0, none⟩) m cl], .int .i64 t] w fun e' w' => ∃ ad c', e' = .returned (.slice (some ad) (e - s) c') ∧ (s < e → ad = ⟨gl, s, none⟩) ∧ Below w.heap.size w w' := by
  have hN : Blk (w.alloc (.cells #[.slice (some ⟨gs, 0, none⟩) ns cs, .slice (some ⟨gl, 0, none⟩) m cl] 43)) w.heap.size 43 [.slice (some ⟨gs, 0, none⟩) ns cs, .slice (some ⟨gl, 0, none⟩) m cl] := blk_new w _ 43
  have hR1 := hR.alloc (.cells #[.slice (some ⟨gs, 0, none⟩) ns cs, .slice (some ⟨gl, 0, none⟩) m cl] 43)
  have hB : Below w.heap.size w (w.alloc (.cells #[.slice (some ⟨gs, 0, none⟩) ns cs, .slice (some ⟨gl, 0, none⟩) m cl] 43)) := (Below.refl _ _).alloc (Nat.le_refl _) _
  have c0 := hN.cell (i := 0) rfl
  have c1 := hN.cell (i := 1) rfl
  have d0 := hR1.cell (nats_at zs t (by omega))
  have d1 := hR1.cell (nats_at zs (t + 1) (by omega))
  rw [h1] at d0
  rw [h2] at d1
  have t1 : (t : Int) < (ns : Int) := by omega
  have t2 : (t : Int) + 1 < (ns : Int) := by omega
  have i1 : (s : Int) ≤ (e : Int) := by omega
  have i2 : (e : Int) ≤ (cl : Int) := by omega
  have HB : Hid (Below w.heap.size w (w.alloc (.cells #[.slice (some ⟨gs, 0, none⟩) ns cs, .slice (some ⟨gl, 0, none⟩) m cl] 43))) := hB
  clear hN hR1 hB h1 h2 hz hR
  by_cases hsc : s < cl
  · have i3 : (s : Int) < (cl : Int) := by omega
    go_enter Yba.func43, Yba.ntmps43
    go_wp2_with fail
    go_quiet (fail)
    go_wp2_with fail
    go_ret
    exact ⟨_, _, rfl, fun _ => rfl, below_drewN HB.out _⟩
  · obtain rfl : s = cl := by omega
    go_enter Yba.func43, Yba.ntmps43
    go_wp2_with fail
    go_quiet (fail)
    go_wp2_with fail
    go_ret
    exact ⟨_, _, rfl, fun h => by omega, below_drewN HB.out _⟩
end Go.Proofs.Ybulkebqk
