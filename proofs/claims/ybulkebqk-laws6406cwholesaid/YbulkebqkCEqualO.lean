/-
  slices.Equal at schedules and at lists of operations.
-/
import Derived.Test.YbulkebqkCEqualS
namespace Go.Proofs.Ybulkebqk
open Go.RowKit
set_option linter.unusedVariables false
deriving instance DecidableEq for OpV

theorem equal44 (a b : Option Addr) (n m c1 c2 : Nat) (xs ys : List OpV) (w : World) (hn : xs.length = n) (hm : ys.length = m) (hb : n ≤ 1000000) (hA : At w a (opCells xs)) (hB : At w b (opCells ys)) :
    Calls Yba.prog 44 #[.slice a n c1, .slice b m c2] w fun e w' => e = .returned (.bool (decide (xs = ys))) ∧ ∃ d, w' = w.drewN d := by
  by_cases hl : n = m
  · subst hl
    have HX : Hid (xs.length = n) := hn
    have HY : Hid (ys.length = n) := hm
    have HA : Hid (At w a (opCells xs)) := hA
    have HB : Hid (At w b (opCells ys)) := hB
    clear hn hm hA hB
    go_enter Yba.func44, Yba.ntmps44
    go_wp2_with fail
    go_loopw [13] (fun i wr => ∃ k : Nat, k ≤ n ∧ i = .int .i64 k ∧ (∃ d, wr = w.drewN d) ∧ Hid (∀ j, j < k → xs.getD j default = ys.getD j default)) (fun i _ => n - (intOf i).toNat)
    case atStart => exact ⟨0, Nat.zero_le _, rfl, ⟨0, rfl⟩, fun j h => by omega⟩
    case round =>
      obtain ⟨k, hk, rfl, ⟨d, rfl⟩, HN⟩ := hrel
      by_cases hlt : k < n
      · have hx : k < xs.length := by rw [HX.out]; exact hlt
        have hy : k < ys.length := by rw [HY.out]; exact hlt
        obtain ⟨g1, rfl, hR1⟩ := HA.out (by rw [opCells_len]; omega)
        obtain ⟨g2, rfl, hR2⟩ := HB.out (by rw [opCells_len]; omega)
        obtain ⟨p0, p1, p2⟩ := opCells_at xs k hx
        obtain ⟨q0, q1, q2⟩ := opCells_at ys k hy
        have c0 := hR1.cell p0
        have c1 := hR1.cell p1
        have c2 := hR1.cell p2
        have d0 := hR2.cell q0
        have d1 := hR2.cell q1
        have d2 := hR2.cell q2
        obtain ⟨x, hxx⟩ : ∃ x, x = xs.getD k default := ⟨_, rfl⟩
        obtain ⟨y, hyy⟩ : ∃ y, y = ys.getD k default := ⟨_, rfl⟩
        rw [← hxx] at c0 c1 c2
        rw [← hyy] at d0 d1 d2
        have H1 : Hid (x = xs.getD k default) := hxx
        have H2 : Hid (y = ys.getD k default) := hyy
        clear p0 p1 p2 q0 q1 q2
        have kn : (k : Int) < (n : Int) := by omega
        clear hR1 hR2 hxx hyy
        by_cases hxy : x = y
        · subst hxy
          go_wp2_with fail
          go_quiet (fail)
          go_wp2_with fail
          go_roundw
          case rel =>
            refine ⟨k + 1, by omega, by go_num, ⟨_, rfl⟩, fun j h => ?_⟩
            by_cases e : j = k
            · subst e; rw [← H1.out, ← H2.out]
            · exact HN.out j (by omega)
          case measure => simp [intOf]; omega
        · have HF : Hid (¬ xs = ys) := list_ne_at default hx hy (by rw [← H1.out, ← H2.out]; exact hxy)
          have hd : (x.k == y.k) = false ∨ (x.k = y.k ∧ (x.t == y.t) = false) ∨ (x.k = y.k ∧ x.t = y.t ∧ (x.i.toList == y.i.toList) = false) := by
            by_cases h1 : x.k = y.k
            · by_cases h2 : x.t = y.t
              · exact .inr (.inr ⟨h1, h2, bytes_ne fun h3 => hxy (by cases x; cases y; simp_all)⟩)
              · exact .inr (.inl ⟨h1, by simpa using h2⟩)
            · exact .inl (by simpa using h1)
          clear hxy
          rcases hd with h1 | ⟨h1, h2⟩ | ⟨h1, h2, h3⟩
          · go_wp2_with fail
            go_quiet (fail)
            go_wp2_with fail
            go_ret
            exact ⟨by simp [HF.out], d + nq, by simp [World.drewN, Nat.add_assoc]⟩
          · go_wp2_with fail
            go_quiet (fail)
            go_wp2_with fail
            go_ret
            exact ⟨by simp [HF.out], d + nq, by simp [World.drewN, Nat.add_assoc]⟩
          · go_wp2_with fail
            go_quiet (fail)
            go_wp2_with fail
            go_ret
            exact ⟨by simp [HF.out], d + nq, by simp [World.drewN, Nat.add_assoc]⟩
      · have kn : ¬ (k : Int) < (n : Int) := by omega
        have HF : Hid (xs = ys) := list_eq_all default (by rw [HX.out, HY.out]) fun j h => HN.out j (by rw [HX.out] at h; omega)
        go_wp2_with fail
        go_ret
        exact ⟨by simp [HF.out], _, rfl⟩
  · have hl' : ¬ (n : Int) = (m : Int) := by omega
    have hl2 : ((n : Int) != (m : Int)) = true := by simpa using hl'
    have HF : Hid (¬ xs = ys) := fun e => hl (by rw [← hn, ← hm, e])
    clear hA hB hn hm
    go_enter Yba.func44, Yba.ntmps44
    go_wp2_with fail
    go_ret
    exact ⟨by simp [HF.out], 0, rfl⟩
theorem equal27 (a b : Option Addr) (n m c1 c2 : Nat) (xs ys : List OpV) (w : World) (hn : xs.length = n) (hm : ys.length = m) (hb : n ≤ 1000000) (hA : At w a (opCells xs)) (hB : At w b (opCells ys)) :
    Calls Yba.prog 27 #[.slice a n c1, .slice b m c2] w fun e w' => e = .returned (.bool (decide (xs = ys))) ∧ ∃ d, w' = w.drewN d := by
  by_cases hl : n = m
  · subst hl
    have HX : Hid (xs.length = n) := hn
    have HY : Hid (ys.length = n) := hm
    have HA : Hid (At w a (opCells xs)) := hA
    have HB : Hid (At w b (opCells ys)) := hB
    clear hn hm hA hB
    go_enter Yba.func27, Yba.ntmps27
    go_wp2_with fail
    go_loopw [13] (fun i wr => ∃ k : Nat, k ≤ n ∧ i = .int .i64 k ∧ (∃ d, wr = w.drewN d) ∧ Hid (∀ j, j < k → xs.getD j default = ys.getD j default)) (fun i _ => n - (intOf i).toNat)
    case atStart => exact ⟨0, Nat.zero_le _, rfl, ⟨0, rfl⟩, fun j h => by omega⟩
    case round =>
      obtain ⟨k, hk, rfl, ⟨d, rfl⟩, HN⟩ := hrel
      by_cases hlt : k < n
      · have hx : k < xs.length := by rw [HX.out]; exact hlt
        have hy : k < ys.length := by rw [HY.out]; exact hlt
        obtain ⟨g1, rfl, hR1⟩ := HA.out (by rw [opCells_len]; omega)
        obtain ⟨g2, rfl, hR2⟩ := HB.out (by rw [opCells_len]; omega)
        obtain ⟨p0, p1, p2⟩ := opCells_at xs k hx
        obtain ⟨q0, q1, q2⟩ := opCells_at ys k hy
        have c0 := hR1.cell p0
        have c1 := hR1.cell p1
        have c2 := hR1.cell p2
        have d0 := hR2.cell q0
        have d1 := hR2.cell q1
        have d2 := hR2.cell q2
        obtain ⟨x, hxx⟩ : ∃ x, x = xs.getD k default := ⟨_, rfl⟩
        obtain ⟨y, hyy⟩ : ∃ y, y = ys.getD k default := ⟨_, rfl⟩
        rw [← hxx] at c0 c1 c2
        rw [← hyy] at d0 d1 d2
        have H1 : Hid (x = xs.getD k default) := hxx
        have H2 : Hid (y = ys.getD k default) := hyy
        clear p0 p1 p2 q0 q1 q2
        have kn : (k : Int) < (n : Int) := by omega
        clear hR1 hR2 hxx hyy
        by_cases hxy : x = y
        · subst hxy
          go_wp2_with fail
          go_quiet (fail)
          go_wp2_with fail
          go_roundw
          case rel =>
            refine ⟨k + 1, by omega, by go_num, ⟨_, rfl⟩, fun j h => ?_⟩
            by_cases e : j = k
            · subst e; rw [← H1.out, ← H2.out]
            · exact HN.out j (by omega)
          case measure => simp [intOf]; omega
        · have HF : Hid (¬ xs = ys) := list_ne_at default hx hy (by rw [← H1.out, ← H2.out]; exact hxy)
          have hd : (x.k == y.k) = false ∨ (x.k = y.k ∧ (x.t == y.t) = false) ∨ (x.k = y.k ∧ x.t = y.t ∧ (x.i.toList == y.i.toList) = false) := by
            by_cases h1 : x.k = y.k
            · by_cases h2 : x.t = y.t
              · exact .inr (.inr ⟨h1, h2, bytes_ne fun h3 => hxy (by cases x; cases y; simp_all)⟩)
              · exact .inr (.inl ⟨h1, by simpa using h2⟩)
            · exact .inl (by simpa using h1)
          clear hxy
          rcases hd with h1 | ⟨h1, h2⟩ | ⟨h1, h2, h3⟩
          · go_wp2_with fail
            go_quiet (fail)
            go_wp2_with fail
            go_ret
            exact ⟨by simp [HF.out], d + nq, by simp [World.drewN, Nat.add_assoc]⟩
          · go_wp2_with fail
            go_quiet (fail)
            go_wp2_with fail
            go_ret
            exact ⟨by simp [HF.out], d + nq, by simp [World.drewN, Nat.add_assoc]⟩
          · go_wp2_with fail
            go_quiet (fail)
            go_wp2_with fail
            go_ret
            exact ⟨by simp [HF.out], d + nq, by simp [World.drewN, Nat.add_assoc]⟩
      · have kn : ¬ (k : Int) < (n : Int) := by omega
        have HF : Hid (xs = ys) := list_eq_all default (by rw [HX.out, HY.out]) fun j h => HN.out j (by rw [HX.out] at h; omega)
        go_wp2_with fail
        go_ret
        exact ⟨by simp [HF.out], _, rfl⟩
  · have hl' : ¬ (n : Int) = (m : Int) := by omega
    have hl2 : ((n : Int) != (m : Int)) = true := by simpa using hl'
    have HF : Hid (¬ xs = ys) := fun e => hl (by rw [← hn, ← hm, e])
    clear hA hB hn hm
    go_enter Yba.func27, Yba.ntmps27
    go_wp2_with fail
    go_ret
    exact ⟨by simp [HF.out], 0, rfl⟩
end Go.Proofs.Ybulkebqk
