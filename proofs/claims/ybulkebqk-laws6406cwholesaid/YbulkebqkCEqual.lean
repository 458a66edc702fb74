/-
  slices.Equal at []int: whatever the two slices hold.
-/
import Derived.Test.YbulkebqkCSfind
namespace Go.Proofs.Ybulkebqk
open Go.RowKit
set_option linter.unusedVariables false

theorem list_ne_at {α : Type} {xs ys : List α} (z : α) {k : Nat} (hx : k < xs.length) (hy : k < ys.length) (h : xs.getD k z ≠ ys.getD k z) : xs ≠ ys := fun e => h (by rw [e])
theorem list_eq_all {α : Type} {xs ys : List α} (z : α) (hl : xs.length = ys.length) (h : ∀ j, j < xs.length → xs.getD j z = ys.getD j z) : xs = ys := by
  apply List.ext_getElem hl
  intro j h1 h2
  have := h j h1
  rw [List.getD_eq_getElem?_getD, List.getD_eq_getElem?_getD, List.getElem?_eq_getElem h1, List.getElem?_eq_getElem h2] at this
  exact this

theorem equal24 (a b : Option Addr) (n m c1 c2 : Nat) (xs ys : List Int) (w : World) (hn : xs.length = n) (hm : ys.length = m) (hb : n ≤ 1000000) (hA : At w a (ints .i64 xs)) (hB : At w b (ints .i64 ys)) :
    Calls Yba.prog 24 #[.slice a n c1, .slice b m c2] w fun e w' => e = .returned (.bool (decide (xs = ys))) ∧ ∃ d, w' = w.drewN d := by
  by_cases hl : n = m
  · subst hl
    have HX : Hid (xs.length = n) := hn
    have HY : Hid (ys.length = n) := hm
    have HA : Hid (At w a (ints .i64 xs)) := hA
    have HB : Hid (At w b (ints .i64 ys)) := hB
    clear hn hm hA hB
    go_enter Yba.func24, Yba.ntmps24
    go_wp2_with fail
    go_loopw [13] (fun i wr => ∃ k : Nat, k ≤ n ∧ i = .int .i64 k ∧ (∃ d, wr = w.drewN d) ∧ Hid (∀ j, j < k → xs.getD j 0 = ys.getD j 0)) (fun i _ => n - (intOf i).toNat)
    case atStart => exact ⟨0, Nat.zero_le _, rfl, ⟨0, rfl⟩, fun j h => by omega⟩
    case round =>
      obtain ⟨k, hk, rfl, ⟨d, rfl⟩, HN⟩ := hrel
      by_cases hlt : k < n
      · have hx : k < xs.length := by rw [HX.out]; exact hlt
        have hy : k < ys.length := by rw [HY.out]; exact hlt
        obtain ⟨g1, rfl, hR1⟩ := HA.out (by rw [ints_len]; omega)
        obtain ⟨g2, rfl, hR2⟩ := HB.out (by rw [ints_len]; omega)
        have e1 := hR1.cell (ints_at .i64 xs k hx)
        have e2 := hR2.cell (ints_at .i64 ys k hy)
        obtain ⟨x, hxx⟩ : ∃ x, x = xs.getD k 0 := ⟨_, rfl⟩
        obtain ⟨y, hyy⟩ : ∃ y, y = ys.getD k 0 := ⟨_, rfl⟩
        rw [← hxx] at e1
        rw [← hyy] at e2
        have H1 : Hid (x = xs.getD k 0) := hxx
        have H2 : Hid (y = ys.getD k 0) := hyy
        have kn : (k : Int) < (n : Int) := by omega
        clear hR1 hR2 hxx hyy
        by_cases hxy : x = y
        · subst hxy
          go_wp2_with fail
          go_quiet (fail)
          go_wp2_with fail
          go_roundw
          case rel =>
            refine ⟨k + 1, by omega, by go_num, ⟨_, rfl⟩, fun j h => ?_⟩
            by_cases e : j = k
            · subst e; rw [← H1.out, ← H2.out]
            · exact HN.out j (by omega)
          case measure => simp [intOf]; omega
        · have hxy' : (x != y) = true := by simpa using hxy
          have HF : Hid (¬ xs = ys) := list_ne_at 0 hx hy (by rw [← H1.out, ← H2.out]; exact hxy)
          go_wp2_with fail
          go_quiet (fail)
          go_wp2_with fail
          go_ret
          exact ⟨by simp [HF.out], d + nq, by simp [World.drewN, Nat.add_assoc]⟩
      · have kn : ¬ (k : Int) < (n : Int) := by omega
        have HF : Hid (xs = ys) := list_eq_all 0 (by rw [HX.out, HY.out]) fun j h => HN.out j (by rw [HX.out] at h; omega)
        go_wp2_with fail
        go_ret
        exact ⟨by simp [HF.out], _, rfl⟩
  · have hl' : ¬ (n : Int) = (m : Int) := by omega
    have hl2 : ((n : Int) != (m : Int)) = true := by simpa using hl'
    have HF : Hid (¬ xs = ys) := fun e => hl (by rw [← hn, ← hm, e])
    clear hA hB hn hm
    go_enter Yba.func24, Yba.ntmps24
    go_wp2_with fail
    go_ret
    exact ⟨by simp [HF.out], 0, rfl⟩
end Go.Proofs.Ybulkebqk
