/-
  Contracts of slices.Clone and slices.Equal at the four element types of the law.
-/
import Derived.Test.YbulkebqkParts
import Derived.Lib.SliceRun
namespace Go.Proofs.Ybulkebqk
open Go.RowKit
set_option linter.unusedVariables false

theorem Yba.info26 : (Yba.prog.info? 26).map (fun i => (i.zero, i.size, i.bytes)) = some (some (.int .u64 0), 1, 8) := by kernel_rfl
theorem Yba.info21 : (Yba.prog.info? 21).map (fun i => (i.zero, i.size, i.bytes)) = some (some (.int .i32 0), 1, 4) := by kernel_rfl
theorem Yba.info4 : (Yba.prog.info? 4).map (fun i => (i.zero, i.size, i.bytes)) = some (some (.bool false), 1, 1) := by kernel_rfl
theorem Yba.info29 : (Yba.prog.info? 29).map (fun i => (i.zero, i.size, i.bytes)) = some (some (.agg #[.int .i64 0, .int .u64 0]), 2, 16) := by kernel_rfl

theorem clone5_some (a : Addr) (n c : Nat) (xs : List Value) (w : World) (hn : n * 8 ≤ 140737488355328) (hx : xs.length = n * 1) (h1 : ∀ u ∈ xs, u.oneCell' = true) (hc : ∀ j u, xs[j]? = some u → w.cell? (a.add j) = some u) :
    Calls Yba.prog 5 #[.slice (some a) n c] w fun e w' => ∃ g cap, e = .returned (.slice (some ⟨g, 0, none⟩) n cap) ∧ w.heap.size ≤ g ∧ Row w' g xs ∧ Below w.heap.size w w' := by
  obtain ⟨i0, hi, hz0, hz1, hz2⟩ := info_parts Yba.info26
  have q : ∀ (w : World), (binOp .eql 23 (.slice (some a) n c) (.slice none 0 0)).run Yba.prog w = .ok (.bool false) w := fun w => Lib.run_eql_slice_nil w _ _ _ _ _ _ _ Yba.underlying23
  have HC : Hid _ := hc
  have HX : Hid _ := hx
  have H1 : Hid _ := h1
  clear hc hx h1
  go_enter Yba.func5, Yba.ntmps5
  go_wp2_with (at_builtin; refine wpList_append_own _ rfl (.tmp 5) (.tmp 6) 23 rfl w.heap.size 26 i0 (.int .u64 0) 1 8 Yba.underlying23 hi hz0 hz1 hz2 rfl (by decide) _ 0 [] rfl (World.ownsRow_made w #[] 0 (Nat.le_refl _) (by decide) rfl) a n c xs rfl HX.out (fun j u hu => (World.cell?_alloc_some w (a.add j) _ (by rw [HC.out j u hu]; rfl)).trans (HC.out j u hu)) H1.out (by unfold maxLen; omega) (by omega) (by simp) ?_; intro v' w1 hown hgrow hnil)
  have hv : ∃ g cap, v' = .slice (some ⟨g, 0, none⟩) n cap ∧ w.heap.size ≤ g := by
    rcases hown.2 with ⟨hz, _⟩ | ⟨g, cap, cur, hv, hb, _⟩
    · exact absurd (hnil.1 hz).1 (by intro h; cases h)
    · exact ⟨g, cap, by simpa using hv, hb⟩
  obtain ⟨g, cap, hv, hgb⟩ := hv
  have hR : Row w1 g xs := by
    rw [hv] at hown
    have := row_owned (n := n) (by simpa using hown)
    simpa using this
  have hB : Below w.heap.size w w1 := ((Below.refl _ _).alloc (Nat.le_refl _) _).grown hgrow (by simp) (by intro k hk; cases hk; exact Nat.le_refl _)
  clear hown hgrow hnil
  rw [hv]
  go_wp2
  go_ret
  exact ⟨g, cap, rfl, hgb, hR, hB⟩

theorem clone5_nil (w : World) : Calls Yba.prog 5 #[.slice none 0 0] w fun e w' => e = .returned (.slice none 0 0) ∧ w' = w := by
  have q : ∀ (w : World), (binOp .eql 23 (.slice none 0 0) (.slice none 0 0)).run Yba.prog w = .ok (.bool true) w := fun w => Lib.run_eql_slice_nil w _ _ _ _ _ _ _ Yba.underlying23
  go_enter Yba.func5, Yba.ntmps5
  go_wp2
  go_ret
  exact ⟨rfl, rfl⟩

theorem clone6_some (a : Addr) (n c : Nat) (xs : List Value) (w : World) (hn : n * 4 ≤ 140737488355328) (hx : xs.length = n * 1) (h1 : ∀ u ∈ xs, u.oneCell' = true) (hc : ∀ j u, xs[j]? = some u → w.cell? (a.add j) = some u) :
    Calls Yba.prog 6 #[.slice (some a) n c] w fun e w' => ∃ g cap, e = .returned (.slice (some ⟨g, 0, none⟩) n cap) ∧ w.heap.size ≤ g ∧ Row w' g xs ∧ Below w.heap.size w w' := by
  obtain ⟨i0, hi, hz0, hz1, hz2⟩ := info_parts Yba.info21
  have q : ∀ (w : World), (binOp .eql 24 (.slice (some a) n c) (.slice none 0 0)).run Yba.prog w = .ok (.bool false) w := fun w => Lib.run_eql_slice_nil w _ _ _ _ _ _ _ Yba.underlying24
  have HC : Hid _ := hc
  have HX : Hid _ := hx
  have H1 : Hid _ := h1
  clear hc hx h1
  go_enter Yba.func6, Yba.ntmps6
  go_wp2_with (at_builtin; refine wpList_append_own _ rfl (.tmp 5) (.tmp 6) 24 rfl w.heap.size 21 i0 (.int .i32 0) 1 4 Yba.underlying24 hi hz0 hz1 hz2 rfl (by decide) _ 0 [] rfl (World.ownsRow_made w #[] 0 (Nat.le_refl _) (by decide) rfl) a n c xs rfl HX.out (fun j u hu => (World.cell?_alloc_some w (a.add j) _ (by rw [HC.out j u hu]; rfl)).trans (HC.out j u hu)) H1.out (by unfold maxLen; omega) (by omega) (by simp) ?_; intro v' w1 hown hgrow hnil)
  have hv : ∃ g cap, v' = .slice (some ⟨g, 0, none⟩) n cap ∧ w.heap.size ≤ g := by
    rcases hown.2 with ⟨hz, _⟩ | ⟨g, cap, cur, hv, hb, _⟩
    · exact absurd (hnil.1 hz).1 (by intro h; cases h)
    · exact ⟨g, cap, by simpa using hv, hb⟩
  obtain ⟨g, cap, hv, hgb⟩ := hv
  have hR : Row w1 g xs := by
    rw [hv] at hown
    have := row_owned (n := n) (by simpa using hown)
    simpa using this
  have hB : Below w.heap.size w w1 := ((Below.refl _ _).alloc (Nat.le_refl _) _).grown hgrow (by simp) (by intro k hk; cases hk; exact Nat.le_refl _)
  clear hown hgrow hnil
  rw [hv]
  go_wp2
  go_ret
  exact ⟨g, cap, rfl, hgb, hR, hB⟩

theorem clone6_nil (w : World) : Calls Yba.prog 6 #[.slice none 0 0] w fun e w' => e = .returned (.slice none 0 0) ∧ w' = w := by
  have q : ∀ (w : World), (binOp .eql 24 (.slice none 0 0) (.slice none 0 0)).run Yba.prog w = .ok (.bool true) w := fun w => Lib.run_eql_slice_nil w _ _ _ _ _ _ _ Yba.underlying24
  go_enter Yba.func6, Yba.ntmps6
  go_wp2
  go_ret
  exact ⟨rfl, rfl⟩

theorem clone8_some (a : Addr) (n c : Nat) (xs : List Value) (w : World) (hn : n * 1 ≤ 140737488355328) (hx : xs.length = n * 1) (h1 : ∀ u ∈ xs, u.oneCell' = true) (hc : ∀ j u, xs[j]? = some u → w.cell? (a.add j) = some u) :
    Calls Yba.prog 8 #[.slice (some a) n c] w fun e w' => ∃ g cap, e = .returned (.slice (some ⟨g, 0, none⟩) n cap) ∧ w.heap.size ≤ g ∧ Row w' g xs ∧ Below w.heap.size w w' := by
  obtain ⟨i0, hi, hz0, hz1, hz2⟩ := info_parts Yba.info4
  have q : ∀ (w : World), (binOp .eql 25 (.slice (some a) n c) (.slice none 0 0)).run Yba.prog w = .ok (.bool false) w := fun w => Lib.run_eql_slice_nil w _ _ _ _ _ _ _ Yba.underlying25
  have HC : Hid _ := hc
  have HX : Hid _ := hx
  have H1 : Hid _ := h1
  clear hc hx h1
  go_enter Yba.func8, Yba.ntmps8
  go_wp2_with (at_builtin; refine wpList_append_own _ rfl (.tmp 5) (.tmp 6) 25 rfl w.heap.size 4 i0 (.bool false) 1 1 Yba.underlying25 hi hz0 hz1 hz2 rfl (by decide) _ 0 [] rfl (World.ownsRow_made w #[] 0 (Nat.le_refl _) (by decide) rfl) a n c xs rfl HX.out (fun j u hu => (World.cell?_alloc_some w (a.add j) _ (by rw [HC.out j u hu]; rfl)).trans (HC.out j u hu)) H1.out (by unfold maxLen; omega) (by omega) (by simp) ?_; intro v' w1 hown hgrow hnil)
  have hv : ∃ g cap, v' = .slice (some ⟨g, 0, none⟩) n cap ∧ w.heap.size ≤ g := by
    rcases hown.2 with ⟨hz, _⟩ | ⟨g, cap, cur, hv, hb, _⟩
    · exact absurd (hnil.1 hz).1 (by intro h; cases h)
    · exact ⟨g, cap, by simpa using hv, hb⟩
  obtain ⟨g, cap, hv, hgb⟩ := hv
  have hR : Row w1 g xs := by
    rw [hv] at hown
    have := row_owned (n := n) (by simpa using hown)
    simpa using this
  have hB : Below w.heap.size w w1 := ((Below.refl _ _).alloc (Nat.le_refl _) _).grown hgrow (by simp) (by intro k hk; cases hk; exact Nat.le_refl _)
  clear hown hgrow hnil
  rw [hv]
  go_wp2
  go_ret
  exact ⟨g, cap, rfl, hgb, hR, hB⟩

theorem clone8_nil (w : World) : Calls Yba.prog 8 #[.slice none 0 0] w fun e w' => e = .returned (.slice none 0 0) ∧ w' = w := by
  have q : ∀ (w : World), (binOp .eql 25 (.slice none 0 0) (.slice none 0 0)).run Yba.prog w = .ok (.bool true) w := fun w => Lib.run_eql_slice_nil w _ _ _ _ _ _ _ Yba.underlying25
  go_enter Yba.func8, Yba.ntmps8
  go_wp2
  go_ret
  exact ⟨rfl, rfl⟩

theorem clone7_some (a : Addr) (n c : Nat) (xs : List Value) (w : World) (hn : n * 16 ≤ 140737488355328) (hx : xs.length = n * 2) (h1 : ∀ u ∈ xs, u.oneCell' = true) (hc : ∀ j u, xs[j]? = some u → w.cell? (a.add j) = some u) :
    Calls Yba.prog 7 #[.slice (some a) n c] w fun e w' => ∃ g cap, e = .returned (.slice (some ⟨g, 0, none⟩) n cap) ∧ w.heap.size ≤ g ∧ Row w' g xs ∧ Below w.heap.size w w' := by
  obtain ⟨i0, hi, hz0, hz1, hz2⟩ := info_parts Yba.info29
  have q : ∀ (w : World), (binOp .eql 27 (.slice (some a) n c) (.slice none 0 0)).run Yba.prog w = .ok (.bool false) w := fun w => Lib.run_eql_slice_nil w _ _ _ _ _ _ _ Yba.underlying27
  have HC : Hid _ := hc
  have HX : Hid _ := hx
  have H1 : Hid _ := h1
  clear hc hx h1
  go_enter Yba.func7, Yba.ntmps7
  go_wp2_with (at_builtin; refine wpList_append_own _ rfl (.tmp 5) (.tmp 6) 27 rfl w.heap.size 29 i0 (.agg #[.int .i64 0, .int .u64 0]) 2 16 Yba.underlying27 hi hz0 hz1 hz2 rfl (by decide) _ 0 [] rfl (World.ownsRow_made w #[] 0 (Nat.le_refl _) (by decide) rfl) a n c xs rfl HX.out (fun j u hu => (World.cell?_alloc_some w (a.add j) _ (by rw [HC.out j u hu]; rfl)).trans (HC.out j u hu)) H1.out (by unfold maxLen; omega) (by omega) (by simp) ?_; intro v' w1 hown hgrow hnil)
  have hv : ∃ g cap, v' = .slice (some ⟨g, 0, none⟩) n cap ∧ w.heap.size ≤ g := by
    rcases hown.2 with ⟨hz, _⟩ | ⟨g, cap, cur, hv, hb, _⟩
    · exact absurd (hnil.1 hz).1 (by intro h; cases h)
    · exact ⟨g, cap, by simpa using hv, hb⟩
  obtain ⟨g, cap, hv, hgb⟩ := hv
  have hR : Row w1 g xs := by
    rw [hv] at hown
    have := row_owned (n := n) (by simpa using hown)
    simpa using this
  have hB : Below w.heap.size w w1 := ((Below.refl _ _).alloc (Nat.le_refl _) _).grown hgrow (by simp) (by intro k hk; cases hk; exact Nat.le_refl _)
  clear hown hgrow hnil
  rw [hv]
  go_wp2
  go_ret
  exact ⟨g, cap, rfl, hgb, hR, hB⟩

theorem clone7_nil (w : World) : Calls Yba.prog 7 #[.slice none 0 0] w fun e w' => e = .returned (.slice none 0 0) ∧ w' = w := by
  have q : ∀ (w : World), (binOp .eql 27 (.slice none 0 0) (.slice none 0 0)).run Yba.prog w = .ok (.bool true) w := fun w => Lib.run_eql_slice_nil w _ _ _ _ _ _ _ Yba.underlying27
  go_enter Yba.func7, Yba.ntmps7
  go_wp2
  go_ret
  exact ⟨rfl, rfl⟩

theorem equal11_nil (a1 a2 : Option Addr) (c1 c2 : Nat) (w : World) : Calls Yba.prog 11 #[.slice a1 0 c1, .slice a2 0 c2] w fun e w' => e = .returned (.bool true) ∧ ∃ n, w' = w.drewN n := by
  go_enter Yba.func11, Yba.ntmps11
  go_wp2
  refine wp_loop_rounds 1 ?_
  rw [rounds_succ]
  go_wp2
  go_ret
  exact ⟨rfl, 0, rfl⟩

theorem equal11_some (b1 o1 b2 o2 n c1 c2 : Nat) (f : Nat → Int) (w : World) (hn : n ≤ 9223372036854775807) (h1 : ∀ i, i < n → w.cell? ⟨b1, o1 + i, none⟩ = some (.int .u64 (f i))) (h2 : ∀ i, i < n → w.cell? ⟨b2, o2 + i, none⟩ = some (.int .u64 (f i))) :
    Calls Yba.prog 11 #[.slice (some ⟨b1, o1, none⟩) n c1, .slice (some ⟨b2, o2, none⟩) n c2] w fun e w' => e = .returned (.bool true) ∧ ∃ k, w' = w.drewN k := by
  go_enter Yba.func11, Yba.ntmps11
  go_wp2
  go_loopw [13] (fun i wr => ∃ k : Nat, k ≤ n ∧ i = .int .i64 k ∧ ∃ d, wr = w.drewN d) (fun i _ => n - (intOf i).toNat)
  case atStart => exact ⟨0, Nat.zero_le _, rfl, 0, rfl⟩
  case round =>
    obtain ⟨k, hk, rfl, d, rfl⟩ := hrel
    by_cases hlt : k < n
    · have g1 := h1 k hlt
      have g2 := h2 k hlt
      have hkI : (k : Int) < (n : Int) := by omega
      go_wp2
      go_quiet (fail)
      go_wp2
      go_roundw
      case rel => exact ⟨k + 1, by omega, by go_num, _, rfl⟩
      case measure => simp [intOf]; omega
    · go_wp2
      go_ret
      exact ⟨rfl, d, rfl⟩

theorem equal12_nil (a1 a2 : Option Addr) (c1 c2 : Nat) (w : World) : Calls Yba.prog 12 #[.slice a1 0 c1, .slice a2 0 c2] w fun e w' => e = .returned (.bool true) ∧ ∃ n, w' = w.drewN n := by
  go_enter Yba.func12, Yba.ntmps12
  go_wp2
  refine wp_loop_rounds 1 ?_
  rw [rounds_succ]
  go_wp2
  go_ret
  exact ⟨rfl, 0, rfl⟩

theorem equal12_some (b1 o1 b2 o2 n c1 c2 : Nat) (f : Nat → Int) (w : World) (hn : n ≤ 9223372036854775807) (h1 : ∀ i, i < n → w.cell? ⟨b1, o1 + i, none⟩ = some (.int .i32 (f i))) (h2 : ∀ i, i < n → w.cell? ⟨b2, o2 + i, none⟩ = some (.int .i32 (f i))) :
    Calls Yba.prog 12 #[.slice (some ⟨b1, o1, none⟩) n c1, .slice (some ⟨b2, o2, none⟩) n c2] w fun e w' => e = .returned (.bool true) ∧ ∃ k, w' = w.drewN k := by
  go_enter Yba.func12, Yba.ntmps12
  go_wp2
  go_loopw [13] (fun i wr => ∃ k : Nat, k ≤ n ∧ i = .int .i64 k ∧ ∃ d, wr = w.drewN d) (fun i _ => n - (intOf i).toNat)
  case atStart => exact ⟨0, Nat.zero_le _, rfl, 0, rfl⟩
  case round =>
    obtain ⟨k, hk, rfl, d, rfl⟩ := hrel
    by_cases hlt : k < n
    · have g1 := h1 k hlt
      have g2 := h2 k hlt
      have hkI : (k : Int) < (n : Int) := by omega
      go_wp2
      go_quiet (fail)
      go_wp2
      go_roundw
      case rel => exact ⟨k + 1, by omega, by go_num, _, rfl⟩
      case measure => simp [intOf]; omega
    · go_wp2
      go_ret
      exact ⟨rfl, d, rfl⟩

theorem equal13_nil (a1 a2 : Option Addr) (c1 c2 : Nat) (w : World) : Calls Yba.prog 13 #[.slice a1 0 c1, .slice a2 0 c2] w fun e w' => e = .returned (.bool true) ∧ ∃ n, w' = w.drewN n := by
  go_enter Yba.func13, Yba.ntmps13
  go_wp2
  refine wp_loop_rounds 1 ?_
  rw [rounds_succ]
  go_wp2
  go_ret
  exact ⟨rfl, 0, rfl⟩

theorem equal13_some (b1 o1 b2 o2 n c1 c2 : Nat) (f : Nat → Bool) (w : World) (hn : n ≤ 9223372036854775807) (h1 : ∀ i, i < n → w.cell? ⟨b1, o1 + i, none⟩ = some (.bool (f i))) (h2 : ∀ i, i < n → w.cell? ⟨b2, o2 + i, none⟩ = some (.bool (f i))) :
    Calls Yba.prog 13 #[.slice (some ⟨b1, o1, none⟩) n c1, .slice (some ⟨b2, o2, none⟩) n c2] w fun e w' => e = .returned (.bool true) ∧ ∃ k, w' = w.drewN k := by
  go_enter Yba.func13, Yba.ntmps13
  go_wp2
  go_loopw [13] (fun i wr => ∃ k : Nat, k ≤ n ∧ i = .int .i64 k ∧ ∃ d, wr = w.drewN d) (fun i _ => n - (intOf i).toNat)
  case atStart => exact ⟨0, Nat.zero_le _, rfl, 0, rfl⟩
  case round =>
    obtain ⟨k, hk, rfl, d, rfl⟩ := hrel
    by_cases hlt : k < n
    · have g1 := h1 k hlt
      have g2 := h2 k hlt
      have hkI : (k : Int) < (n : Int) := by omega
      go_wp2
      go_quiet (fail)
      go_wp2
      go_roundw
      case rel => exact ⟨k + 1, by omega, by go_num, _, rfl⟩
      case measure => simp [intOf]; omega
    · go_wp2
      go_ret
      exact ⟨rfl, d, rfl⟩

theorem equal14_nil (a1 a2 : Option Addr) (c1 c2 : Nat) (w : World) : Calls Yba.prog 14 #[.slice a1 0 c1, .slice a2 0 c2] w fun e w' => e = .returned (.bool true) ∧ ∃ n, w' = w.drewN n := by
  go_enter Yba.func14, Yba.ntmps14
  go_wp2
  refine wp_loop_rounds 1 ?_
  rw [rounds_succ]
  go_wp2
  go_ret
  exact ⟨rfl, 0, rfl⟩

theorem equal14_some (b1 b2 n c1 c2 : Nat) (f g : Nat → Int) (w : World) (hn : n ≤ 9223372036854775807) (h1 : ∀ i, i < n → w.cell? ⟨b1, i * 2, none⟩ = some (.int .i64 (f i))) (h1b : ∀ i, i < n → w.cell? ⟨b1, i * 2 + 1, none⟩ = some (.int .u64 (g i))) (h2 : ∀ i, i < n → w.cell? ⟨b2, i * 2, none⟩ = some (.int .i64 (f i))) (h2b : ∀ i, i < n → w.cell? ⟨b2, i * 2 + 1, none⟩ = some (.int .u64 (g i))) :
    Calls Yba.prog 14 #[.slice (some ⟨b1, 0, none⟩) n c1, .slice (some ⟨b2, 0, none⟩) n c2] w fun e w' => e = .returned (.bool true) ∧ ∃ k, w' = w.drewN k := by
  go_enter Yba.func14, Yba.ntmps14
  go_wp2
  go_loopw [13] (fun i wr => ∃ k : Nat, k ≤ n ∧ i = .int .i64 k ∧ ∃ d, wr = w.drewN d) (fun i _ => n - (intOf i).toNat)
  case atStart => exact ⟨0, Nat.zero_le _, rfl, 0, rfl⟩
  case round =>
    obtain ⟨k, hk, rfl, d, rfl⟩ := hrel
    by_cases hlt : k < n
    · have g1 := h1 k hlt
      have g2 := h2 k hlt
      have g1b := h1b k hlt
      have g2b := h2b k hlt
      have hkI : (k : Int) < (n : Int) := by omega
      go_wp2
      go_quiet (fail)
      go_wp2
      go_roundw
      case rel => exact ⟨k + 1, by omega, by go_num, _, rfl⟩
      case measure => simp [intOf]; omega
    · go_wp2
      go_ret
      exact ⟨rfl, d, rfl⟩

end Go.Proofs.Ybulkebqk
