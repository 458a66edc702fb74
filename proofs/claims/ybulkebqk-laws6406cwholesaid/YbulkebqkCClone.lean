/-
  slices.Clone at the four types of LawS6406CWhole.
-/
import Derived.Test.YbulkebqkSlices
import Derived.Test.YbulkebqkCTab
namespace Go.Proofs.Ybulkebqk
open Go.RowKit
set_option linter.unusedVariables false

theorem Yba.inf3 : (Yba.prog.info? 3).map (fun i => (i.zero, i.size, i.bytes)) = some (some (.int .i64 0), 1, 8) := by kernel_rfl
theorem Yba.inf9 : (Yba.prog.info? 9).map (fun i => (i.zero, i.size, i.bytes)) = some (some (.string { data := #[] }), 1, 16) := by kernel_rfl
theorem Yba.inf79 : (Yba.prog.info? 79).map (fun i => (i.zero, i.size, i.bytes)) = some (some (.agg #[.int .u8 0, .int .i64 0, .int .i64 0, .int .i64 0]), 4, 32) := by kernel_rfl
theorem Yba.inf64 : (Yba.prog.info? 64).map (fun i => (i.zero, i.size, i.bytes)) = some (some (.agg #[.int .u8 0, .int .i64 0, .string { data := #[] }]), 3, 32) := by kernel_rfl

theorem clone19_some (a : Addr) (n c : Nat) (xs : List Value) (w : World) (hn : n ≤ 1000000) (hx : xs.length = n * 1) (h1 : ∀ u ∈ xs, u.oneCell' = true) (hc : ∀ j u, xs[j]? = some u → w.cell? (a.add j) = some u) :
    Calls Yba.prog 19 #[.slice (some a) n c] w fun e w' => ∃ g cap, e = .returned (.slice (some ⟨g, 0, none⟩) n cap) ∧ w.heap.size ≤ g ∧ Row w' g xs ∧ Below w.heap.size w w' := by
  obtain ⟨i0, hi, hz0, hz1, hz2⟩ := info_parts Yba.inf3
  have q : ∀ (w : World), (binOp .eql 41 (.slice (some a) n c) (.slice none 0 0)).run Yba.prog w = .ok (.bool false) w := fun w => Lib.run_eql_slice_nil w _ _ _ _ _ _ _ Yba.underlying41
  have HC : Hid _ := hc
  have HX : Hid _ := hx
  have H1 : Hid _ := h1
  clear hc hx h1
  go_enter Yba.func19, Yba.ntmps19
  go_wp2_with (at_builtin; refine wpList_append_own _ rfl (.tmp 5) (.tmp 6) 41 rfl w.heap.size 3 i0 (.int .i64 0) 1 8 Yba.underlying41 hi hz0 hz1 hz2 rfl (by decide) _ 0 [] rfl (World.ownsRow_made w #[] 0 (Nat.le_refl _) (by decide) rfl) a n c xs rfl HX.out (fun j u hu => (World.cell?_alloc_some w (a.add j) _ (by rw [HC.out j u hu]; rfl)).trans (HC.out j u hu)) H1.out (by unfold maxLen; omega) (by omega) (by simp) ?_; intro v' w1 hown hgrow hnil)
  have hv : ∃ g cap, v' = .slice (some ⟨g, 0, none⟩) n cap ∧ w.heap.size ≤ g := by
    rcases hown.2 with ⟨hz, _⟩ | ⟨g, cap, cur, hv, hb, _⟩
    · exact absurd (hnil.1 hz).1 (by intro h; cases h)
    · exact ⟨g, cap, by simpa using hv, hb⟩
  obtain ⟨g, cap, hv, hgb⟩ := hv
  have hR : Row w1 g xs := by
    rw [hv] at hown
    have := row_owned (n := n) (by simpa using hown)
    simpa using this
  have hB : Below w.heap.size w w1 := ((Below.refl _ _).alloc (Nat.le_refl _) _).grown hgrow (by simp) (by intro k hk; cases hk; exact Nat.le_refl _)
  clear hown hgrow hnil
  rw [hv]
  go_wp2
  go_ret
  exact ⟨g, cap, rfl, hgb, hR, hB⟩

theorem clone19_nil (w : World) : Calls Yba.prog 19 #[.slice none 0 0] w fun e w' => e = .returned (.slice none 0 0) ∧ w' = w := by
  have q : ∀ (w : World), (binOp .eql 41 (.slice none 0 0) (.slice none 0 0)).run Yba.prog w = .ok (.bool true) w := fun w => Lib.run_eql_slice_nil w _ _ _ _ _ _ _ Yba.underlying41
  go_enter Yba.func19, Yba.ntmps19
  go_wp2
  go_ret
  exact ⟨rfl, rfl⟩

theorem clone20_some (a : Addr) (n c : Nat) (xs : List Value) (w : World) (hn : n ≤ 1000000) (hx : xs.length = n * 1) (h1 : ∀ u ∈ xs, u.oneCell' = true) (hc : ∀ j u, xs[j]? = some u → w.cell? (a.add j) = some u) :
    Calls Yba.prog 20 #[.slice (some a) n c] w fun e w' => ∃ g cap, e = .returned (.slice (some ⟨g, 0, none⟩) n cap) ∧ w.heap.size ≤ g ∧ Row w' g xs ∧ Below w.heap.size w w' := by
  obtain ⟨i0, hi, hz0, hz1, hz2⟩ := info_parts Yba.inf9
  have q : ∀ (w : World), (binOp .eql 69 (.slice (some a) n c) (.slice none 0 0)).run Yba.prog w = .ok (.bool false) w := fun w => Lib.run_eql_slice_nil w _ _ _ _ _ _ _ Yba.underlying69
  have HC : Hid _ := hc
  have HX : Hid _ := hx
  have H1 : Hid _ := h1
  clear hc hx h1
  go_enter Yba.func20, Yba.ntmps20
  go_wp2_with (at_builtin; refine wpList_append_own _ rfl (.tmp 5) (.tmp 6) 69 rfl w.heap.size 9 i0 (.string { data := #[] }) 1 16 Yba.underlying69 hi hz0 hz1 hz2 rfl (by decide) _ 0 [] rfl (World.ownsRow_made w #[] 0 (Nat.le_refl _) (by decide) rfl) a n c xs rfl HX.out (fun j u hu => (World.cell?_alloc_some w (a.add j) _ (by rw [HC.out j u hu]; rfl)).trans (HC.out j u hu)) H1.out (by unfold maxLen; omega) (by omega) (by simp) ?_; intro v' w1 hown hgrow hnil)
  have hv : ∃ g cap, v' = .slice (some ⟨g, 0, none⟩) n cap ∧ w.heap.size ≤ g := by
    rcases hown.2 with ⟨hz, _⟩ | ⟨g, cap, cur, hv, hb, _⟩
    · exact absurd (hnil.1 hz).1 (by intro h; cases h)
    · exact ⟨g, cap, by simpa using hv, hb⟩
  obtain ⟨g, cap, hv, hgb⟩ := hv
  have hR : Row w1 g xs := by
    rw [hv] at hown
    have := row_owned (n := n) (by simpa using hown)
    simpa using this
  have hB : Below w.heap.size w w1 := ((Below.refl _ _).alloc (Nat.le_refl _) _).grown hgrow (by simp) (by intro k hk; cases hk; exact Nat.le_refl _)
  clear hown hgrow hnil
  rw [hv]
  go_wp2
  go_ret
  exact ⟨g, cap, rfl, hgb, hR, hB⟩

theorem clone20_nil (w : World) : Calls Yba.prog 20 #[.slice none 0 0] w fun e w' => e = .returned (.slice none 0 0) ∧ w' = w := by
  have q : ∀ (w : World), (binOp .eql 69 (.slice none 0 0) (.slice none 0 0)).run Yba.prog w = .ok (.bool true) w := fun w => Lib.run_eql_slice_nil w _ _ _ _ _ _ _ Yba.underlying69
  go_enter Yba.func20, Yba.ntmps20
  go_wp2
  go_ret
  exact ⟨rfl, rfl⟩

theorem clone21_some (a : Addr) (n c : Nat) (xs : List Value) (w : World) (hn : n ≤ 1000000) (hx : xs.length = n * 4) (h1 : ∀ u ∈ xs, u.oneCell' = true) (hc : ∀ j u, xs[j]? = some u → w.cell? (a.add j) = some u) :
    Calls Yba.prog 21 #[.slice (some a) n c] w fun e w' => ∃ g cap, e = .returned (.slice (some ⟨g, 0, none⟩) n cap) ∧ w.heap.size ≤ g ∧ Row w' g xs ∧ Below w.heap.size w w' := by
  obtain ⟨i0, hi, hz0, hz1, hz2⟩ := info_parts Yba.inf79
  have q : ∀ (w : World), (binOp .eql 70 (.slice (some a) n c) (.slice none 0 0)).run Yba.prog w = .ok (.bool false) w := fun w => Lib.run_eql_slice_nil w _ _ _ _ _ _ _ Yba.underlying70
  have HC : Hid _ := hc
  have HX : Hid _ := hx
  have H1 : Hid _ := h1
  clear hc hx h1
  go_enter Yba.func21, Yba.ntmps21
  go_wp2_with (at_builtin; refine wpList_append_own _ rfl (.tmp 5) (.tmp 6) 70 rfl w.heap.size 79 i0 (.agg #[.int .u8 0, .int .i64 0, .int .i64 0, .int .i64 0]) 4 32 Yba.underlying70 hi hz0 hz1 hz2 rfl (by decide) _ 0 [] rfl (World.ownsRow_made w #[] 0 (Nat.le_refl _) (by decide) rfl) a n c xs rfl HX.out (fun j u hu => (World.cell?_alloc_some w (a.add j) _ (by rw [HC.out j u hu]; rfl)).trans (HC.out j u hu)) H1.out (by unfold maxLen; omega) (by omega) (by simp) ?_; intro v' w1 hown hgrow hnil)
  have hv : ∃ g cap, v' = .slice (some ⟨g, 0, none⟩) n cap ∧ w.heap.size ≤ g := by
    rcases hown.2 with ⟨hz, _⟩ | ⟨g, cap, cur, hv, hb, _⟩
    · exact absurd (hnil.1 hz).1 (by intro h; cases h)
    · exact ⟨g, cap, by simpa using hv, hb⟩
  obtain ⟨g, cap, hv, hgb⟩ := hv
  have hR : Row w1 g xs := by
    rw [hv] at hown
    have := row_owned (n := n) (by simpa using hown)
    simpa using this
  have hB : Below w.heap.size w w1 := ((Below.refl _ _).alloc (Nat.le_refl _) _).grown hgrow (by simp) (by intro k hk; cases hk; exact Nat.le_refl _)
  clear hown hgrow hnil
  rw [hv]
  go_wp2
  go_ret
  exact ⟨g, cap, rfl, hgb, hR, hB⟩

theorem clone21_nil (w : World) : Calls Yba.prog 21 #[.slice none 0 0] w fun e w' => e = .returned (.slice none 0 0) ∧ w' = w := by
  have q : ∀ (w : World), (binOp .eql 70 (.slice none 0 0) (.slice none 0 0)).run Yba.prog w = .ok (.bool true) w := fun w => Lib.run_eql_slice_nil w _ _ _ _ _ _ _ Yba.underlying70
  go_enter Yba.func21, Yba.ntmps21
  go_wp2
  go_ret
  exact ⟨rfl, rfl⟩

theorem clone22_some (a : Addr) (n c : Nat) (xs : List Value) (w : World) (hn : n ≤ 1000000) (hx : xs.length = n * 3) (h1 : ∀ u ∈ xs, u.oneCell' = true) (hc : ∀ j u, xs[j]? = some u → w.cell? (a.add j) = some u) :
    Calls Yba.prog 22 #[.slice (some a) n c] w fun e w' => ∃ g cap, e = .returned (.slice (some ⟨g, 0, none⟩) n cap) ∧ w.heap.size ≤ g ∧ Row w' g xs ∧ Below w.heap.size w w' := by
  obtain ⟨i0, hi, hz0, hz1, hz2⟩ := info_parts Yba.inf64
  have q : ∀ (w : World), (binOp .eql 59 (.slice (some a) n c) (.slice none 0 0)).run Yba.prog w = .ok (.bool false) w := fun w => Lib.run_eql_slice_nil w _ _ _ _ _ _ _ Yba.underlying59
  have HC : Hid _ := hc
  have HX : Hid _ := hx
  have H1 : Hid _ := h1
  clear hc hx h1
  go_enter Yba.func22, Yba.ntmps22
  go_wp2_with (at_builtin; refine wpList_append_own _ rfl (.tmp 5) (.tmp 6) 59 rfl w.heap.size 64 i0 (.agg #[.int .u8 0, .int .i64 0, .string { data := #[] }]) 3 32 Yba.underlying59 hi hz0 hz1 hz2 rfl (by decide) _ 0 [] rfl (World.ownsRow_made w #[] 0 (Nat.le_refl _) (by decide) rfl) a n c xs rfl HX.out (fun j u hu => (World.cell?_alloc_some w (a.add j) _ (by rw [HC.out j u hu]; rfl)).trans (HC.out j u hu)) H1.out (by unfold maxLen; omega) (by omega) (by simp) ?_; intro v' w1 hown hgrow hnil)
  have hv : ∃ g cap, v' = .slice (some ⟨g, 0, none⟩) n cap ∧ w.heap.size ≤ g := by
    rcases hown.2 with ⟨hz, _⟩ | ⟨g, cap, cur, hv, hb, _⟩
    · exact absurd (hnil.1 hz).1 (by intro h; cases h)
    · exact ⟨g, cap, by simpa using hv, hb⟩
  obtain ⟨g, cap, hv, hgb⟩ := hv
  have hR : Row w1 g xs := by
    rw [hv] at hown
    have := row_owned (n := n) (by simpa using hown)
    simpa using this
  have hB : Below w.heap.size w w1 := ((Below.refl _ _).alloc (Nat.le_refl _) _).grown hgrow (by simp) (by intro k hk; cases hk; exact Nat.le_refl _)
  clear hown hgrow hnil
  rw [hv]
  go_wp2
  go_ret
  exact ⟨g, cap, rfl, hgb, hR, hB⟩

theorem clone22_nil (w : World) : Calls Yba.prog 22 #[.slice none 0 0] w fun e w' => e = .returned (.slice none 0 0) ∧ w' = w := by
  have q : ∀ (w : World), (binOp .eql 59 (.slice none 0 0) (.slice none 0 0)).run Yba.prog w = .ok (.bool true) w := fun w => Lib.run_eql_slice_nil w _ _ _ _ _ _ _ Yba.underlying59
  go_enter Yba.func22, Yba.ntmps22
  go_wp2
  go_ret
  exact ⟨rfl, rfl⟩
end Go.Proofs.Ybulkebqk
