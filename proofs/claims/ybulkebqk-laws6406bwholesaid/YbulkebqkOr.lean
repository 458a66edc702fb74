/-
  The walks of (*forcedOrder).orWord.
-/
import Derived.Test.YbulkebqkSlices
namespace Go.Proofs.Ybulkebqk
open Go.RowKit
set_option linter.unusedVariables false

/-- What is known of the forcedOrder in block F. -/
structure FO (w : World) (F : Nat) (wd : Int) (vr vl vs vc vg : Value) (qb : Nat) (tr : Bool) (ts : Int) : Prop where
  c13 : w.cell? ⟨F, 13, none⟩ = some (.int .i64 wd)
  c14 : w.cell? ⟨F, 14, none⟩ = some vr
  c15 : w.cell? ⟨F, 15, none⟩ = some vl
  c22 : w.cell? ⟨F, 22, none⟩ = some (.pointer (some ⟨qb, 0, none⟩))
  c23 : w.cell? ⟨F, 23, none⟩ = some vs
  c28 : w.cell? ⟨F, 28, none⟩ = some (.bool tr)
  c30 : w.cell? ⟨F, 30, none⟩ = some vc
  c31 : w.cell? ⟨F, 31, none⟩ = some vg
  c32 : w.cell? ⟨F, 32, none⟩ = some (.int .i32 ts)
  fz : ∀ o, w.frozen? ⟨F, o, none⟩ = false
  lt : F < w.heap.size

theorem FO.same {w w' : World} {F : Nat} {wd : Int} {vr vl vs vc vg : Value} {qb : Nat} {tr : Bool} {ts : Int} (h : FO w F wd vr vl vs vc vg qb tr ts) (e : w'.heap[F]? = w.heap[F]?) : FO w' F wd vr vl vs vc vg qb tr ts := by
  obtain ⟨c13, c14, c15, c22, c23, c28, c30, c31, c32, fz, lt⟩ := h
  have hc : ∀ o, w'.cell? ⟨F, o, none⟩ = w.cell? ⟨F, o, none⟩ := fun o => World.cell?_of_block e
  have hf : ∀ o, w'.frozen? ⟨F, o, none⟩ = w.frozen? ⟨F, o, none⟩ := fun o => World.frozen?_of_block e
  have hlt : F < w'.heap.size := by
    rcases Nat.lt_or_ge F w'.heap.size with h | h
    · exact h
    · rw [Array.getElem?_eq_none h] at e
      have := (Array.getElem?_eq_some_iff.2 ⟨lt, rfl⟩ : w.heap[F]? = some w.heap[F])
      rw [this] at e; cases e
  exact ⟨(hc _).trans c13, (hc _).trans c14, (hc _).trans c15, (hc _).trans c22, (hc _).trans c23, (hc _).trans c28, (hc _).trans c30, (hc _).trans c31, (hc _).trans c32, fun o => (hf o).trans (fz o), hlt⟩

theorem owns_same {w w' : World} {base : Nat} {e : TypeId} {size : Nat} {v : Value} {n : Nat} {xs : List Value} (h : w.ownsRow base e size v n xs) (hs : ∀ g, v.ownBlock = some g → w'.heap[g]? = w.heap[g]?) : w'.ownsRow base e size v n xs := by
  refine ⟨h.1, ?_⟩
  rcases h.2 with hn | ⟨g, cap, cur, rfl, hb, hgg, rest⟩
  · exact .inl hn
  · exact .inr ⟨g, cap, cur, rfl, hb, (hs g rfl).trans hgg, rest⟩

theorem news2 (W : World) (H : Nat) (hH : W.heap.size = H) (x y : Value) (t : TypeId) : ∀ j u, [x, y][j]? = some u → (W.alloc (.cells #[x, y] t)).cell? ((⟨H, 0, none⟩ : Addr).add j) = some u := by
  subst hH
  exact World.news_of_block (MapKept.heap_alloc W _).1

theorem grown_swap {w W w1 : World} {a : Addr} {v : Value} {n : Nat} {o : Obj} {row : Option Nat} {W2 : World} (hW : W2 = (w.drewN n).setCell a v) (h : W.grownBy w1 row) (e : W.heap = (W2.alloc o).heap := by rfl) (e1 : W.os = (W2.alloc o).os := by rfl) (e2 : W.tape = (W2.alloc o).tape := by rfl) (e3 : W.output = (W2.alloc o).output := by rfl) : ((w.setCell a v).alloc o).grownBy w1 row := by
  subst hW
  exact ⟨h.os.trans e1, h.tape.trans e2, h.output.trans e3, by have := h.size; rw [e] at this; exact this, fun k hk hr => by
    have := h.block k (by rw [e]; exact hk) hr
    rw [e] at this; exact this⟩

theorem or_no (F G1 N : Nat) (at' : Nat) (b r : Int) (wd : Int) (vl vs vc vg : Value) (qb : Nat) (tr : Bool) (ts : Int) (w : World) (hN : (N : Int) ≤ 1000000) (hat : (at' : Int) < (N : Int)) (hF : FO w F wd (.slice (some ⟨G1, 0, none⟩) N N) vl vs vc vg qb tr ts)
    (hr : w.cell? ⟨G1, at', none⟩ = some (.int .u64 r)) (hz : (bits .andNot .u64 b r == 0) = true) :
    Calls Yba.prog 34 #[.pointer (some ⟨F, 0, none⟩), .int .i64 at', .int .u64 b] w fun e w' => e = .returned (.bool false) ∧ w' = w := by
  obtain ⟨c13, c14, c15, c22, c23, c28, c30, c31, c32, fz, lt⟩ := hF
  go_enter Yba.func34, Yba.ntmps34
  go_wp2
  go_ret
  exact ⟨rfl, rfl⟩

theorem or_plain (F G1 N : Nat) (at' : Nat) (b r : Int) (wd : Int) (vl vs vc vg : Value) (qb : Nat) (ts : Int) (w : World) (hN : (N : Int) ≤ 1000000) (hat : (at' : Int) < (N : Int)) (hF : FO w F wd (.slice (some ⟨G1, 0, none⟩) N N) vl vs vc vg qb false ts)
    (hr : w.cell? ⟨G1, at', none⟩ = some (.int .u64 r)) (hfr : w.frozen? ⟨G1, at', none⟩ = false) (hz : (bits .andNot .u64 b r == 0) = false) :
    Calls Yba.prog 34 #[.pointer (some ⟨F, 0, none⟩), .int .i64 at', .int .u64 b] w fun e w' => e = .returned (.bool true) ∧ ∃ k, w' = (w.setCell ⟨G1, at', none⟩ (.int .u64 (bits .or .u64 r b))).drewN k := by
  obtain ⟨c13, c14, c15, c22, c23, c28, c30, c31, c32, fz, lt⟩ := hF
  go_enter Yba.func34, Yba.ntmps34
  go_wp2
  go_quiet (fail)
  go_wp2
  go_ret
  exact ⟨rfl, _, rfl⟩

theorem or_logged (F G1 G2 N : Nat) (at' : Nat) (b r g : Int) (wd : Int) (vl vs vc : Value) (qb : Nat) (ts : Int) (w : World) (hN : (N : Int) ≤ 1000000) (hat : (at' : Int) < (N : Int)) (hF : FO w F wd (.slice (some ⟨G1, 0, none⟩) N N) vl vs vc (.slice (some ⟨G2, 0, none⟩) N N) qb true ts)
    (hr : w.cell? ⟨G1, at', none⟩ = some (.int .u64 r)) (hfr : w.frozen? ⟨G1, at', none⟩ = false) (hg : w.cell? ⟨G2, at', none⟩ = some (.int .i32 g)) (hz : (bits .andNot .u64 b r == 0) = false) (hne : (g != ts) = false) :
    Calls Yba.prog 34 #[.pointer (some ⟨F, 0, none⟩), .int .i64 at', .int .u64 b] w fun e w' => e = .returned (.bool true) ∧ ∃ k, w' = (w.setCell ⟨G1, at', none⟩ (.int .u64 (bits .or .u64 r b))).drewN k := by
  obtain ⟨c13, c14, c15, c22, c23, c28, c30, c31, c32, fz, lt⟩ := hF
  go_enter Yba.func34, Yba.ntmps34
  go_wp2
  go_quiet (fail)
  go_wp2
  go_ret
  exact ⟨rfl, _, rfl⟩

set_option maxHeartbeats 400000 in
theorem or_logs (F G1 G2 N : Nat) (at' : Nat) (b r gv : Int) (wd : Int) (vl vs vc : Value) (qb : Nat) (ts : Int) (base nc : Nat) (cs : List Value) (w : World) (hN : (N : Int) ≤ 1000000) (hat : (at' : Int) < (N : Int)) (hF : FO w F wd (.slice (some ⟨G1, 0, none⟩) N N) vl vs vc (.slice (some ⟨G2, 0, none⟩) N N) qb true ts)
    (hr : w.cell? ⟨G1, at', none⟩ = some (.int .u64 r)) (hfr : w.frozen? ⟨G1, at', none⟩ = false) (hg : w.cell? ⟨G2, at', none⟩ = some (.int .i32 gv)) (hfg : w.frozen? ⟨G2, at', none⟩ = false) (hz : (bits .andNot .u64 b r == 0) = false) (hne : (gv != ts) = true)
    (hown : w.ownsRow base 29 2 vc nc cs) (hbase : base ≤ w.heap.size) (hnc : nc ≤ 100000) (hvF : vc.ownBlock ≠ some F) (hv1 : vc.ownBlock ≠ some G1) (hv2 : vc.ownBlock ≠ some G2) (h12 : G1 ≠ G2) (hF1 : F ≠ G1) (hF2 : F ≠ G2) :
    Calls Yba.prog 34 #[.pointer (some ⟨F, 0, none⟩), .int .i64 at', .int .u64 b] w fun e w' => e = .returned (.bool true) ∧ ∃ g' cap' w1 k, w' = ((w1.setCell ⟨F, 30, none⟩ (.slice (some ⟨g', 0, none⟩) (nc + 1) cap')).setCell ⟨G1, at', none⟩ (.int .u64 (bits .or .u64 r b))).drewN k ∧
      w1.ownsRow base 29 2 (.slice (some ⟨g', 0, none⟩) (nc + 1) cap') (nc + 1) (cs ++ [.int .i64 at', .int .u64 r]) ∧ ((w.setCell ⟨G2, at', none⟩ (.int .i32 ts)).alloc (.cells #[.int .i64 at', .int .u64 r] 29)).grownBy w1 vc.ownBlock ∧ (vc.ownBlock = some g' ∨ g' = w.heap.size + 1) ∧ g' < w1.heap.size := by
  obtain ⟨i0, hi, hz0, hz1, hz2⟩ := info_parts Yba.info29
  obtain ⟨c13, c14, c15, c22, c23, c28, c30, c31, c32, fz, lt⟩ := hF
  have hl1 := World.block_lt_of_cell? _ _ hr
  have hl2 := World.block_lt_of_cell? _ _ hg
  have h2F : G2 ≠ F := fun h => hF2 h.symm
  have h1F : G1 ≠ F := fun h => hF1 h.symm
  have h21 : G2 ≠ G1 := fun h => h12 h.symm
  go_enter Yba.func34, Yba.ntmps34
  go_wp2
  go_quiet (fail)
  go_wp2
  go_region_held3 (fun w' => w'.cell? ⟨F, 31, none⟩ = some (.slice (some ⟨G2, 0, none⟩) N N) ∧ w'.cell? ⟨F, 32, none⟩ = some (.int .i32 ts)) (first | go_keep | (simp [go_sem, *])) (fail)
  obtain ⟨W2, hW2⟩ : ∃ W2, W2 = (w.drewN (nq + 1)).setCell ⟨G2, at', none⟩ (.int .i32 ts) := ⟨_, rfl⟩
  have hown2 : W2.ownsRow base 29 2 vc nc cs := owns_same hown (fun g hgb => by rw [hW2]; exact Below.heap_setCell _ _ _ _ (by intro h; rw [h] at hgb; exact hv2 hgb))
  have k30 : W2.cell? ⟨F, 30, none⟩ = some vc := by rw [hW2]; simp [go_sem, *]
  have k14 : W2.cell? ⟨F, 14, none⟩ = some (.slice (some ⟨G1, 0, none⟩) N N) := by rw [hW2]; simp [go_sem, *]
  have kr : W2.cell? ⟨G1, at', none⟩ = some (.int .u64 r) := by rw [hW2]; simp [go_sem, *]
  have kF : ∀ o, W2.frozen? ⟨F, o, none⟩ = false := by intro o; rw [hW2, World.frozen?_setCell]; exact fz o
  have kG : W2.frozen? ⟨G1, at', none⟩ = false := by rw [hW2, World.frozen?_setCell]; exact hfr
  have kz : W2.heap.size = w.heap.size := by rw [hW2]; simp
  have klF : F < W2.heap.size := by omega
  have klG : G1 < W2.heap.size := by omega
  have HB : Hid (base ≤ W2.heap.size) := by show base ≤ W2.heap.size; omega
  rw [← hW2]
  have HW2 : Hid (W2 = (w.drewN (nq + 1)).setCell ⟨G2, at', none⟩ (.int .i32 ts)) := hW2
  have HZ : Hid (W2.heap.size = w.heap.size) := kz
  have HO : Hid (W2.ownsRow base 29 2 vc nc cs) := hown2
  have HN := Hid (nc ≤ 100000)
  clear hown hown2 hW2 kz c13 c14 c15 c22 c23 c28 c30 c31 c32 fz lt hr hfr hg hfg hl1 hl2 hbase
  go_wp2
  go_region_law ((refine step_append_lies _ (by rfl) (.tmp 49) (.tmp 59) 27 (by rfl) base 29 i0 (.agg #[.int .i64 0, .int .u64 0]) 2 16 Yba.underlying27 hi hz0 hz1 hz2 rfl (by decide) vc nc cs (by rfl) (by refine World.ownsRow.alloc ?_ _; exact HO.out) ⟨W2.heap.size, 0, none⟩ 1 1 [.int .i64 at', .int .u64 r] (by rfl) rfl (news2 _ _ (by rfl) _ _ _) (by intro u hu; simp at hu; rcases hu with rfl | rfl <;> rfl) (by decide) (by unfold maxLen; omega) (by omega) (by simp; exact Nat.le_succ_of_le HB.out) (W2.heap.size + 1) (by simp) ?_; intro g' cap' w1 hown1 hgrow hat' hlt'; have j30 : w1.cell? ⟨F, 30, none⟩ = some vc := hgrow.cell (by simp [go_sem, *]) (fun h => hvF h.symm); have jF : w1.frozen? ⟨F, 30, none⟩ = false := (hgrow.frozen_far ⟨F, 30, none⟩ (by simp; omega) (fun h => hvF h.symm)).trans (by simp [go_sem, *]); have j14 : w1.cell? ⟨F, 14, none⟩ = some (.slice (some ⟨G1, 0, none⟩) N N) := hgrow.cell (by simp [go_sem, *]) (fun h => hvF h.symm); have jr : w1.cell? ⟨G1, at', none⟩ = some (.int .u64 r) := hgrow.cell (by simp [go_sem, *]) (fun h => hv1 h.symm); have jG : w1.frozen? ⟨G1, at', none⟩ = false := (hgrow.frozen_far ⟨G1, at', none⟩ (by simp; omega) (fun h => hv1 h.symm)).trans (by simp [go_sem, *]); have HG : Hid (((w.setCell ⟨G2, at', none⟩ (.int .i32 ts)).alloc (.cells #[.int .i64 at', .int .u64 r] 29)).grownBy w1 vc.ownBlock) := grown_swap HW2.out hgrow; have HA : Hid (vc.ownBlock = some g' ∨ g' = w.heap.size + 1) := (by have := HZ.out; rw [this] at hat'; exact hat'); have HL : Hid (g' < w1.heap.size) := hlt'; have HO1 : Hid _ := hown1; clear hgrow hat' hlt' hown1))
  all_goals
    clear k30 k14 kr kF kG klF klG HB HW2 HZ HO
    go_wp2
    go_ret
    exact ⟨rfl, g', cap', w1, 0, rfl, HO1.out, HG.out, HA.out, HL.out⟩
end Go.Proofs.Ybulkebqk
