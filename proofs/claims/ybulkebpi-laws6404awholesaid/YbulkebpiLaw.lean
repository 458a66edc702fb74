/-
  The law's own walk: small (the new ring has 8 slots) and large (twice the old length).
-/
import Derived.Test.YbulkebpiGrow
import Derived.Lib.Builder
import Derived.WalkSmall
namespace Go.Proofs.Ybulkebpi
open Go.RowKit
set_option linter.unusedVariables false

theorem neq_same (w : World) (p : Option Addr) : (binOp .neq 29 (.pointer p) (.pointer p)).run Yba.prog w = .ok (.bool false) w := by
  cases p with
  | none => simpa using run_neq_pointer_nil (P := Yba.prog) w 29 none (by kernel_rfl)
  | some a =>
    obtain ⟨j, hj⟩ := Option.isSome_iff_exists.1 (show (Yba.prog.info? 38).isSome = true by kernel_rfl)
    exact Lib.run_neq_ptr_same w a Yba.underlying29 hj

theorem ring_copied {w : World} {G L : Nat} {X : List Value} {ps : List (Option Addr)} (hX : X = ps.map Value.pointer) (hps : ps.length = L) (h : w.heap[G]? = some (.cells (splice ((List.replicate L none).map Value.pointer) 0 X).toArray 29 (0, 0))) : Ring w G ps := by
  unfold Ring
  rw [h, hX, splice]
  simp [hps]

theorem Ring.at {w : World} {g : Nat} {ps : List (Option Addr)} (h : Ring w g ps) {i : Nat} {p : Option Addr} (hp : ps[i]? = some p) : w.cell? ⟨g, i, none⟩ = some (.pointer p) := by
  rw [h.cell, hp]; rfl

set_option maxHeartbeats 1000000 in
set_option maxRecDepth 10000 in
theorem law_small (a0 : Option Addr) (L cap0 : Nat) (a1 a2 : Int) (h : Nat) (w : World) (hL : (L : Int) ≤ 65536) (hmod : a1 % ((L : Int) + 1) = (h : Int)) (h0 : 0 ≤ a1) (h1 : a1 ≤ 18446744073709551615) (hh : h ≤ L) (hW2 : 2 * (L : Int) < 8)
    (hmk4 : Calls Yba.prog 4 #[.slice a0 L cap0] w fun e w' => ∃ ps, e = .returned (.slice (some ⟨w.heap.size, 0, none⟩) L L) ∧ ps.length = L ∧ Ring w' w.heap.size ps ∧ Below w.heap.size w w') :
    Calls Yba.prog 3 #[.slice a0 L cap0, .int .u64 a1, .int .i64 a2] w fun e w' => e = .returned (.bool true) ∧ Below w.heap.size w w' := by
  have hmk : ∀ wx : World, (Instr.makeSlice 24 (.int .i64 (L : Int)) (.int .i64 (L : Int))).run Yba.prog wx = .ok (.slice (some ⟨wx.heap.size, 0, none⟩) L L) (wx.alloc (.cells (madeCells #[.pointer none] L) 29)) := 
    fun wx => run_make_row' (P := Yba.prog) 24 29 (.pointer none) 8 Yba.underlying24 Yba.info29 rfl .i64 .i64 L (by omega) (by omega) wx
  have hne := neq_same
  have HM : Hid _ := hmk4
  clear hmk4
  go_enter Yba.func3, Yba.ntmps3
  go_wp2_with fail
  refine Calls.mono HM.out ?_
  rintro e w1 ⟨ps, rfl, hps, hR, hB⟩
  have HR : Hid (Ring w1 w.heap.size ps) := hR
  have hlt := hR.lt
  obtain ⟨X, hX⟩ : ∃ X, X = ps.map Value.pointer := ⟨_, rfl⟩
  have HX : Hid (X = ps.map Value.pointer) := hX
  have lX : X.length = L := by rw [hX]; simpa using hps
  have HP : Hid (ps.length = L) := hps
  clear hX hR hps HM
  have hB1 : Below w1.heap.size w1 (w1.alloc (.cells (madeCells #[.pointer none] L) 29)) := (Below.refl _ _).alloc (Nat.le_refl _) _
  go_wp2_with (refine wpList_copy_splice (by rfl) (.tmp 25) (.tmp 26) 24 24 (by rfl) 29 Yba.underlying24 size29 _ _ _ _ _ _ (by rfl) (by rfl) w1.heap.size 0 ((List.replicate L none).map Value.pointer) 29 (ring_heap w1 L) X (by rw [lX]; simp) (fun _ => ⟨rfl, ⟨w.heap.size, 0, none⟩, rfl, fun j v hv => Ring.upto (A := ps) (B := []) (by rw [List.append_nil]; exact HR.out.alloc _) j v (HX.out ▸ hv)⟩) (by simp [lX]) (fun v hv => ptr_one ps v (HX.out ▸ hv)) w1.heap.size w1 hB1 (Nat.le_refl _) ?_; intro w2 HG2 hB2)
  have hR2 : Ring w2 w1.heap.size ps := ring_copied HX.out HP.out HG2.out
  have hlt2 := hR2.lt
  have hR1 : Ring w2 w.heap.size ps := (hB2.block _ hlt).trans HR.out
  have HL : Hid _ := grow_any w.heap.size w2.heap.size h L 8 a2 ps (w2.alloc (.cells #[.slice (some ⟨w.heap.size, 0, none⟩) L L, .int .i64 h, .int .i64 a2] 28)) (by omega) hh (by omega) HP.out (hR1.alloc _) (by simp) (by simp) (by simp) (by simp) (by simp)
  refine Calls.mono HL.out ?_
  clear HL hmk lX HX HR hB1
  rintro e w4 ⟨rfl, hLeft⟩
  have hA1 := hLeft.rings _ _ (by omega) (hR1.alloc _)
  have hA2 := hLeft.rings _ _ (by omega) (hR2.alloc _)
  have hbel := hLeft.below w.heap.size w (by omega) (by simp; omega) ((hB.trans (hB2.mono (by omega))).alloc (by omega) _)
  have hA4 := hLeft.ring
  have q0 := hLeft.q0
  have q1 := hLeft.q1
  have q2 := hLeft.q2
  simp only [World.size_alloc] at hA4 q0
  have A1 : Hid (Ring w4 w.heap.size ps) := hA1
  have A2 : Hid (Ring w4 w1.heap.size ps) := hA2
  have A4 : Hid (Ring w4 (w2.heap.size + 1) (ps.drop h ++ (ps.take h ++ List.replicate (8 - L) none))) := hA4
  clear hA1 hA2 hA4 hR1 hR2 hLeft HG2 hB2 hB
  go_wp2
  go_loop [13] (fun i => ∃ k : Nat, k ≤ 8 ∧ i = .int .i64 k) (fun i => 8 - (intOf i).toNat)
  case atStart => exact ⟨0, by omega, rfl⟩
  case round =>
    obtain ⟨k, hk, rfl⟩ := hrel
    by_cases hlt : k < 8
    · by_cases hkL : k < L
      · obtain ⟨p, hp⟩ : ∃ p, ps[(h + k) % L]? = some p := ⟨_, List.getElem?_eq_getElem (by rw [HP.out]; exact Nat.mod_lt _ (by omega))⟩
        have hx : w4.cell? ⟨w1.heap.size, (h + k) % L, none⟩ = some (.pointer p) := A2.out.at hp
        have hy : w4.cell? ⟨w2.heap.size + 1, k, none⟩ = some (.pointer p) := A4.out.at ((rot_lt ps h L 8 k HP.out hh hkL).trans hp)
        have i1 : (0 : Int) ≤ ((h : Int) + (k : Int)) % (L : Int) := Int.emod_nonneg _ (by omega)
        have i2 : ((h : Int) + (k : Int)) % (L : Int) < (L : Int) := Int.emod_lt_of_pos _ (by omega)
        clear hp
        go_wp2
        go_round
        case rel => exact ⟨k + 1, by omega, by go_num⟩
        case measure => simp [intOf]; omega
      · have hy : w4.cell? ⟨w2.heap.size + 1, k, none⟩ = some (.pointer none) := A4.out.at (rot_ge ps h L 8 k HP.out hh hkL hlt)
        go_wp2
        go_round
        case rel => exact ⟨k + 1, by omega, by go_num⟩
        case measure => simp [intOf]; omega
    · go_wp2
      go_loopw [15] (fun i wr => ∃ k : Nat, k ≤ L ∧ i = .int .i64 k ∧ Ring wr w.heap.size ps ∧ Ring wr w1.heap.size ps ∧ Below w.heap.size w wr) (fun i _ => L - (intOf i).toNat)
      case atStart => exact ⟨0, Nat.zero_le _, rfl, A1.out, A2.out, hbel⟩
      case round =>
        clear A1 A2 A4 q0 q1 q2 hbel
        obtain ⟨j, hj, rfl, hT1, hT2, hbel⟩ := hrel
        by_cases hjL : j < L
        · obtain ⟨p, hp⟩ : ∃ p, ps[j]? = some p := ⟨_, List.getElem?_eq_getElem (by rw [HP.out]; exact hjL)⟩
          have hx : wr.cell? ⟨w.heap.size, j, none⟩ = some (.pointer p) := hT1.at hp
          have hy : wr.cell? ⟨w1.heap.size, j, none⟩ = some (.pointer p) := hT2.at hp
          have T1 : Hid (Ring wr w.heap.size ps) := hT1
          have T2 : Hid (Ring wr w1.heap.size ps) := hT2
          have hjI : (j : Int) < (L : Int) := by omega
          clear hp hT1 hT2
          go_wp2
          go_quiet (fail)
          go_wp2
          go_roundw
          case rel => exact ⟨j + 1, by omega, by go_num, T1.out, T2.out, below_drewN hbel _⟩
          case measure => simp [intOf]; omega
        · clear hT1 hT2
          go_wp2
          go_ret
          exact ⟨rfl, hbel⟩
set_option maxHeartbeats 1000000 in
set_option maxRecDepth 10000 in
theorem law_large (a0 : Option Addr) (L cap0 : Nat) (a1 a2 : Int) (h : Nat) (w : World) (hL : (L : Int) ≤ 65536) (hmod : a1 % ((L : Int) + 1) = (h : Int)) (h0 : 0 ≤ a1) (h1 : a1 ≤ 18446744073709551615) (hh : h ≤ L) (hW2 : ¬ 2 * (L : Int) < 8)
    (hmk4 : Calls Yba.prog 4 #[.slice a0 L cap0] w fun e w' => ∃ ps, e = .returned (.slice (some ⟨w.heap.size, 0, none⟩) L L) ∧ ps.length = L ∧ Ring w' w.heap.size ps ∧ Below w.heap.size w w') :
    Calls Yba.prog 3 #[.slice a0 L cap0, .int .u64 a1, .int .i64 a2] w fun e w' => e = .returned (.bool true) ∧ Below w.heap.size w w' := by
  have hmk : ∀ wx : World, (Instr.makeSlice 24 (.int .i64 (L : Int)) (.int .i64 (L : Int))).run Yba.prog wx = .ok (.slice (some ⟨wx.heap.size, 0, none⟩) L L) (wx.alloc (.cells (madeCells #[.pointer none] L) 29)) := 
    fun wx => run_make_row' (P := Yba.prog) 24 29 (.pointer none) 8 Yba.underlying24 Yba.info29 rfl .i64 .i64 L (by omega) (by omega) wx
  have hne := neq_same
  have HM : Hid _ := hmk4
  clear hmk4
  go_enter Yba.func3, Yba.ntmps3
  go_wp2_with fail
  refine Calls.mono HM.out ?_
  rintro e w1 ⟨ps, rfl, hps, hR, hB⟩
  have HR : Hid (Ring w1 w.heap.size ps) := hR
  have hlt := hR.lt
  obtain ⟨X, hX⟩ : ∃ X, X = ps.map Value.pointer := ⟨_, rfl⟩
  have HX : Hid (X = ps.map Value.pointer) := hX
  have lX : X.length = L := by rw [hX]; simpa using hps
  have HP : Hid (ps.length = L) := hps
  clear hX hR hps HM
  have hB1 : Below w1.heap.size w1 (w1.alloc (.cells (madeCells #[.pointer none] L) 29)) := (Below.refl _ _).alloc (Nat.le_refl _) _
  go_wp2_with (refine wpList_copy_splice (by rfl) (.tmp 25) (.tmp 26) 24 24 (by rfl) 29 Yba.underlying24 size29 _ _ _ _ _ _ (by rfl) (by rfl) w1.heap.size 0 ((List.replicate L none).map Value.pointer) 29 (ring_heap w1 L) X (by rw [lX]; simp) (fun _ => ⟨rfl, ⟨w.heap.size, 0, none⟩, rfl, fun j v hv => Ring.upto (A := ps) (B := []) (by rw [List.append_nil]; exact HR.out.alloc _) j v (HX.out ▸ hv)⟩) (by simp [lX]) (fun v hv => ptr_one ps v (HX.out ▸ hv)) w1.heap.size w1 hB1 (Nat.le_refl _) ?_; intro w2 HG2 hB2)
  have hR2 : Ring w2 w1.heap.size ps := ring_copied HX.out HP.out HG2.out
  have hlt2 := hR2.lt
  have hR1 : Ring w2 w.heap.size ps := (hB2.block _ hlt).trans HR.out
  have HL : Hid _ := grow_any w.heap.size w2.heap.size h L (2 * L) a2 ps (w2.alloc (.cells #[.slice (some ⟨w.heap.size, 0, none⟩) L L, .int .i64 h, .int .i64 a2] 28)) (by omega) hh (by omega) HP.out (hR1.alloc _) (by simp) (by simp) (by simp) (by simp) (by simp)
  refine Calls.mono HL.out ?_
  clear HL hmk lX HX HR hB1
  rintro e w4 ⟨rfl, hLeft⟩
  have hA1 := hLeft.rings _ _ (by omega) (hR1.alloc _)
  have hA2 := hLeft.rings _ _ (by omega) (hR2.alloc _)
  have hbel := hLeft.below w.heap.size w (by omega) (by simp; omega) ((hB.trans (hB2.mono (by omega))).alloc (by omega) _)
  have hA4 := hLeft.ring
  have q0 := hLeft.q0
  have q1 := hLeft.q1
  have q2 := hLeft.q2
  simp only [World.size_alloc] at hA4 q0
  have A1 : Hid (Ring w4 w.heap.size ps) := hA1
  have A2 : Hid (Ring w4 w1.heap.size ps) := hA2
  have A4 : Hid (Ring w4 (w2.heap.size + 1) (ps.drop h ++ (ps.take h ++ List.replicate (2 * L - L) none))) := hA4
  clear hA1 hA2 hA4 hR1 hR2 hLeft HG2 hB2 hB
  go_wp2
  go_loop [13] (fun i => ∃ k : Nat, k ≤ 2 * L ∧ i = .int .i64 k) (fun i => 2 * L - (intOf i).toNat)
  case atStart => exact ⟨0, by omega, rfl⟩
  case round =>
    obtain ⟨k, hk, rfl⟩ := hrel
    by_cases hlt : k < 2 * L
    · by_cases hkL : k < L
      · obtain ⟨p, hp⟩ : ∃ p, ps[(h + k) % L]? = some p := ⟨_, List.getElem?_eq_getElem (by rw [HP.out]; exact Nat.mod_lt _ (by omega))⟩
        have hx : w4.cell? ⟨w1.heap.size, (h + k) % L, none⟩ = some (.pointer p) := A2.out.at hp
        have hy : w4.cell? ⟨w2.heap.size + 1, k, none⟩ = some (.pointer p) := A4.out.at ((rot_lt ps h L (2 * L) k HP.out hh hkL).trans hp)
        have i1 : (0 : Int) ≤ ((h : Int) + (k : Int)) % (L : Int) := Int.emod_nonneg _ (by omega)
        have i2 : ((h : Int) + (k : Int)) % (L : Int) < (L : Int) := Int.emod_lt_of_pos _ (by omega)
        clear hp
        go_wp2
        go_round
        case rel => exact ⟨k + 1, by omega, by go_num⟩
        case measure => simp [intOf]; omega
      · have hy : w4.cell? ⟨w2.heap.size + 1, k, none⟩ = some (.pointer none) := A4.out.at (rot_ge ps h L (2 * L) k HP.out hh hkL hlt)
        go_wp2
        go_round
        case rel => exact ⟨k + 1, by omega, by go_num⟩
        case measure => simp [intOf]; omega
    · go_wp2
      go_loopw [15] (fun i wr => ∃ k : Nat, k ≤ L ∧ i = .int .i64 k ∧ Ring wr w.heap.size ps ∧ Ring wr w1.heap.size ps ∧ Below w.heap.size w wr) (fun i _ => L - (intOf i).toNat)
      case atStart => exact ⟨0, Nat.zero_le _, rfl, A1.out, A2.out, hbel⟩
      case round =>
        clear A1 A2 A4 q0 q1 q2 hbel
        obtain ⟨j, hj, rfl, hT1, hT2, hbel⟩ := hrel
        by_cases hjL : j < L
        · obtain ⟨p, hp⟩ : ∃ p, ps[j]? = some p := ⟨_, List.getElem?_eq_getElem (by rw [HP.out]; exact hjL)⟩
          have hx : wr.cell? ⟨w.heap.size, j, none⟩ = some (.pointer p) := hT1.at hp
          have hy : wr.cell? ⟨w1.heap.size, j, none⟩ = some (.pointer p) := hT2.at hp
          have T1 : Hid (Ring wr w.heap.size ps) := hT1
          have T2 : Hid (Ring wr w1.heap.size ps) := hT2
          have hjI : (j : Int) < (L : Int) := by omega
          clear hp hT1 hT2
          go_wp2
          go_quiet (fail)
          go_wp2
          go_roundw
          case rel => exact ⟨j + 1, by omega, by go_num, T1.out, T2.out, below_drewN hbel _⟩
          case measure => simp [intOf]; omega
        · clear hT1 hT2
          go_wp2
          go_ret
          exact ⟨rfl, hbel⟩
end Go.Proofs.Ybulkebpi
