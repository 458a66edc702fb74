/-
  The law up to region 18: the two schedules are built.
-/
import Derived.Test.YbulkebqkCLawM
import Derived.Test.YbulkebqkCLaw18
namespace Go.Proofs.Ybulkebqk
open Go.RowKit
set_option linter.unusedVariables false
set_option maxRecDepth 100000


set_option maxHeartbeats 3200000 in
theorem law_pre (a ap ac : Option Addr) (n cap np pc nc cc : Nat) (f fc : Nat → Int × Int × Int) (fp : Nat → Int) (md mt : Int) (w : World) (hsum : n + np + nc ≤ 65536) (hA : ArgO w a n f) (hAb : ByteO n f) (hP : ArgI .u8 w ap np fp) (hPb : ∀ i, i < np → 0 ≤ fp i ∧ fp i ≤ 255) (hC : ArgO w ac nc fc) (hCb : ByteO nc fc) (hmd : 0 ≤ md ∧ md ≤ 255) (hmt : 0 ≤ mt ∧ mt ≤ 65535) :
    Calls Yba.prog 4 #[.slice a n cap, .slice ap np pc, .int .u8 md, .int .u16 mt, .slice ac nc cc] w fun e w' => e = .returned (.bool true) ∧ Below w.heap.size w w' := by
  have hb1 := build16 a n cap f w (by omega) hA hAb
  have hs : ¬ (65536 : Int) < (n : Int) + (np : Int) + (nc : Int) := by omega
  have HC : Hid (ArgO w ac nc fc) := hC
  have HCb : Hid (ByteO nc fc) := hCb
  have HA : Hid (ArgO w a n f) := hA
  have HAb : Hid (ByteO n f) := hAb
  have HP : Hid (ArgI .u8 w ap np fp) := hP
  have HPb : Hid (∀ i, i < np → 0 ≤ fp i ∧ fp i ≤ 255) := hPb
  clear hC hCb hA hAb hP hPb
  go_enter Yba.func4, Yba.ntmps4
  go_wp2_with fail
  refine hb1.mono ?_
  clear hb1
  rintro e W1 ⟨g1, cp1, rfl, hO1, hB1⟩
  have HR1 : Hid (Row W1 g1 (opCells (opsUp f n))) := row_owned hO1
  have hup : ∀ b, b < w.heap.size → W1.heap[b]? = w.heap[b]? := fun b hb => hB1.block b hb
  have HC1 : Hid (ArgO W1 ac nc fc) := fun h => by
    obtain ⟨b, o, e, hb, hc⟩ := HC.out h
    refine ⟨b, o, e, by have := hB1.size; omega, fun i hi => ?_⟩
    obtain ⟨h1, h2, h3⟩ := hc i hi
    exact ⟨(hB1.cell (p := ⟨b, _, none⟩) hb).trans h1, (hB1.cell (p := ⟨b, _, none⟩) hb).trans h2, (hB1.cell (p := ⟨b, _, none⟩) hb).trans h3⟩
  by_cases h3 : md % 4 = 3
  · have hb2 := build16 ac nc cc fc W1 (by omega) HC1.out HCb.out
    have h3b : (md % 4 == 3) = true := by simpa using h3
    go_wp2_with fail
    refine hb2.mono ?_
    clear hb2
    rintro e W2 ⟨g2, cp2, rfl, hO2, hB2⟩
    go_upto_region 18 with (fail)
    have hS2 := (HR1.out.below hB2 HR1.out.lt)
    have hBB : Below w.heap.size w W2 := hB1.trans (hB2.mono hB1.size)
    exact tail18 _ _ _ _ _ _ _ _ _ _ _ _ _ _ _ _ _ _ _ _ _ _ _ _ _ _ _ _ _ _ _ _ _ _ _ _ _ _ _ _ _ _ _ _ _ _ _ _ _ _ _ _ _ _ _ _ _ _ _ _ _ _ _ _ _ _ _ _ _ _ _ _ _ _ _ _ _ _ _ _ _ _ _ _ _ _ _ _ _ _ _ _ _ _ _ _ _ _ _ _ _ _ _ _ _ _ _ _ _ _ _ _ _ _ _ _ _ _ _ _ _ _ _ _ _ _ _ _ _ _ _ _ _ _ _ _ _ _ _ _ _ _ _ _ _ _ _ _ _ _ _ _ _ _ _ _ _ _ _ _ _ _ _ _ _ _ _ _ _ _ _ _ _ _ _ _ _ _ _ _ _ _ _ _ _ _ _ _ _ _ _ _ _ _ _ _ _ _ _ _ _ _ _ _ _ _ _ _ _ _ _ _ _ _ _ _ _ _ _ _ _ _ _ _ _ _ _ _ _ _ _ _ _ _ _ _ _ _ _ _ _ _ _ _ _ _ _ _ _ _ _ _ _ _ _ _ _ _ _ _ _ _ _ _ _ _ _ _ _ _ _ _ _ _ _ _ _ _ _ _ _ _ _ _ _ _ _ _ _ _ _ _ _ _ _ _ _ _ _ _ _ _ _ _ _ _ _ _ _ _ _ _ _ _ _ _ _ _ _ _ _ _ _ _ _ _ _ _ _ _ _ _ _ _ _ _ _ _ _ _ _ _ _ _ _ _ _ _ _ _ _ _ _ _ _ _ _ _ _ _ _ _ _ _ _ _ _ _ _ _ _ _ _ _ _ _ _ _ _ _ _ _ _ _ _ _ _ _ _ _ _ _ _ _ _ _ _ _ _ _ _ _ _ _ _ _ _ _ _ _ _ _ _ _ _ _ _ _ _ _ _ _ _ _ _ _ _ _ _ _ _ _ _ _ _ _ _ _ _ _ _ _ _ _ _ _ _ _ _ _ _ _ _ _ _ _ _ _ _ _ _ _ _ _ _ _ _ _ _ _ _ _ _ _ _ _ _ _ _ _ _ _ _ _ _ _ _ _ _ _ _ _ _ _ _ _ _ _ _ _ _ _ _ _ _ _ _ _ _ _ _ _ _ _ _ _ _ _ _ _ _ _ _ _ _ _ _ _ _ _ _ _ _ _ _ _ _ _ _ _ _ _ _ _ _ _ _ _ _ _ _ _ _ _ _ _ _ _ _ _ _ _ _ _ _ _ _ _ _ _ _ _ _ _ _ _ _ _ _ _ _ _ _ _ _ _ _ _ _ _ _ _ _ _ _ _ _ _ _ _ _ _ g1 g2 n nc cp1 cp2 w.heap.size (opsUp f n) (opsUp fc nc) w W2 (opsUp_len f n) (opsUp_len fc nc) (by omega) (by omega) (opsUp_small f n) (fun o ho => (opsUp_small fc nc o ho).1) hS2 (row_owned hO2) hBB hBB.size _ (by assumption)
  · have h3b : (md % 4 == 3) = false := by simpa using h3
    have HA1 : Hid (ArgO W1 a n f) := fun h => by
      obtain ⟨b, o, e, hb, hc⟩ := HA.out h
      refine ⟨b, o, e, by have := hB1.size; omega, fun i hi => ?_⟩
      obtain ⟨h1, h2, h3⟩ := hc i hi
      exact ⟨(hB1.cell (p := ⟨b, _, none⟩) hb).trans h1, (hB1.cell (p := ⟨b, _, none⟩) hb).trans h2, (hB1.cell (p := ⟨b, _, none⟩) hb).trans h3⟩
    have HP1 : Hid (ArgI .u8 W1 ap np fp) := fun h => by
      obtain ⟨b, o, e, hb, hc⟩ := HP.out h
      exact ⟨b, o, e, by have := hB1.size; omega, fun i hi => (hB1.cell (p := ⟨b, _, none⟩) hb).trans (hc i hi)⟩
    have hlv := leave17 a n cap g1 cp1 np pc ap f fp (opsUp f n) W1 (by omega) (by omega) HA1.out HAb.out (opsUp_len f n) HR1.out HP1.out HPb.out
    go_wp2_with fail
    refine hlv.mono ?_
    clear hlv
    rintro e W2 ⟨g2, m, c2, lb, rfl, hlb, hmn, hmem, hO2, hB2⟩
    have hS2 := (HR1.out.below hB2 HR1.out.lt)
    have hBB : Below w.heap.size w W2 := hB1.trans (hB2.mono hB1.size)
    have hmem2 : ∀ o, o ∈ lb → -1000 ≤ o.t ∧ o.t ≤ 1000 := fun o ho => (opsUp_small f n o (hmem o ho)).1
    by_cases h2 : md % 4 = 2
    · have h2b : (md % 4 == 2) = true := by simpa using h2
      by_cases hm : 0 < m
      · have hmi : (0 : Int) < (m : Int) := by omega
        obtain ⟨j, hj⟩ : ∃ j : Nat, mt % (m : Int) = (j : Int) := ⟨(mt % (m : Int)).toNat, by have := Int.emod_nonneg mt (show (m : Int) ≠ 0 by omega); omega⟩
        have hjm : j < m := by have := Int.emod_lt_of_pos mt hmi; omega
        have hji : (j : Int) < (m : Int) := by omega
        obtain ⟨s0, s1, s2⟩ := opCells_at lb j (by omega)
        have hRb := row_owned hO2
        have d0 := hRb.cell s0
        have d1 := hRb.cell s1
        have d2 := hRb.cell s2
        have f0 := hRb.frozen (j * 3)
        have f1 := hRb.frozen (j * 3 + 1)
        have f2 := hRb.frozen (j * 3 + 2)
        obtain ⟨o, ho⟩ : ∃ o, o = lb.getD j default := ⟨_, rfl⟩
        rw [← ho] at d0 d1 d2
        have HO : Hid (o = lb.getD j default) := ho
        have lg2 : g2 < W2.heap.size := hRb.lt
        have hmt2 : 0 ≤ mt / 256 ∧ mt / 256 ≤ 255 := by omega
        clear ho s0 s1 s2
        have hoi : o.i.size ≤ 1 := by rw [HO.out]; exact (opsUp_small f n _ (hmem _ (by rw [List.getD_eq_getElem?_getD, List.getElem?_eq_getElem (by omega)]; exact List.getElem_mem _))).2
        have hot : -1000 ≤ (o : OpV).t ∧ o.t ≤ 1000 := by rw [HO.out]; exact hmem2 _ (by rw [List.getD_eq_getElem?_getD, List.getElem?_eq_getElem (by omega)]; exact List.getElem_mem _)
        have hg2 : w.heap.size ≤ g2 := Nat.le_trans hB1.size (hO2.lt g2 rfl).1
        have hne : g1 ≠ g2 := by have := HR1.out.lt; have := (hO2.lt g2 rfl).1; omega
        by_cases hs8 : mt / 256 % 2 = 0
        · by_cases hk0 : o.k = 0
          · go_upto_region 18 with (fail)
            obtain ⟨r1, r2, r3⟩ := mut_fin (⟨1, o.t, o.i⟩ : OpV) (by rw [hlb]; exact hjm) hS2 hRb hne hBB hg2 (.cells #[.int .u8 1, .int .i64 o.t, .string o.i] 64)
            exact tail18 _ _ _ _ _ _ _ _ _ _ _ _ _ _ _ _ _ _ _ _ _ _ _ _ _ _ _ _ _ _ _ _ _ _ _ _ _ _ _ _ _ _ _ _ _ _ _ _ _ _ _ _ _ _ _ _ _ _ _ _ _ _ _ _ _ _ _ _ _ _ _ _ _ _ _ _ _ _ _ _ _ _ _ _ _ _ _ _ _ _ _ _ _ _ _ _ _ _ _ _ _ _ _ _ _ _ _ _ _ _ _ _ _ _ _ _ _ _ _ _ _ _ _ _ _ _ _ _ _ _ _ _ _ _ _ _ _ _ _ _ _ _ _ _ _ _ _ _ _ _ _ _ _ _ _ _ _ _ _ _ _ _ _ _ _ _ _ _ _ _ _ _ _ _ _ _ _ _ _ _ _ _ _ _ _ _ _ _ _ _ _ _ _ _ _ _ _ _ _ _ _ _ _ _ _ _ _ _ _ _ _ _ _ _ _ _ _ _ _ _ _ _ _ _ _ _ _ _ _ _ _ _ _ _ _ _ _ _ _ _ _ _ _ _ _ _ _ _ _ _ _ _ _ _ _ _ _ _ _ _ _ _ _ _ _ _ _ _ _ _ _ _ _ _ _ _ _ _ _ _ _ _ _ _ _ _ _ _ _ _ _ _ _ _ _ _ _ _ _ _ _ _ _ _ _ _ _ _ _ _ _ _ _ _ _ _ _ _ _ _ _ _ _ _ _ _ _ _ _ _ _ _ _ _ _ _ _ _ _ _ _ _ _ _ _ _ _ _ _ _ _ _ _ _ _ _ _ _ _ _ _ _ _ _ _ _ _ _ _ _ _ _ _ _ _ _ _ _ _ _ _ _ _ _ _ _ _ _ _ _ _ _ _ _ _ _ _ _ _ _ _ _ _ _ _ _ _ _ _ _ _ _ _ _ _ _ _ _ _ _ _ _ _ _ _ _ _ _ _ _ _ _ _ _ _ _ _ _ _ _ _ _ _ _ _ _ _ _ _ _ _ _ _ _ _ _ _ _ _ _ _ _ _ _ _ _ _ _ _ _ _ _ _ _ _ _ _ _ _ _ _ _ _ _ _ _ _ _ _ _ _ _ _ _ _ _ _ _ _ _ _ _ _ _ _ _ _ _ _ _ _ _ _ _ _ _ _ _ _ _ _ _ _ _ _ _ _ _ _ _ _ _ _ _ _ _ _ _ _ _ _ _ _ _ _ _ _ _ _ _ _ _ _ _ _ _ _ _ _ _ _ _ _ _ _ _ _ _ _ _ _ _ _ _ _ _ _ _ _ _ _ _ _ _ _ _ _ _ _ _ _ _ _ _ _ _ _ _ _ _ _ _ g1 g2 n m cp1 c2 w.heap.size (opsUp f n) (lb.set j ⟨1, o.t, o.i⟩) w _ (opsUp_len f n) (by rw [List.length_set]; exact hlb) (by omega) (by omega) (opsUp_small f n) (set_all hmem2 hot) r1 r2 r3 r3.size _ (by assumption)
          · by_cases hk1 : o.k = 1
            · go_upto_region 18 with (fail)
              obtain ⟨r1, r2, r3⟩ := mut_fin (⟨0, o.t, o.i⟩ : OpV) (by rw [hlb]; exact hjm) hS2 hRb hne hBB hg2 (.cells #[.int .u8 0, .int .i64 o.t, .string o.i] 64)
              exact tail18 _ _ _ _ _ _ _ _ _ _ _ _ _ _ _ _ _ _ _ _ _ _ _ _ _ _ _ _ _ _ _ _ _ _ _ _ _ _ _ _ _ _ _ _ _ _ _ _ _ _ _ _ _ _ _ _ _ _ _ _ _ _ _ _ _ _ _ _ _ _ _ _ _ _ _ _ _ _ _ _ _ _ _ _ _ _ _ _ _ _ _ _ _ _ _ _ _ _ _ _ _ _ _ _ _ _ _ _ _ _ _ _ _ _ _ _ _ _ _ _ _ _ _ _ _ _ _ _ _ _ _ _ _ _ _ _ _ _ _ _ _ _ _ _ _ _ _ _ _ _ _ _ _ _ _ _ _ _ _ _ _ _ _ _ _ _ _ _ _ _ _ _ _ _ _ _ _ _ _ _ _ _ _ _ _ _ _ _ _ _ _ _ _ _ _ _ _ _ _ _ _ _ _ _ _ _ _ _ _ _ _ _ _ _ _ _ _ _ _ _ _ _ _ _ _ _ _ _ _ _ _ _ _ _ _ _ _ _ _ _ _ _ _ _ _ _ _ _ _ _ _ _ _ _ _ _ _ _ _ _ _ _ _ _ _ _ _ _ _ _ _ _ _ _ _ _ _ _ _ _ _ _ _ _ _ _ _ _ _ _ _ _ _ _ _ _ _ _ _ _ _ _ _ _ _ _ _ _ _ _ _ _ _ _ _ _ _ _ _ _ _ _ _ _ _ _ _ _ _ _ _ _ _ _ _ _ _ _ _ _ _ _ _ _ _ _ _ _ _ _ _ _ _ _ _ _ _ _ _ _ _ _ _ _ _ _ _ _ _ _ _ _ _ _ _ _ _ _ _ _ _ _ _ _ _ _ _ _ _ _ _ _ _ _ _ _ _ _ _ _ _ _ _ _ _ _ _ _ _ _ _ _ _ _ _ _ _ _ _ _ _ _ _ _ _ _ _ _ _ _ _ _ _ _ _ _ _ _ _ _ _ _ _ _ _ _ _ _ _ _ _ _ _ _ _ _ _ _ _ _ _ _ _ _ _ _ _ _ _ _ _ _ _ _ _ _ _ _ _ _ _ _ _ _ _ _ _ _ _ _ _ _ _ _ _ _ _ _ _ _ _ _ _ _ _ _ _ _ _ _ _ _ _ _ _ _ _ _ _ _ _ _ _ _ _ _ _ _ _ _ _ _ _ _ _ _ _ _ _ _ _ _ _ _ _ _ _ _ _ _ _ _ _ _ _ _ _ _ _ _ _ _ _ _ _ _ _ _ _ _ _ _ _ _ _ _ _ _ _ _ _ _ _ _ _ _ _ _ _ _ _ _ _ _ _ _ _ _ _ _ _ _ g1 g2 n m cp1 c2 w.heap.size (opsUp f n) (lb.set j ⟨0, o.t, o.i⟩) w _ (opsUp_len f n) (by rw [List.length_set]; exact hlb) (by omega) (by omega) (opsUp_small f n) (set_all hmem2 hot) r1 r2 r3 r3.size _ (by assumption)
            · go_upto_region 18 with (fail)
              obtain ⟨r1, r2, r3⟩ := mut_fin (⟨o.k, o.t, o.i⟩ : OpV) (by rw [hlb]; exact hjm) hS2 hRb hne hBB hg2 (.cells #[.int .u8 o.k, .int .i64 o.t, .string o.i] 64)
              exact tail18 _ _ _ _ _ _ _ _ _ _ _ _ _ _ _ _ _ _ _ _ _ _ _ _ _ _ _ _ _ _ _ _ _ _ _ _ _ _ _ _ _ _ _ _ _ _ _ _ _ _ _ _ _ _ _ _ _ _ _ _ _ _ _ _ _ _ _ _ _ _ _ _ _ _ _ _ _ _ _ _ _ _ _ _ _ _ _ _ _ _ _ _ _ _ _ _ _ _ _ _ _ _ _ _ _ _ _ _ _ _ _ _ _ _ _ _ _ _ _ _ _ _ _ _ _ _ _ _ _ _ _ _ _ _ _ _ _ _ _ _ _ _ _ _ _ _ _ _ _ _ _ _ _ _ _ _ _ _ _ _ _ _ _ _ _ _ _ _ _ _ _ _ _ _ _ _ _ _ _ _ _ _ _ _ _ _ _ _ _ _ _ _ _ _ _ _ _ _ _ _ _ _ _ _ _ _ _ _ _ _ _ _ _ _ _ _ _ _ _ _ _ _ _ _ _ _ _ _ _ _ _ _ _ _ _ _ _ _ _ _ _ _ _ _ _ _ _ _ _ _ _ _ _ _ _ _ _ _ _ _ _ _ _ _ _ _ _ _ _ _ _ _ _ _ _ _ _ _ _ _ _ _ _ _ _ _ _ _ _ _ _ _ _ _ _ _ _ _ _ _ _ _ _ _ _ _ _ _ _ _ _ _ _ _ _ _ _ _ _ _ _ _ _ _ _ _ _ _ _ _ _ _ _ _ _ _ _ _ _ _ _ _ _ _ _ _ _ _ _ _ _ _ _ _ _ _ _ _ _ _ _ _ _ _ _ _ _ _ _ _ _ _ _ _ _ _ _ _ _ _ _ _ _ _ _ _ _ _ _ _ _ _ _ _ _ _ _ _ _ _ _ _ _ _ _ _ _ _ _ _ _ _ _ _ _ _ _ _ _ _ _ _ _ _ _ _ _ _ _ _ _ _ _ _ _ _ _ _ _ _ _ _ _ _ _ _ _ _ _ _ _ _ _ _ _ _ _ _ _ _ _ _ _ _ _ _ _ _ _ _ _ _ _ _ _ _ _ _ _ _ _ _ _ _ _ _ _ _ _ _ _ _ _ _ _ _ _ _ _ _ _ _ _ _ _ _ _ _ _ _ _ _ _ _ _ _ _ _ _ _ _ _ _ _ _ _ _ _ _ _ _ _ _ _ _ _ _ _ _ _ _ _ _ _ _ _ _ _ _ _ _ _ _ _ _ _ _ _ _ _ _ _ _ _ _ _ _ _ _ _ _ _ _ _ _ _ _ _ _ _ _ _ _ _ _ _ _ _ _ _ _ _ _ _ _ _ _ _ _ _ _ _ g1 g2 n m cp1 c2 w.heap.size (opsUp f n) (lb.set j ⟨o.k, o.t, o.i⟩) w _ (opsUp_len f n) (by rw [List.length_set]; exact hlb) (by omega) (by omega) (opsUp_small f n) (set_all hmem2 hot) r1 r2 r3 r3.size _ (by assumption)
        · go_upto_region 18 with (fail)
          obtain ⟨r1, r2, r3⟩ := mut_fin (⟨o.k, o.t, o.i ++ { data := #[120] }⟩ : OpV) (by rw [hlb]; exact hjm) hS2 hRb hne hBB hg2 (.cells #[.int .u8 o.k, .int .i64 o.t, .string (o.i ++ { data := #[120] })] 64)
          exact tail18 _ _ _ _ _ _ _ _ _ _ _ _ _ _ _ _ _ _ _ _ _ _ _ _ _ _ _ _ _ _ _ _ _ _ _ _ _ _ _ _ _ _ _ _ _ _ _ _ _ _ _ _ _ _ _ _ _ _ _ _ _ _ _ _ _ _ _ _ _ _ _ _ _ _ _ _ _ _ _ _ _ _ _ _ _ _ _ _ _ _ _ _ _ _ _ _ _ _ _ _ _ _ _ _ _ _ _ _ _ _ _ _ _ _ _ _ _ _ _ _ _ _ _ _ _ _ _ _ _ _ _ _ _ _ _ _ _ _ _ _ _ _ _ _ _ _ _ _ _ _ _ _ _ _ _ _ _ _ _ _ _ _ _ _ _ _ _ _ _ _ _ _ _ _ _ _ _ _ _ _ _ _ _ _ _ _ _ _ _ _ _ _ _ _ _ _ _ _ _ _ _ _ _ _ _ _ _ _ _ _ _ _ _ _ _ _ _ _ _ _ _ _ _ _ _ _ _ _ _ _ _ _ _ _ _ _ _ _ _ _ _ _ _ _ _ _ _ _ _ _ _ _ _ _ _ _ _ _ _ _ _ _ _ _ _ _ _ _ _ _ _ _ _ _ _ _ _ _ _ _ _ _ _ _ _ _ _ _ _ _ _ _ _ _ _ _ _ _ _ _ _ _ _ _ _ _ _ _ _ _ _ _ _ _ _ _ _ _ _ _ _ _ _ _ _ _ _ _ _ _ _ _ _ _ _ _ _ _ _ _ _ _ _ _ _ _ _ _ _ _ _ _ _ _ _ _ _ _ _ _ _ _ _ _ _ _ _ _ _ _ _ _ _ _ _ _ _ _ _ _ _ _ _ _ _ _ _ _ _ _ _ _ _ _ _ _ _ _ _ _ _ _ _ _ _ _ _ _ _ _ _ _ _ _ _ _ _ _ _ _ _ _ _ _ _ _ _ _ _ _ _ _ _ _ _ _ _ _ _ _ _ _ _ _ _ _ _ _ _ _ _ _ _ _ _ _ _ _ _ _ _ _ _ _ _ _ _ _ _ _ _ _ _ _ _ _ _ _ _ _ _ _ _ _ _ _ _ _ _ _ _ _ _ _ _ _ _ _ _ _ _ _ _ _ _ _ _ _ _ _ _ _ _ _ _ _ _ _ _ _ _ _ _ _ _ _ _ _ _ _ _ _ _ _ _ _ _ _ _ _ _ _ _ _ _ _ _ _ _ _ _ _ _ _ _ _ _ _ _ _ _ _ _ _ _ _ _ _ _ _ _ _ _ _ _ _ _ _ _ _ _ _ _ _ _ _ _ _ _ _ _ _ _ _ _ _ _ _ _ _ _ _ g1 g2 n m cp1 c2 w.heap.size (opsUp f n) (lb.set j ⟨o.k, o.t, o.i ++ { data := #[120] }⟩) w _ (opsUp_len f n) (by rw [List.length_set]; exact hlb) (by omega) (by omega) (opsUp_small f n) (set_all hmem2 hot) r1 r2 r3 r3.size _ (by assumption)
      · have hm0 : m = 0 := by omega
        subst hm0
        go_upto_region 18 with (fail)
        exact tail18 _ _ _ _ _ _ _ _ _ _ _ _ _ _ _ _ _ _ _ _ _ _ _ _ _ _ _ _ _ _ _ _ _ _ _ _ _ _ _ _ _ _ _ _ _ _ _ _ _ _ _ _ _ _ _ _ _ _ _ _ _ _ _ _ _ _ _ _ _ _ _ _ _ _ _ _ _ _ _ _ _ _ _ _ _ _ _ _ _ _ _ _ _ _ _ _ _ _ _ _ _ _ _ _ _ _ _ _ _ _ _ _ _ _ _ _ _ _ _ _ _ _ _ _ _ _ _ _ _ _ _ _ _ _ _ _ _ _ _ _ _ _ _ _ _ _ _ _ _ _ _ _ _ _ _ _ _ _ _ _ _ _ _ _ _ _ _ _ _ _ _ _ _ _ _ _ _ _ _ _ _ _ _ _ _ _ _ _ _ _ _ _ _ _ _ _ _ _ _ _ _ _ _ _ _ _ _ _ _ _ _ _ _ _ _ _ _ _ _ _ _ _ _ _ _ _ _ _ _ _ _ _ _ _ _ _ _ _ _ _ _ _ _ _ _ _ _ _ _ _ _ _ _ _ _ _ _ _ _ _ _ _ _ _ _ _ _ _ _ _ _ _ _ _ _ _ _ _ _ _ _ _ _ _ _ _ _ _ _ _ _ _ _ _ _ _ _ _ _ _ _ _ _ _ _ _ _ _ _ _ _ _ _ _ _ _ _ _ _ _ _ _ _ _ _ _ _ _ _ _ _ _ _ _ _ _ _ _ _ _ _ _ _ _ _ _ _ _ _ _ _ _ _ _ _ _ _ _ _ _ _ _ _ _ _ _ _ _ _ _ _ _ _ _ _ _ _ _ _ _ _ _ _ _ _ _ _ _ _ _ _ _ _ _ _ _ _ _ _ _ _ _ _ _ _ _ _ _ _ _ _ _ _ _ _ _ _ _ _ _ _ _ _ _ _ _ _ _ _ _ _ _ _ _ _ _ _ _ _ _ _ _ _ _ _ _ _ _ _ _ _ _ _ _ _ _ _ _ _ _ _ _ _ _ _ _ _ _ _ _ _ _ _ _ _ _ _ _ _ _ _ _ _ _ _ _ _ _ _ _ _ _ _ _ _ _ _ _ _ _ _ _ _ _ _ _ _ _ _ _ _ _ _ _ _ _ _ _ _ _ _ _ _ _ _ _ _ _ _ _ _ _ _ _ _ _ _ _ _ _ _ _ _ _ _ _ _ _ _ _ _ _ _ _ _ _ _ _ _ _ _ _ _ _ _ _ _ _ _ _ _ _ _ _ _ _ _ _ _ _ _ _ _ _ _ _ _ _ _ _ _ _ _ _ _ _ _ _ _ _ _ _ g1 g2 n 0 cp1 c2 w.heap.size (opsUp f n) lb w W2 (opsUp_len f n) hlb (by omega) (by omega) (opsUp_small f n) hmem2 hS2 (row_owned hO2) hBB hBB.size _ (by assumption)
    · have h2b : (md % 4 == 2) = false := by simpa using h2
      go_upto_region 18 with (fail)
      exact tail18 _ _ _ _ _ _ _ _ _ _ _ _ _ _ _ _ _ _ _ _ _ _ _ _ _ _ _ _ _ _ _ _ _ _ _ _ _ _ _ _ _ _ _ _ _ _ _ _ _ _ _ _ _ _ _ _ _ _ _ _ _ _ _ _ _ _ _ _ _ _ _ _ _ _ _ _ _ _ _ _ _ _ _ _ _ _ _ _ _ _ _ _ _ _ _ _ _ _ _ _ _ _ _ _ _ _ _ _ _ _ _ _ _ _ _ _ _ _ _ _ _ _ _ _ _ _ _ _ _ _ _ _ _ _ _ _ _ _ _ _ _ _ _ _ _ _ _ _ _ _ _ _ _ _ _ _ _ _ _ _ _ _ _ _ _ _ _ _ _ _ _ _ _ _ _ _ _ _ _ _ _ _ _ _ _ _ _ _ _ _ _ _ _ _ _ _ _ _ _ _ _ _ _ _ _ _ _ _ _ _ _ _ _ _ _ _ _ _ _ _ _ _ _ _ _ _ _ _ _ _ _ _ _ _ _ _ _ _ _ _ _ _ _ _ _ _ _ _ _ _ _ _ _ _ _ _ _ _ _ _ _ _ _ _ _ _ _ _ _ _ _ _ _ _ _ _ _ _ _ _ _ _ _ _ _ _ _ _ _ _ _ _ _ _ _ _ _ _ _ _ _ _ _ _ _ _ _ _ _ _ _ _ _ _ _ _ _ _ _ _ _ _ _ _ _ _ _ _ _ _ _ _ _ _ _ _ _ _ _ _ _ _ _ _ _ _ _ _ _ _ _ _ _ _ _ _ _ _ _ _ _ _ _ _ _ _ _ _ _ _ _ _ _ _ _ _ _ _ _ _ _ _ _ _ _ _ _ _ _ _ _ _ _ _ _ _ _ _ _ _ _ _ _ _ _ _ _ _ _ _ _ _ _ _ _ _ _ _ _ _ _ _ _ _ _ _ _ _ _ _ _ _ _ _ _ _ _ _ _ _ _ _ _ _ _ _ _ _ _ _ _ _ _ _ _ _ _ _ _ _ _ _ _ _ _ _ _ _ _ _ _ _ _ _ _ _ _ _ _ _ _ _ _ _ _ _ _ _ _ _ _ _ _ _ _ _ _ _ _ _ _ _ _ _ _ _ _ _ _ _ _ _ _ _ _ _ _ _ _ _ _ _ _ _ _ _ _ _ _ _ _ _ _ _ _ _ _ _ _ _ _ _ _ _ _ _ _ _ _ _ _ _ _ _ _ _ _ _ _ _ _ _ _ _ _ _ _ _ _ _ _ _ _ _ _ _ _ _ _ _ _ _ _ _ _ _ _ _ _ _ _ _ _ _ _ _ _ _ _ _ _ _ g1 g2 n m cp1 c2 w.heap.size (opsUp f n) lb w W2 (opsUp_len f n) hlb (by omega) (by omega) (opsUp_small f n) hmem2 hS2 (row_owned hO2) hBB hBB.size _ (by assumption)
end Go.Proofs.Ybulkebqk
