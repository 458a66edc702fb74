/-
  numberPairs: the numbers of the (transaction, item) pairs.
-/
import Derived.Test.YbulkebqkCPairs0
import Derived.Deep.DeepCutAuto
namespace Go.Proofs.Ybulkebqk
open Go.RowKit
set_option linter.unusedVariables false

/-- The twelve cells of an index. -/
def ixCells (v0 v1 v2 v3 v4 v5 v6 v7 v8 v9 v10 v11 : Value) : List Value := [v0, v1, v2, v3, v4, v5, v6, v7, v8, v9, v10, v11]

set_option maxRecDepth 20000 in
set_option maxHeartbeats 3200000 in
theorem pairs52 (X G Sg Lg n n1 m ny ml cO cs cl c0 c1 : Nat) (a0 a1 : Option Addr) (v6 v7 v8 v9 v10 v11 : Value) (os : List IOp) (T I : List Nat) (w : World)
    (hT : T = os.map (·.t)) (hI : I = os.map (·.x)) (hn1 : n1 = n + 1) (hm : os.length = m) (bm : m ≤ 65536) (bn : n ≤ 65536) (bny : ny ≤ 65536) (hml : ml = start T n) (hmc : ml ≤ cl) (bcl : cl ≤ 1000000)
    (hx : ∀ j, j < m → I.getD j 0 < ny) (ht : ∀ j, j < m → T.getD j 0 < n)
    (hX : Blk w X 75 (ixCells (.slice a0 n c0) (.slice a1 ny c1) (.slice (some ⟨G, 0, none⟩) m cO) (.slice (some ⟨Sg, 0, none⟩) n1 cs) (.slice (some ⟨Lg, 0, none⟩) ml cl) (.int .i64 0) v6 v7 v8 v9 v10 v11))
    (hG : Row w G (ioCells os)) (hS : Row w Sg (nats (starts T n))) (hL : Row w Lg (nats (flat (pos T) n))) (q1 : X ≠ G) (q2 : Sg ≠ X) (q3 : Sg ≠ G) (q4 : Lg ≠ X) (q5 : Lg ≠ G) :
    Calls Yba.prog 52 #[.pointer (some ⟨X, 0, none⟩)] w fun e w' => e = .returned (.tuple #[]) ∧ ∃ P, w.heap.size ≤ P ∧
      Blk w' X 75 (ixCells (.slice a0 n c0) (.slice a1 ny c1) (.slice (some ⟨G, 0, none⟩) m cO) (.slice (some ⟨Sg, 0, none⟩) n1 cs) (.slice (some ⟨Lg, 0, none⟩) ml cl) (.int .i64 (cnt T I n : Nat)) (.slice (some ⟨P, 0, none⟩) n1 n1) v7 v8 v9 v10 v11) ∧
      Row w' P (nats (pairStarts T I n)) ∧ Row w' G (ioCells (paired T I os)) ∧ Only (fun k => k = X ∨ k = G) w w' := by
  have hmk : ∀ wx : World, (Instr.makeSlice 41 (.int .i64 (ny : Int)) (.int .i64 (ny : Int))).run Yba.prog wx = .ok (.slice (some ⟨wx.heap.size, 0, none⟩) ny ny) (wx.alloc (.cells (madeCells #[.int .i64 0] ny) 3)) := fun wx => run_make_row' (P := Yba.prog) 41 3 (.int .i64 0) 8 Yba.underlying41 Yba.inf3 rfl .i64 .i64 ny (by omega) (by omega) wx
  have x1 : w.cell? ⟨X, 1, none⟩ = some (.slice a1 ny c1) := hX.cell rfl
  have HX : Hid (Blk w X 75 (ixCells (.slice a0 n c0) (.slice a1 ny c1) (.slice (some ⟨G, 0, none⟩) m cO) (.slice (some ⟨Sg, 0, none⟩) n1 cs) (.slice (some ⟨Lg, 0, none⟩) ml cl) (.int .i64 0) v6 v7 v8 v9 v10 v11)) := hX
  have HG : Hid (Row w G (ioCells os)) := hG
  have HS : Hid (Row w Sg (nats (starts T n))) := hS
  have HL : Hid (Row w Lg (nats (flat (pos T) n))) := hL
  have HT : Hid (T = os.map (·.t)) := hT
  have HI : Hid (I = os.map (·.x)) := hI
  have HM : Hid (os.length = m) := hm
  have HML : Hid (ml = start T n) := hml
  have HXN : Hid (∀ j, j < m → I.getD j 0 < ny) := hx
  have HTN : Hid (∀ j, j < m → T.getD j 0 < n) := ht
  have HN1 : Hid (n1 = n + 1) := hn1
  have bn1 : n1 ≤ 65537 := by omega
  have hXl := hX.lt
  have hGl := hG.lt
  have hSl := hS.lt
  have hLl := hL.lt
  clear hX hG hS hL hT hI hm hml hx ht hn1
  go_enter Yba.func52, Yba.ntmps52
  go_upto_region 0 with (fail)
  go_cut [2, 3] (fun r p w' => ∃ gR gP : Nat, r = .slice (some ⟨gR, 0, none⟩) ny ny ∧ p = .slice (some ⟨gP, 0, none⟩) ny ny ∧ gR ≠ gP ∧ w.heap.size ≤ gR ∧ w.heap.size ≤ gP ∧ Hid (Blk w' gR 3 (List.replicate ny (.int .i64 0))) ∧ Hid (Blk w' gP 3 (List.replicate ny (.int .i64 0))) ∧ Below w.heap.size w w')
  case first =>
    go_region
    all_goals go_wp2_with fail
    all_goals go_meet
    · refine ⟨w.heap.size, w.heap.size + 1, rfl, rfl, by omega, by omega, by omega, ?_, ?_, ?_⟩
      · exact ((blk_made w (.int .i64 0) ny 3).alloc _).drew
      · have := blk_made (w.alloc (.cells (madeCells #[.int .i64 0] ny) 3)) (.int .i64 0) ny 3
        rw [World.size_alloc] at this
        exact this.drew
      · exact (((Below.refl _ _).alloc (Nat.le_refl _) _).alloc (by simp) _).drew
    · refine ⟨w.heap.size + 1, w.heap.size, rfl, rfl, by omega, by omega, by omega, ?_, ?_, ?_⟩
      · have := blk_made (w.alloc (.cells (madeCells #[.int .i64 0] ny) 3)) (.int .i64 0) ny 3
        rw [World.size_alloc] at this
        exact this.drew
      · exact ((blk_made w (.int .i64 0) ny 3).alloc _).drew
      · exact (((Below.refl _ _).alloc (Nat.le_refl _) _).alloc (by simp) _).drew
  case rest =>
    obtain ⟨gR, gP, rfl, rfl, hRP, hRw, hPw, HR, HP, hBc⟩ := hcut
    clear x1 hmk
    go_wp2_with fail
    go_loopw [4, 23] (fun _ i wr => ∃ k : Nat, k ≤ ny ∧ i = .int .i64 k ∧ Hid (Blk wr gR 3 (ints .i64 (part 0 ny (fun _ => -1) k))) ∧ Hid (Blk wr gP 3 (List.replicate ny (.int .i64 0))) ∧ Below w.heap.size w wr) (fun _ i _ => ny - (intOf i).toNat)
    case atStart =>
      refine ⟨0, Nat.zero_le _, rfl, ?_, HP, hBc⟩
      show Blk _ _ _ _
      rw [part_zero]
      have := HR.out
      simpa [ints] using this
    case round =>
      obtain ⟨k, hk, rfl, HRr, HPr, hBr⟩ := hrel
      clear HR HP hBc
      by_cases hlt : k < ny
      · have kn : (k : Int) < (ny : Int) := by omega
        have cR := HRr.out.cell (ints_at _ _ k (by rw [part_len]; exact hlt))
        obtain ⟨z, hz⟩ : ∃ z, z = (part (0 : Int) ny (fun _ => -1) k).getD k 0 := ⟨_, rfl⟩
        rw [← hz] at cR
        have fR := HRr.out.frozen k
        clear hz
        go_wp2_with fail
        go_roundw
        case rel =>
          refine ⟨k + 1, by omega, by go_num, ?_, HPr.out.other ⟨gR, k, none⟩ _ (by simp; omega), hBr.setCell (p := ⟨gR, k, none⟩) hRw _⟩
          show Blk _ _ _ _
          have := HRr.out.set k (.int .i64 (-1))
          rw [ints_set, part_set (0 : Int) ny (fun _ => -1) k] at this
          exact this
        case measure => simp [intOf]; omega
      · obtain rfl : k = ny := by omega
        have kn : ¬ (k : Int) < (k : Int) := by omega
        have HR0 : Hid (Blk wr gR 3 (ints .i64 (List.replicate k (-1)))) := by
          show Blk _ _ _ _
          have := HRr.out
          rw [part_full] at this
          have e : full k (fun _ => (-1 : Int)) = List.replicate k (-1) := by simp [full, List.map_const']
          rwa [e] at this
        have HP0 : Hid (Blk wr gP 3 (nats (List.replicate k 0))) := by show Blk _ _ _ _; rw [nats_zero]; exact HPr.out
        have hXr := HX.out.below hBr hXl
        have x0 : wr.cell? ⟨X, 0, none⟩ = some (.slice a0 n c0) := hXr.cell rfl
        have x6 : wr.cell? ⟨X, 6, none⟩ = some v6 := hXr.cell rfl
        have f6 := hXr.frozen 6
        have hXw : X < wr.heap.size := hXr.lt
        have hmk : ∀ wx : World, (Instr.makeSlice 41 (.int .i64 ((n : Int) + 1)) (.int .i64 ((n : Int) + 1))).run Yba.prog wx = .ok (.slice (some ⟨wx.heap.size, 0, none⟩) n1 n1) (wx.alloc (.cells (madeCells #[.int .i64 0] n1) 3)) := fun wx => by
          have e : (n : Int) + 1 = (n1 : Int) := by have := HN1.out; omega
          rw [e]
          exact run_make_row' (P := Yba.prog) 41 3 (.int .i64 0) 8 Yba.underlying41 Yba.inf3 rfl .i64 .i64 n1 (by omega) (by omega) wx
        clear HRr HPr
        go_wp2_with fail
        have hO : Only (fun k => k = X ∨ k = G) w ((wr.setCell ⟨X, 6, none⟩ (.slice (some ⟨wr.heap.size, 0, none⟩) n1 n1)).alloc (.cells (madeCells #[.int .i64 0] n1) 3)) := ((show Only (fun k => k = X ∨ k = G) w wr from ⟨hBr.os, hBr.tape, hBr.output, hBr.size, fun k hk _ => hBr.block k hk⟩).setCell (.inr (.inl rfl)) _).alloc _
        have hX1 := (hXr.set 6 (.slice (some ⟨wr.heap.size, 0, none⟩) n1 n1)).alloc (.cells (madeCells #[.int .i64 0] n1) 3)
        have hP1 := blk_made (wr.setCell ⟨X, 6, none⟩ (.slice (some ⟨wr.heap.size, 0, none⟩) n1 n1)) (.int .i64 0) n1 3
        have hsz : (wr.setCell ⟨X, 6, none⟩ (.slice (some ⟨wr.heap.size, 0, none⟩) n1 n1)).heap.size = wr.heap.size := by simp
        rw [hsz] at hP1
        have hR1 := (HR0.out.other ⟨X, 6, none⟩ (.slice (some ⟨wr.heap.size, 0, none⟩) n1 n1) (by simp; omega)).alloc (.cells (madeCells #[.int .i64 0] n1) 3)
        have hQ1 := (HP0.out.other ⟨X, 6, none⟩ (.slice (some ⟨wr.heap.size, 0, none⟩) n1 n1) (by simp; omega)).alloc (.cells (madeCells #[.int .i64 0] n1) 3)
        have hG1 := ((HG.out.below hBr hGl).other ⟨X, 6, none⟩ (.slice (some ⟨wr.heap.size, 0, none⟩) n1 n1) (by simp; omega)).alloc (.cells (madeCells #[.int .i64 0] n1) 3)
        clear hsz
        have hgR := HR0.out.lt
        have hgP := HP0.out.lt
        obtain ⟨Pg, hPg⟩ : ∃ Pg, wr.heap.size = Pg := ⟨_, rfl⟩
        have hPw' : w.heap.size ≤ Pg := by rw [← hPg]; exact hBr.size
        rw [hPg] at hO hX1 hP1 hR1 hQ1 hG1 hgR hgP ⊢
        obtain ⟨W1, hW1⟩ : ∃ W1, (wr.setCell ⟨X, 6, none⟩ (.slice (some ⟨Pg, 0, none⟩) n1 n1)).alloc (.cells (madeCells #[.int .i64 0] n1) 3) = W1 := ⟨_, rfl⟩
        rw [hW1] at hO hX1 hP1 hR1 hQ1 hG1 ⊢
        have HX1 : Hid (Blk W1 X 75 (ixCells (.slice a0 n c0) (.slice a1 k c1) (.slice (some ⟨G, 0, none⟩) m cO) (.slice (some ⟨Sg, 0, none⟩) n1 cs) (.slice (some ⟨Lg, 0, none⟩) ml cl) (.int .i64 0) (.slice (some ⟨Pg, 0, none⟩) n1 n1) v7 v8 v9 v10 v11)) := hX1
        have HP1 : Hid (Blk W1 Pg 3 (nats (part 0 n1 (cnt T I) 0))) := by show Blk _ _ _ _; rw [part_zero, nats_zero]; exact hP1
        have HR1 : Hid (Blk W1 gR 3 (ints .i64 (List.replicate k (-1)))) := hR1
        have HQ1 : Hid (Blk W1 gP 3 (nats (List.replicate k 0))) := hQ1
        have HG1 : Hid (Row W1 G (ioCells os)) := hG1
        clear hX1 hP1 hR1 hQ1 hG1 hW1 hPg hmk x0 x6 f6 hXr hXw hBr HR0 HP0 HX HG
        clear wr
        go_loopw [5, 45] (fun _ i wr => ∃ (t : Nat) (R : List Int) (PO : List Nat) (cur : List IOp), t ≤ n ∧ i = .int .i64 t ∧ Hid (PSt T I os k t 0 R PO cur) ∧ Hid (Blk wr X 75 (ixCells (.slice a0 n c0) (.slice a1 k c1) (.slice (some ⟨G, 0, none⟩) m cO) (.slice (some ⟨Sg, 0, none⟩) n1 cs) (.slice (some ⟨Lg, 0, none⟩) ml cl) (.int .i64 ((cnt T I t : Nat))) (.slice (some ⟨Pg, 0, none⟩) n1 n1) v7 v8 v9 v10 v11)) ∧ Hid (Blk wr Pg 3 (nats (part 0 n1 (cnt T I) t))) ∧ Hid (Blk wr gR 3 (ints .i64 R)) ∧ Hid (Blk wr gP 3 (nats PO)) ∧ Hid (Row wr G (ioCells cur)) ∧ Only (fun k => k = X ∨ k = G) w wr) (fun _ i _ => n - (intOf i).toNat)
        case atStart => exact ⟨0, _, _, _, Nat.zero_le _, rfl, PSt.start T I os k, HX1, HP1, HR1, HQ1, HG1, hO⟩
        case round =>
          obtain ⟨t, R, PO, cur, htn, rfl, HPS, HX2, HP2, HR2, HQ2, HG2, hO2⟩ := hrel
          clear HX1 HP1 HR1 HQ1 HG1 hO
          have x0 : wr.cell? ⟨X, 0, none⟩ = some (.slice a0 n c0) := HX2.out.cell rfl
          have x3 : wr.cell? ⟨X, 3, none⟩ = some (.slice (some ⟨Sg, 0, none⟩) n1 cs) := HX2.out.cell rfl
          have x4 : wr.cell? ⟨X, 4, none⟩ = some (.slice (some ⟨Lg, 0, none⟩) ml cl) := HX2.out.cell rfl
          have x5 : wr.cell? ⟨X, 5, none⟩ = some (.int .i64 (cnt T I t : Nat)) := HX2.out.cell rfl
          have x6 : wr.cell? ⟨X, 6, none⟩ = some (.slice (some ⟨Pg, 0, none⟩) n1 n1) := HX2.out.cell rfl
          have hXP : X ≠ Pg := by omega
          have cP := HP2.out.cell (nats_at _ t (by rw [part_len]; have := HN1.out; omega))
          obtain ⟨zp, hzp⟩ : ∃ zp, zp = (part 0 n1 (cnt T I) t).getD t 0 := ⟨_, rfl⟩
          rw [← hzp] at cP
          have fP := HP2.out.frozen t
          have hXw : X < wr.heap.size := HX2.out.lt
          have tn1 : (t : Int) < (n1 : Int) := by have := HN1.out; omega
          obtain ⟨cn, hcn⟩ : ∃ cn, cn = cnt T I t := ⟨_, rfl⟩
          have HCN : Hid (cn = cnt T I t) := hcn
          rw [← hcn] at x5
          clear hzp hcn
          by_cases hlt : t < n
          · have tn : (t : Int) < (n : Int) := by omega
            go_wp2_with fail
            go_region
            -- INNER
            have hX3 := (HX2.out.other ⟨Pg, t, none⟩ (.int .i64 (cn : Int)) hXP).drew
            have hP3 := (HP2.out.set t (.int .i64 (cn : Int))).drew
            have hR3 := (HR2.out.other ⟨Pg, t, none⟩ (.int .i64 (cn : Int)) (by simp; omega)).drew
            have hQ3 := (HQ2.out.other ⟨Pg, t, none⟩ (.int .i64 (cn : Int)) (by simp; omega)).drew
            have hG3 : Row ((wr.setCell ⟨Pg, t, none⟩ (.int .i64 (cn : Int))).drew) G (ioCells cur) := HG2.out.other ⟨Pg, t, none⟩ (.int .i64 (cn : Int)) (by simp; omega)
            have hO3 := (hO2.setCell (p := ⟨Pg, t, none⟩) (.inl hPw') (.int .i64 (cn : Int))).drew
            rw [nats_set, HCN.out, part_set, ← HCN.out] at hP3
            obtain ⟨W3, hW3⟩ : ∃ W3, (wr.setCell ⟨Pg, t, none⟩ (.int .i64 (cn : Int))).drew = W3 := ⟨_, rfl⟩
            rw [hW3] at hX3 hP3 hR3 hQ3 hG3 hO3 ⊢
            have y3 : W3.cell? ⟨X, 3, none⟩ = some (.slice (some ⟨Sg, 0, none⟩) n1 cs) := hX3.cell rfl
            have y4 : W3.cell? ⟨X, 4, none⟩ = some (.slice (some ⟨Lg, 0, none⟩) ml cl) := hX3.cell rfl
            have hn1 := HN1.out
            have hls : start T (t + 1) ≤ ml := by rw [HML.out]; exact start_mono T hlt
            have hof := of43 Sg Lg n1 cs ml cl (starts T n) t (start T t) (start T (t + 1)) W3 (by rw [starts, rmap_len]; omega) (by omega) (by omega) (starts_at T n t (by omega)) (starts_at T n (t + 1) (by omega)) (start_mono T (by omega)) hls hmc bcl ((HS.out.only hO3 (by omega)))
            obtain ⟨L, hL⟩ : ∃ L, start T (t + 1) - start T t = L := ⟨_, rfl⟩
            have hLp : L = (pos T t).length := by rw [← hL, start_succ]; omega
            rw [hL] at hof
            have HLP : Hid (L = (pos T t).length) := hLp
            have HLS : Hid (start T (t + 1) ≤ ml) := hls
            have HX3 : Hid (Blk W3 X 75 (ixCells (.slice a0 n c0) (.slice a1 k c1) (.slice (some ⟨G, 0, none⟩) m cO) (.slice (some ⟨Sg, 0, none⟩) n1 cs) (.slice (some ⟨Lg, 0, none⟩) ml cl) (.int .i64 (cnt T I t : Nat)) (.slice (some ⟨Pg, 0, none⟩) n1 n1) v7 v8 v9 v10 v11)) := hX3
            have HP3 : Hid (Blk W3 Pg 3 (nats (part 0 n1 (cnt T I) (t + 1)))) := hP3
            have HR3 : Hid (Blk W3 gR 3 (ints .i64 R)) := hR3
            have HQ3 : Hid (Blk W3 gP 3 (nats PO)) := hQ3
            have HG3 : Hid (Row W3 G (ioCells cur)) := hG3
            have HLL : Hid (L = start T (t + 1) - start T t) := hL.symm
            have hLb : L ≤ 1000000 := by rw [← hL]; omega
            clear hX3 hP3 hR3 hQ3 hG3 hW3 HX2 HP2 HR2 HQ2 HG2 hO2 x0 x3 x4 x5 x6 cP fP hL hLp hls hn1 hXw HCN
            clear wr
            go_wp2_with fail
            refine hof.mono ?_
            clear hof y3 y4
            rintro e W4 ⟨ad, cad, rfl, had, hB4⟩
            have hO4 := hO3.below hB4
            have HX4 := (HX3.out.below hB4 HX3.out.lt)
            have HP4 := (HP3.out.below hB4 HP3.out.lt)
            have HR4 := (HR3.out.below hB4 HR3.out.lt)
            have HQ4 := (HQ3.out.below hB4 HQ3.out.lt)
            have HG4 := (HG3.out.below hB4 HG3.out.lt)
            have HAD : Hid (0 < L → ad = ⟨Lg, start T t, none⟩) := fun h => had (by have := HLL.out; omega)
            have HX5 : Hid (Blk W4 X 75 (ixCells (.slice a0 n c0) (.slice a1 k c1) (.slice (some ⟨G, 0, none⟩) m cO) (.slice (some ⟨Sg, 0, none⟩) n1 cs) (.slice (some ⟨Lg, 0, none⟩) ml cl) (.int .i64 (cnt T I t + (seenR T I t 0).length : Nat)) (.slice (some ⟨Pg, 0, none⟩) n1 n1) v7 v8 v9 v10 v11)) := by
              show Blk _ _ _ _
              rw [seenR_zero]
              exact HX4
            have HP5 : Hid (Blk W4 Pg 3 (nats (part 0 n1 (cnt T I) (t + 1)))) := HP4
            have HR5 : Hid (Blk W4 gR 3 (ints .i64 R)) := HR4
            have HQ5 : Hid (Blk W4 gP 3 (nats PO)) := HQ4
            have HG5 : Hid (Row W4 G (ioCells cur)) := HG4
            clear HX3 HP3 HR3 HQ3 HG3 HX4 HP4 HR4 HQ4 HG4 hB4 hO3 had
            clear W3
            go_wp2_with fail
            go_loopw [7, 8, 65] (fun _ _ i wr => ∃ (r : Nat) (R : List Int) (PO : List Nat) (cur : List IOp), r ≤ L ∧ i = .int .i64 r ∧ Hid (PSt T I os k t r R PO cur) ∧ Hid (Blk wr X 75 (ixCells (.slice a0 n c0) (.slice a1 k c1) (.slice (some ⟨G, 0, none⟩) m cO) (.slice (some ⟨Sg, 0, none⟩) n1 cs) (.slice (some ⟨Lg, 0, none⟩) ml cl) (.int .i64 (cnt T I t + (seenR T I t r).length : Nat)) (.slice (some ⟨Pg, 0, none⟩) n1 n1) v7 v8 v9 v10 v11)) ∧ Hid (Blk wr Pg 3 (nats (part 0 n1 (cnt T I) (t + 1)))) ∧ Hid (Blk wr gR 3 (ints .i64 R)) ∧ Hid (Blk wr gP 3 (nats PO)) ∧ Hid (Row wr G (ioCells cur)) ∧ Only (fun k => k = X ∨ k = G) w wr) (fun _ _ i _ => L - (intOf i).toNat)
            case atStart => exact ⟨0, R, PO, cur, Nat.zero_le _, rfl, HPS, HX5, HP5, HR5, HQ5, HG5, hO4⟩
            case round =>
              clear HPS HX5 HP5 HR5 HQ5 HG5 hO4
              clear R PO cur
              obtain ⟨r, R, PO, cur, hrL, rfl, HPS, HX6, HP6, HR6, HQ6, HG6, hO6⟩ := hrel
              by_cases hr : r < L
              · have rL : (r : Int) < (L : Int) := by omega
                have hrp : r < (pos T t).length := by rw [← HLP.out]; exact hr
                obtain ⟨j, hj⟩ : ∃ j, j = (pos T t).getD r 0 := ⟨_, rfl⟩
                have hjm : j < m := by
                  have := (pos_at T t r hrp).1
                  rw [← hj, HT.out, List.length_map, HM.out] at this
                  exact this
                obtain ⟨x, hx⟩ : ∃ x, x = I.getD j 0 := ⟨_, rfl⟩
                have hxk : x < k := by rw [hx]; exact HXN.out j hjm
                have ead := HAD.out (by omega)
                subst ead
                have hcL : wr.cell? ⟨Lg, start T t + r, none⟩ = some (.int .i64 (j : Int)) := by
                  have hfl : start T t + r < (flat (pos T) n).length := by
                    have h1 := HLS.out
                    have h2 := HML.out
                    have h3 : start T (t + 1) = start T t + (pos T t).length := start_succ T t
                    have h4 : (flat (pos T) n).length = start T n := rfl
                    omega
                  have := (HL.out.only hO6 (by omega)).cell (nats_at (flat (pos T) n) (start T t + r) hfl)
                  rw [show start T t + r = (flat (pos T) t).length + r from rfl, flat_at (pos T) 0 hlt hrp, ← hj] at this
                  exact this
                obtain ⟨p0, p1, p2, p3⟩ := ioCells_at cur j (by rw [HPS.out.lc, HM.out]; exact hjm)
                have hcx : (cur.getD j default).x = x := by
                  rw [(HPS.out.same j (by rw [HM.out]; exact hjm)).2.2, hx, HI.out, List.getD_eq_getElem?_getD, List.getD_eq_getElem?_getD, List.getElem?_map, List.getElem?_eq_getElem (by rw [HM.out]; exact hjm)]
                  simp
                rw [hcx] at p2
                have g2 := HG6.out.cell p2
                have g3 := HG6.out.cell p3
                obtain ⟨zg, hzg⟩ : ∃ zg, zg = (cur.getD j default).p := ⟨_, rfl⟩
                rw [← hzg] at g3
                have fg := HG6.out.frozen (j * 4 + 3)
                have cR := HR6.out.cell (ints_at _ R x (by rw [HPS.out.lR]; exact hxk))
                have cQ := HQ6.out.cell (nats_at PO x (by rw [HPS.out.lP]; exact hxk))
                have fR := HR6.out.frozen x
                have fQ := HQ6.out.frozen x
                obtain ⟨y, hy⟩ : ∃ y, y = R.getD x 0 := ⟨_, rfl⟩
                obtain ⟨z, hz⟩ : ∃ z, z = PO.getD x 0 := ⟨_, rfl⟩
                rw [← hy] at cR
                rw [← hz] at cQ
                have HJ : Hid (j = (pos T t).getD r 0) := hj
                have HXI : Hid (x = I.getD j 0) := hx
                have HY : Hid (y = R.getD x 0) := hy
                have HZ : Hid (z = PO.getD x 0) := hz
                have x2 : wr.cell? ⟨X, 2, none⟩ = some (.slice (some ⟨G, 0, none⟩) m cO) := HX6.out.cell rfl
                have x5 : wr.cell? ⟨X, 5, none⟩ = some (.int .i64 (cnt T I t + (seenR T I t r).length : Nat)) := HX6.out.cell rfl
                obtain ⟨cn, hcn⟩ : ∃ cn, cn = cnt T I t + (seenR T I t r).length := ⟨_, rfl⟩
                rw [← hcn] at x5
                have HCN : Hid (cn = cnt T I t + (seenR T I t r).length) := hcn
                have f5 := HX6.out.frozen 5
                have jm : (j : Int) < (m : Int) := by omega
                have xk : (x : Int) < (k : Int) := by omega
                have hbn : cn ≤ 131072 := by
                  have h1 := cnt_le T I t
                  have h2 := start_le T t
                  have h3 : T.length = m := by rw [HT.out, List.length_map, HM.out]
                  have h4 : (seenR T I t r).length ≤ m := by
                    have := nub_len (((pos T t).take r).map fun j => I.getD j 0)
                    rw [List.length_map, List.length_take] at this
                    have h5 : (pos T t).length ≤ start T (t + 1) := by rw [start_succ]; omega
                    have h6 := start_le T (t + 1)
                    show (nub _).length ≤ m
                    omega
                  omega
                have wX : X < wr.heap.size := HX6.out.lt
                have wG : G < wr.heap.size := HG6.out.lt
                have wR : gR < wr.heap.size := HR6.out.lt
                have wQ : gP < wr.heap.size := HQ6.out.lt
                have e1 : X ≠ gR := by omega
                have e2 : X ≠ gP := by omega
                have e3 : G ≠ gR := by omega
                have e4 : G ≠ gP := by omega
                clear hj hx hy hz hcn p0 p1 p2 p3 hcx hzg HAD
                by_cases hyt : y = (t : Int)
                · have hyb : (y != (t : Int)) = false := by simpa using hyt
                  go_wp2_with fail
                  go_roundw
                  case rel =>
                    have hag := HPS.out.again hrp j x HJ.out (by rw [HM.out]; exact hjm) HXI.out hxk (by rw [← HY.out]; exact hyt)
                    have hGs := HG6.out.set (j * 4 + 3) (.int .i64 (z : Int))
                    rw [ioCells_set cur j z (by rw [HPS.out.lc, HM.out]; exact hjm)] at hGs
                    refine ⟨r + 1, R, PO, _, by omega, by go_num, by rw [← HZ.out] at hag; exact hag.2, ?_, HP6.out.other ⟨G, j * 4 + 3, none⟩ _ (by simp; omega), HR6.out.other ⟨G, j * 4 + 3, none⟩ _ (by simp; omega), HQ6.out.other ⟨G, j * 4 + 3, none⟩ _ (by simp; omega), hGs, hO6.setCell (p := ⟨G, j * 4 + 3, none⟩) (.inr (.inr rfl)) _⟩
                    show Blk _ _ _ _
                    rw [hag.1]
                    exact HX6.out.other ⟨G, j * 4 + 3, none⟩ _ q1
                  case measure => simp [intOf]; omega
                · have hyb : (y != (t : Int)) = true := by simpa using hyt
                  go_wp2_with fail
                  go_region
                  go_wp2_with fail
                  go_roundw
                  case rel =>
                    have hfr := HPS.out.fresh hrp j x HJ.out (by rw [HM.out]; exact hjm) HXI.out hxk (by rw [← HY.out]; exact hyt)
                    rw [← HCN.out] at hfr
                    have hGs := (((HG6.out.other ⟨gR, x, none⟩ (.int .i64 (t : Int)) e3).other ⟨gP, x, none⟩ (.int .i64 (cn : Int)) e4).other ⟨X, 5, none⟩ (.int .i64 ((cn : Int) + 1)) (by simp; omega)).set (j * 4 + 3) (.int .i64 (cn : Int))
                    rw [ioCells_set cur j cn (by rw [HPS.out.lc, HM.out]; exact hjm)] at hGs
                    have hRs := (((HR6.out.set x (.int .i64 (t : Int))).other ⟨gP, x, none⟩ (.int .i64 (cn : Int)) hRP).other ⟨X, 5, none⟩ (.int .i64 ((cn : Int) + 1)) (by simp; omega)).other ⟨G, j * 4 + 3, none⟩ (.int .i64 (cn : Int)) (by simp; omega)
                    rw [ints_set] at hRs
                    have hQs := (((HQ6.out.other ⟨gR, x, none⟩ (.int .i64 (t : Int)) (Ne.symm hRP)).set x (.int .i64 (cn : Int))).other ⟨X, 5, none⟩ (.int .i64 ((cn : Int) + 1)) (by simp; omega)).other ⟨G, j * 4 + 3, none⟩ (.int .i64 (cn : Int)) (by simp; omega)
                    rw [nats_set] at hQs
                    have hXs := (((HX6.out.other ⟨gR, x, none⟩ (.int .i64 (t : Int)) e1).other ⟨gP, x, none⟩ (.int .i64 (cn : Int)) e2).set 5 (.int .i64 ((cn : Int) + 1))).other ⟨G, j * 4 + 3, none⟩ (.int .i64 (cn : Int)) q1
                    have hPs := (((HP6.out.other ⟨gR, x, none⟩ (.int .i64 (t : Int)) (by simp; omega)).other ⟨gP, x, none⟩ (.int .i64 (cn : Int)) (by simp; omega)).other ⟨X, 5, none⟩ (.int .i64 ((cn : Int) + 1)) (by simp; omega)).other ⟨G, j * 4 + 3, none⟩ (.int .i64 (cn : Int)) (by simp; omega)
                    refine ⟨r + 1, _, _, _, by omega, by go_num, hfr.2, ?_, hPs, hRs, hQs, hGs, ((((hO6.setCell (p := ⟨gR, x, none⟩) (.inl hRw) _).setCell (p := ⟨gP, x, none⟩) (.inl hPw) _).setCell (p := ⟨X, 5, none⟩) (.inr (.inl rfl)) _).setCell (p := ⟨G, j * 4 + 3, none⟩) (.inr (.inr rfl)) _).drew⟩
                    show Blk _ _ _ _
                    have ec : ((cnt T I t + (seenR T I t (r + 1)).length : Nat) : Int) = (cn : Int) + 1 := by rw [hfr.1, HCN.out]; omega
                    rw [ec]
                    exact hXs
                  case measure => simp [intOf]; omega
              · have hrL' : r = L := by omega
                subst hrL'
                have rL : ¬ (r : Int) < (r : Int) := by omega
                go_wp2_with fail
                go_roundw
                case rel =>
                  have hps := HPS.out
                  rw [HLP.out] at hps
                  have hT' : T.length = os.length := by rw [HT.out, List.length_map]
                  refine ⟨t + 1, R, PO, cur, by omega, by go_num, hps.next hT', ?_, HP6, HR6, HQ6, HG6, hO6⟩
                  show Blk _ _ _ _
                  have e : cnt T I (t + 1) = cnt T I t + (seenR T I t r).length := by rw [HLP.out, seenR_all]; rfl
                  rw [e]
                  exact HX6.out
                case measure => simp [intOf]; omega
          · have htn' : t = n := by omega
            subst htn'
            have tn : ¬ (t : Int) < (t : Int) := by omega
            go_wp2_with fail
            go_region
            go_wp2_with fail
            go_end0
            refine ⟨rfl, Pg, hPw', ?_, ?_, ?_, (hO2.setCell (p := ⟨Pg, t, none⟩) (.inl hPw') _).drew⟩
            · rw [← HCN.out]
              have := HX2.out.other ⟨Pg, t, none⟩ (.int .i64 (cn : Int)) hXP
              rw [← HCN.out] at this
              exact this
            · have := HP2.out.set t (.int .i64 (cn : Int))
              rw [nats_set, HCN.out, part_set, ← HN1.out, part_full] at this
              have e : full n1 (cnt T I) = pairStarts T I t := by rw [HN1.out]; rfl
              rw [e, ← HCN.out] at this
              exact this.row
            · have hps := HPS.out.all (fun j hj => HTN.out j (by rw [← HM.out]; exact hj))
              rw [← hps]
              exact HG2.out.other ⟨Pg, t, none⟩ _ (by simp; omega)
end Go.Proofs.Ybulkebqk
