/-
  gather: the places of the operations, transaction by transaction.
-/
import Derived.Test.YbulkebqkCIter
namespace Go.Proofs.Ybulkebqk
open Go.RowKit Go.Shelf
set_option linter.unusedVariables false
attribute [local go_sem] Oper.semAt_some

set_option maxRecDepth 20000 in
set_option maxHeartbeats 3200000 in
theorem gather50 (n n1 m Bx X G cO : Nat) (os : List IOp) (T : List Nat) (w : World) (hn1 : n1 = n + 1) (bn : n ≤ 65536) (bm : m ≤ 65536) (hm : os.length = m) (hT : T = os.map (·.t)) (ht : ∀ j, j < m → T.getD j 0 < n)
    (hBx : w.cell? ⟨Bx, 0, none⟩ = some (.pointer (some ⟨X, 0, none⟩))) (hX : w.cell? ⟨X, 2, none⟩ = some (.slice (some ⟨G, 0, none⟩) m cO)) (hG : Row w G (ioCells os)) (lB : Bx < w.heap.size) (lX : X < w.heap.size) :
    Calls Yba.prog 50 #[.int .i64 (n : Nat), .func (.func 51) #[] #[.pointer (some ⟨Bx, 0, none⟩)]] w fun e w' => ∃ Sg Lg ml, e = .returned (.agg #[.slice (some ⟨Sg, 0, none⟩) n1 n1, .slice (some ⟨Lg, 0, none⟩) ml ml]) ∧ w.heap.size ≤ Sg ∧ w.heap.size ≤ Lg ∧ ml = start T n ∧ Row w' Sg (nats (starts T n)) ∧ Row w' Lg (nats (flat (pos T) n)) ∧ Below w.heap.size w w' := by
  have bn1 : n1 ≤ 65537 := by omega
  have HM : Hid (os.length = m) := hm
  have HTT : Hid (T = os.map (·.t)) := hT
  have HTN : Hid (∀ j, j < m → T.getD j 0 < n) := ht
  have HN1 : Hid (n1 = n + 1) := hn1
  have HBx : Hid (w.cell? ⟨Bx, 0, none⟩ = some (.pointer (some ⟨X, 0, none⟩))) := hBx
  have HX : Hid (w.cell? ⟨X, 2, none⟩ = some (.slice (some ⟨G, 0, none⟩) m cO)) := hX
  have HG : Hid (Row w G (ioCells os)) := hG
  have hTL : Hid (T.length = m) := by show T.length = m; rw [hT, List.length_map, hm]
  have lG := hG.lt
  have hmk : ∀ wx : World, (Instr.makeSlice 41 (.int .i64 ((n : Int) + 1)) (.int .i64 ((n : Int) + 1))).run Yba.prog wx = .ok (.slice (some ⟨wx.heap.size, 0, none⟩) n1 n1) (wx.alloc (.cells (madeCells #[.int .i64 0] n1) 3)) := fun wx => by
    have e : (n : Int) + 1 = (n1 : Int) := by omega
    rw [e]
    exact run_make_row' (P := Yba.prog) 41 3 (.int .i64 0) 8 Yba.underlying41 Yba.inf3 rfl .i64 .i64 n1 (by omega) (by omega) wx
  clear hm hT ht hn1 hBx hX hG
  refine (callsIn_wide (n := 5)).1 (callsIn_of_wp_marks Yba.func50 rfl trivial ?_ rfl)
  simp only [Yba.ntmps50, List.size_toArray, List.length_cons, List.length_nil, Nat.reduceAdd, Nat.reduceSub, Array.replicate_succ, Array.replicate_zero, List.push_toArray, List.append_toArray, List.nil_append, List.cons_append]
  refine wpIn_wide.2 ?_
  go_wp2_with fail
  -- LOOP1
  have hR1 : Blk (((w.alloc (.cells #[.slice none 0 0, .slice none 0 0] 43)).alloc (.cells (madeCells #[.int .i64 0] n1) 3)).alloc (.cells #[.slice (some ⟨w.heap.size + 1, 0, none⟩) n1 n1, .slice none 0 0] 43)) w.heap.size 43 [.slice none 0 0, .slice none 0 0] := ((blk_new w [.slice none 0 0, .slice none 0 0] 43).alloc _).alloc _
  have hS1 : Blk (((w.alloc (.cells #[.slice none 0 0, .slice none 0 0] 43)).alloc (.cells (madeCells #[.int .i64 0] n1) 3)).alloc (.cells #[.slice (some ⟨w.heap.size + 1, 0, none⟩) n1 n1, .slice none 0 0] 43)) (w.heap.size + 1) 3 (List.replicate n1 (.int .i64 0)) := by
    have := (blk_made (w.alloc (.cells #[.slice none 0 0, .slice none 0 0] 43)) (.int .i64 0) n1 3).alloc (.cells #[.slice (some ⟨w.heap.size + 1, 0, none⟩) n1 n1, .slice none 0 0] 43)
    rw [World.size_alloc] at this
    exact this
  have hA1 : Blk (((w.alloc (.cells #[.slice none 0 0, .slice none 0 0] 43)).alloc (.cells (madeCells #[.int .i64 0] n1) 3)).alloc (.cells #[.slice (some ⟨w.heap.size + 1, 0, none⟩) n1 n1, .slice none 0 0] 43)) (w.heap.size + 1 + 1) 43 [.slice (some ⟨w.heap.size + 1, 0, none⟩) n1 n1, .slice none 0 0] := by
    have := blk_new ((w.alloc (.cells #[.slice none 0 0, .slice none 0 0] 43)).alloc (.cells (madeCells #[.int .i64 0] n1) 3)) [.slice (some ⟨w.heap.size + 1, 0, none⟩) n1 n1, .slice none 0 0] 43
    rw [World.size_alloc, World.size_alloc] at this
    exact this
  have hB1 : Below w.heap.size w (((w.alloc (.cells #[.slice none 0 0, .slice none 0 0] 43)).alloc (.cells (madeCells #[.int .i64 0] n1) 3)).alloc (.cells #[.slice (some ⟨w.heap.size + 1, 0, none⟩) n1 n1, .slice none 0 0] 43)) := (((Below.refl _ _).alloc (Nat.le_refl _) _).alloc (by simp) _).alloc (by simp; omega) _
  have hs1 : (((w.alloc (.cells #[.slice none 0 0, .slice none 0 0] 43)).alloc (.cells (madeCells #[.int .i64 0] n1) 3)).alloc (.cells #[.slice (some ⟨w.heap.size + 1, 0, none⟩) n1 n1, .slice none 0 0] 43)).heap.size = w.heap.size + 3 := by simp
  obtain ⟨W1, hW1⟩ : ∃ W1, (((w.alloc (.cells #[.slice none 0 0, .slice none 0 0] 43)).alloc (.cells (madeCells #[.int .i64 0] n1) 3)).alloc (.cells #[.slice (some ⟨w.heap.size + 1, 0, none⟩) n1 n1, .slice none 0 0] 43)) = W1 := ⟨_, rfl⟩
  rw [hW1] at hR1 hS1 hA1 hB1 hs1 ⊢
  obtain ⟨B, hBe⟩ : ∃ B, w.heap.size = B := ⟨_, rfl⟩
  rw [hBe] at hR1 hS1 hA1 hB1 hs1 lB lX lG ⊢
  obtain ⟨A, hAe⟩ : ∃ A, B + 1 + 1 = A := ⟨_, rfl⟩
  obtain ⟨S, hSe⟩ : ∃ S, B + 1 = S := ⟨_, rfl⟩
  rw [hAe] at hA1 ⊢
  rw [hSe] at hS1 hA1 ⊢
  have hGW : Row W1 G (ioCells os) := HG.out.below hB1 lG
  have hBxW := (hB1.cell (p := ⟨Bx, 0, none⟩) lB).trans HBx.out
  have hXW := (hB1.cell (p := ⟨X, 2, none⟩) lX).trans HX.out
  have HS0 : Hid (Blk W1 S 3 (nats (gcnt T n 0))) := by show Blk _ _ _ _; rw [gcnt_zero, nats_zero, ← HN1.out]; exact hS1
  have HBE : Hid (w.heap.size = B) := hBe
  have q1 : S ≠ A := by omega
  have q2 : S ≠ B := by omega
  have q3 : A ≠ B := by omega
  have q4 : B ≤ S := by omega
  have q5 : B ≤ A := by omega
  have hsW : B ≤ W1.heap.size := by omega
  have q6 : A < W1.heap.size := by omega
  have q7 : S < W1.heap.size := by omega
  obtain ⟨tf, htf⟩ : ∃ tf : Nat → Nat, tf = fun k => (os.getD k default).t := ⟨_, rfl⟩
  have HTF : Hid (∀ k, k < m → tf k = (os.getD k default).t) := fun k _ => by rw [htf]
  clear hW1 hmk hS1 hAe hSe hBe htf
  refine wpIn_wide.1 (range_upto (F := Fence.wide) (n := 5) rfl (by decide) (gf := 51) (lb := #[.pointer (some ⟨Bx, 0, none⟩)]) rfl trivial (enters_of Yba.func51 (by kernel_rfl) rfl) (n0 := B) hsW
    (iter51 4 (by decide) Bx X G m cO B os tf HTF.out W1 bm HM.out hBxW hXW hGW lB lX lG hsW) (fun _ => rfl)
    (fun k W => (Blk W B 43 [.slice none 0 0, .slice none 0 0] ∧ Blk W A 43 [.slice (some ⟨S, 0, none⟩) n1 n1, .slice none 0 0] ∧ Blk W S 3 (nats (gcnt T n k))) ∧ Below B w W)
    (OwnFrom.and (Own.from (fun s A' B' row hs hg hr => ⟨hs.1.kept hg hr, hs.2.1.kept hg hr, hs.2.2.kept hg hr⟩) _) (ownFrom_below (by rw [HBE.out]; exact Nat.le_refl _) hsW))
    ⟨⟨hR1, hA1, HS0.out⟩, hB1⟩ ?a1 ?assign ?body ?done)
  case assign =>
    intro l k W K hK
    gi_wp2
    exact hK
  case body =>
    rintro l k W hk ⟨⟨h1, h2, h3⟩, h4⟩
    have hT := HTN.out k hk
    have c1 : W.cell? ⟨A, 0, none⟩ = some (.slice (some ⟨S, 0, none⟩) n1 n1) := h2.cell rfl
    have hTk : T.getD k 0 = (os.getD k default).t := by
      rw [HTT.out, List.getD_eq_getElem?_getD, List.getD_eq_getElem?_getD, List.getElem?_map, List.getElem?_eq_getElem (by rw [HM.out]; exact hk)]
      simp
    obtain ⟨t, htt⟩ : ∃ t, t = tf k := ⟨_, rfl⟩
    rw [← HTF.out k hk, ← htt] at hTk
    rw [← htt]
    have c2 := h3.cell (nats_at (gcnt T n k) (t + 1) (by rw [gcnt, rmap_len]; omega))
    rw [gcnt_at T n k t (by omega)] at c2
    have hpl : (posUp T t k).length ≤ 65536 := by
      have := (List.length_filter_le (fun j => T.getD j 0 == t) (List.range k))
      rw [List.length_range] at this
      show (List.filter _ _).length ≤ _
      omega
    obtain ⟨z, hz⟩ : ∃ z, z = (posUp T t k).length := ⟨_, rfl⟩
    rw [← hz] at c2 hpl
    have f2 := h3.frozen (t + 1)
    have tn : (t : Int) + 1 < (n1 : Int) := by have := HN1.out; omega
    have HZ : Hid (z = (posUp T t k).length) := hz
    have HTk : Hid (T.getD k 0 = t) := hTk
    clear hz hTk htt
    gi_wp2
    refine ⟨KeepsOthers.setCell _ _ _, (Below.refl _ _).setCell (p := ⟨S, t + 1, none⟩) q4 _, ⟨h1.other ⟨S, t + 1, none⟩ _ (by simp; omega), h2.other ⟨S, t + 1, none⟩ _ (by simp; omega), ?_⟩, h4.setCell (p := ⟨S, t + 1, none⟩) q4 _⟩
    have hs := h3.set (t + 1) (.int .i64 ((z + 1 : Nat) : Int))
    rw [nats_set, HZ.out, gcnt_step T n k t HTk.out, ← HZ.out] at hs
    exact hs
  case done =>
    rintro D W2 hD ⟨⟨h1, h2, h3⟩, h4⟩ hK
    have hTm := hTL.out
    rw [← hTm, gsum_zero] at h3
    have HR2 : Hid (Blk W2 B 43 [.slice none 0 0, .slice none 0 0]) := h1
    have HA2 : Hid (Blk W2 A 43 [.slice (some ⟨S, 0, none⟩) n1 n1, .slice none 0 0]) := h2
    have HS2 : Hid (Blk W2 S 3 (nats (gsum T n 0))) := h3
    have HK2 : Hid (W2.heap[D]? = some (.deferred (some []))) := hK
    have HB2 : Hid (Below B w W2) := h4
    have HDl : Hid (D < W2.heap.size) := lt_of_block hK
    have hDS : D ≠ S := by omega
    have hDA : D ≠ A := by omega
    have hDB : D ≠ B := by omega
    clear h1 h2 h3 h4 hK hTm hR1 hA1 HS0 hGW hBxW hXW
    go_wp2_with fail
    go_loopw [7, 27] (fun _ i wr => ∃ k : Nat, k ≤ n ∧ i = .int .i64 k ∧ Hid (Blk wr A 43 [.slice (some ⟨S, 0, none⟩) n1 n1, .slice none 0 0]) ∧ Hid (Blk wr S 3 (nats (gsum T n k))) ∧ Only (fun k => k = S) W2 wr) (fun _ i _ => n - (intOf i).toNat)
    case atStart => exact ⟨0, Nat.zero_le _, rfl, HA2, HS2, Only.refl _ _⟩
    case round =>
      obtain ⟨k, hk, rfl, HA3, HS3, hO3⟩ := hrel
      by_cases hlt : k < n
      · have kn : (k : Int) < (n : Int) := by omega
        obtain ⟨g1, g2⟩ := gsum_at T n k hlt
        have c0 : wr.cell? ⟨A, 0, none⟩ = some (.slice (some ⟨S, 0, none⟩) n1 n1) := HA3.out.cell rfl
        have c1 := HS3.out.cell (nats_at (gsum T n k) k (by rw [gsum, rmap_len]; omega))
        have c2 := HS3.out.cell (nats_at (gsum T n k) (k + 1) (by rw [gsum, rmap_len]; omega))
        rw [g1] at c1
        rw [g2] at c2
        have f2 := HS3.out.frozen (k + 1)
        have b1 : start T k ≤ 65536 := Nat.le_trans (start_le T k) (by rw [hTL.out]; exact bm)
        have b2 : start T (k + 1) ≤ 65536 := Nat.le_trans (start_le T (k + 1)) (by rw [hTL.out]; exact bm)
        have b3 := start_succ T k
        obtain ⟨z1, hz1⟩ : ∃ z, z = start T k := ⟨_, rfl⟩
        obtain ⟨z2, hz2⟩ : ∃ z, z = (pos T k).length := ⟨_, rfl⟩
        rw [← hz1] at c1 b1
        rw [← hz2] at c2
        have bz : z2 ≤ 65536 := by omega
        have HZ : Hid (z2 + z1 = start T (k + 1)) := by show _ = _; omega
        have k1 : (k : Int) < (n1 : Int) := by have := HN1.out; omega
        have k2 : (k : Int) + 1 < (n1 : Int) := by have := HN1.out; omega
        clear g1 g2 hz1 hz2 b2 b3
        go_wp2_with fail
        go_region
        go_wp2_with fail
        go_roundw
        case rel =>
          refine ⟨k + 1, by omega, by go_num, (HA3.out.other ⟨S, k + 1, none⟩ _ (Ne.symm q1)).drew, ?_, (hO3.setCell (p := ⟨S, k + 1, none⟩) (.inr rfl) _).drew⟩
          show Blk _ _ _ _
          have hs := HS3.out.set (k + 1) (.int .i64 ((z2 + z1 : Nat) : Int))
          rw [nats_set, HZ.out, gsum_step T n k, ← HZ.out] at hs
          exact hs
        case measure => simp [intOf]; omega
      · have hkn : k = n := by omega
        subst hkn
        have kn : ¬ (k : Int) < (k : Int) := by omega
        have hS4 := HS3.out
        rw [gsum_all] at hS4
        have c0 : wr.cell? ⟨A, 0, none⟩ = some (.slice (some ⟨S, 0, none⟩) n1 n1) := HA3.out.cell rfl
        have c1 : wr.cell? ⟨A, 1, none⟩ = some (.slice none 0 0) := HA3.out.cell rfl
        have fA := HA3.out.frozen 1
        have c2 := hS4.cell (nats_at (starts T k) k (by rw [starts, rmap_len]; omega))
        rw [starts_at T k k (Nat.le_refl _)] at c2
        obtain ⟨ml, hml⟩ : ∃ ml, ml = start T k := ⟨_, rfl⟩
        rw [← hml] at c2
        have HML : Hid (ml = start T k) := hml
        have bml : ml ≤ 65536 := by rw [hml]; exact Nat.le_trans (start_le T k) (by rw [hTL.out]; exact bm)
        have k1 : (k : Int) < (n1 : Int) := by have := HN1.out; omega
        have k2 : (k : Int) ≤ (n1 : Int) := by omega
        have hmk : ∀ wx : World, (Instr.makeSlice 41 (.int .i64 (ml : Int)) (.int .i64 (ml : Int))).run Yba.prog wx = .ok (.slice (some ⟨wx.heap.size, 0, none⟩) ml ml) (wx.alloc (.cells (madeCells #[.int .i64 0] ml) 3)) := fun wx => run_make_row' (P := Yba.prog) 41 3 (.int .i64 0) 8 Yba.underlying41 Yba.inf3 rfl .i64 .i64 ml (by omega) (by omega) wx
        have HS4 : Hid (Blk wr S 3 (nats (starts T k))) := hS4
        have hAl : A < wr.heap.size := HA3.out.lt
        have hSl : S < wr.heap.size := HS4.out.lt
        clear hS4 HS3 hml
        go_wp2_with fail
        have hB4 : Below B w ((wr.setCell ⟨A, 1, none⟩ (.slice (some ⟨wr.heap.size, 0, none⟩) ml ml)).alloc (.cells (madeCells #[.int .i64 0] ml) 3)) := ((HB2.out.trans (hO3.toBelow (by have := HB2.out.size; rw [HBE.out] at this; exact this) (fun k e => by rw [e]; exact q4))).setCell (p := ⟨A, 1, none⟩) q5 _).alloc (by have := HB2.out.size; have := hO3.size; rw [HBE.out] at *; simp; omega) _
        have hA4 := (HA3.out.set 1 (.slice (some ⟨wr.heap.size, 0, none⟩) ml ml)).alloc (.cells (madeCells #[.int .i64 0] ml) 3)
        have hS4 := (HS4.out.other ⟨A, 1, none⟩ (.slice (some ⟨wr.heap.size, 0, none⟩) ml ml) q1).alloc (.cells (madeCells #[.int .i64 0] ml) 3)
        have hR4 := ((HR2.out.only hO3 (Ne.symm q2)).other ⟨A, 1, none⟩ (.slice (some ⟨wr.heap.size, 0, none⟩) ml ml) (Ne.symm q3)).alloc (.cells (madeCells #[.int .i64 0] ml) 3)
        have hL4 := blk_made (wr.setCell ⟨A, 1, none⟩ (.slice (some ⟨wr.heap.size, 0, none⟩) ml ml)) (.int .i64 0) ml 3
        have hsz : (wr.setCell ⟨A, 1, none⟩ (.slice (some ⟨wr.heap.size, 0, none⟩) ml ml)).heap.size = wr.heap.size := by simp
        rw [hsz] at hL4
        have hK4 : ((wr.setCell ⟨A, 1, none⟩ (.slice (some ⟨wr.heap.size, 0, none⟩) ml ml)).alloc (.cells (madeCells #[.int .i64 0] ml) 3)).heap[D]? = some (.deferred (some [])) := by
          rw [Below.heap_alloc _ _ _ (by rw [hsz]; have := HDl.out; have := hO3.size; omega), Below.heap_setCell _ _ _ _ hDA, hO3.block D HDl.out hDS]
          exact HK2.out
        have hs4 : ((wr.setCell ⟨A, 1, none⟩ (.slice (some ⟨wr.heap.size, 0, none⟩) ml ml)).alloc (.cells (madeCells #[.int .i64 0] ml) 3)).heap.size = wr.heap.size + 1 := by simp
        have hDw : D < wr.heap.size := by have := HDl.out; have := hO3.size; omega
        obtain ⟨Lg, hLg⟩ : ∃ Lg, wr.heap.size = Lg := ⟨_, rfl⟩
        rw [hLg] at hA4 hS4 hR4 hL4 hK4 hs4 hAl hSl hB4 hDw ⊢
        obtain ⟨W4, hW4⟩ : ∃ W4, (wr.setCell ⟨A, 1, none⟩ (.slice (some ⟨Lg, 0, none⟩) ml ml)).alloc (.cells (madeCells #[.int .i64 0] ml) 3) = W4 := ⟨_, rfl⟩
        rw [hW4] at hA4 hS4 hR4 hL4 hK4 hs4 hB4 ⊢
        have hcl := clone19_some ⟨S, 0, none⟩ k n1 (nats (gfill T k 0)) W4 (by omega) (by rw [nats_len, gfill, rmap_len]; omega) (nats_one _) (fun j u hu => by
          rw [← gfill_zero] at hu
          refine hS4.row.cells j u ?_
          have hj : j < ((starts T k).take k).length := by
            rcases Nat.lt_or_ge j ((starts T k).take k).length with h | h
            · exact h
            · rw [List.getElem?_eq_none (by rw [nats_len]; exact h)] at hu; cases hu
          simp only [nats, List.getElem?_map] at hu ⊢
          rw [List.getElem?_take, if_pos (by simp at hj; omega)] at hu
          exact hu)
        have HA4 : Hid (Blk W4 A 43 [.slice (some ⟨S, 0, none⟩) n1 n1, .slice (some ⟨Lg, 0, none⟩) ml ml]) := hA4
        have HS5 : Hid (Blk W4 S 3 (nats (starts T k))) := hS4
        have HR4 : Hid (Blk W4 B 43 [.slice none 0 0, .slice none 0 0]) := hR4
        have HL4 : Hid (Blk W4 Lg 3 (List.replicate ml (.int .i64 0))) := hL4
        have HK4 : Hid (W4.heap[D]? = some (.deferred (some []))) := hK4
        have HB4 : Hid (Below B w W4) := hB4
        clear hA4 hS4 hR4 hL4 hK4 hB4 hsz hW4 hLg HS4 HA3 hO3 HA2 HS2 HR2 HK2 HDl hmk c0 c1 c2 fA HB2
        clear wr
        refine hcl.mono ?_
        clear hcl
        rintro e W5 ⟨gF, cF, rfl, hgF, hRF, hB5⟩
        have HF5 : Hid (Row W5 gF (nats (gfill T k 0))) := hRF
        have HB5 : Hid (Below W4.heap.size W4 W5) := hB5
        clear hRF hB5
        go_wp2_with fail
        have hb5 := HB5.out
        have hw5 := hb5.size
        have gFl := HF5.out.lt
        have hA6 := (HA4.out.below hb5 HA4.out.lt).alloc (.cells #[.slice (some ⟨gF, 0, none⟩) k cF] 41)
        have hS6 := (HS5.out.below hb5 HS5.out.lt).alloc (.cells #[.slice (some ⟨gF, 0, none⟩) k cF] 41)
        have hR6 := (HR4.out.below hb5 HR4.out.lt).alloc (.cells #[.slice (some ⟨gF, 0, none⟩) k cF] 41)
        have hL6 := (HL4.out.below hb5 HL4.out.lt).alloc (.cells #[.slice (some ⟨gF, 0, none⟩) k cF] 41)
        have hF6 := HF5.out.alloc (.cells #[.slice (some ⟨gF, 0, none⟩) k cF] 41)
        have hb6 := blk_new W5 [.slice (some ⟨gF, 0, none⟩) k cF] 41
        have hK6 : (W5.alloc (.cells #[.slice (some ⟨gF, 0, none⟩) k cF] 41)).heap[D]? = some (.deferred (some [])) := by
          rw [Below.heap_alloc _ _ _ (by omega), hb5.block D (by omega)]
          exact HK4.out
        have hB6 : Below B w (W5.alloc (.cells #[.slice (some ⟨gF, 0, none⟩) k cF] 41)) := (HB4.out.trans (hb5.mono (by omega))).alloc (by omega) _
        have hs6 : (W5.alloc (.cells #[.slice (some ⟨gF, 0, none⟩) k cF] 41)).heap.size = W5.heap.size + 1 := by simp
        obtain ⟨Fb, hFb⟩ : ∃ Fb, W5.heap.size = Fb := ⟨_, rfl⟩
        rw [hFb] at hs6 gFl hw5 hb6 ⊢
        obtain ⟨W6, hW6⟩ : ∃ W6, W5.alloc (.cells #[.slice (some ⟨gF, 0, none⟩) k cF] 41) = W6 := ⟨_, rfl⟩
        rw [hW6] at hA6 hS6 hR6 hL6 hF6 hb6 hK6 hB6 hs6 ⊢
        have hGW : Row W6 G (ioCells os) := HG.out.below hB6 lG
        have hBxW := (hB6.cell (p := ⟨Bx, 0, none⟩) lB).trans HBx.out
        have hXW := (hB6.cell (p := ⟨X, 2, none⟩) lX).trans HX.out
        have hL7 : Blk W6 Lg 3 (nats (glist T k 0)) := by rw [glist_zero, nats_zero, ← HML.out]; exact hL6
        have hsW6 : B ≤ W6.heap.size := by omega
        have hDl6 : D < W6.heap.size := by omega
        have z1 : Lg ≠ B := by omega
        have z2 : Lg ≠ A := by omega
        have z3 : Lg ≠ S := by omega
        have z4 : gF ≠ B := by omega
        have z5 : gF ≠ A := by omega
        have z6 : gF ≠ S := by omega
        have z7 : gF ≠ Lg := by omega
        have z8 : Fb ≠ gF := by omega
        have z9 : Fb ≠ Lg := by omega
        have z10 : D ≠ Lg := by omega
        have z11 : D ≠ gF := by omega
        have z12 : Fb ≠ A := by omega
        have z13 : Fb ≠ B := by omega
        have z14 : B ≤ Lg := by omega
        have z15 : B ≤ gF := by omega
        clear hL6 hW6 hFb hb5 HF5 HB5 HA4 HS5 HR4 HL4 HK4 HB4
        clear W5
        refine wpIn_wide.1 (range_upto (F := Fence.wide) (n := 5) rfl (by decide) (gf := 51) (lb := #[.pointer (some ⟨Bx, 0, none⟩)]) rfl trivial (enters_of Yba.func51 (by kernel_rfl) rfl) (n0 := B) hsW6
          (iter51 4 (by decide) Bx X G m cO B os tf HTF.out W6 bm HM.out hBxW hXW hGW lB lX lG hsW6) (fun _ => rfl)
          (fun q W => (Blk W B 43 [.slice none 0 0, .slice none 0 0] ∧ Blk W A 43 [.slice (some ⟨S, 0, none⟩) n1 n1, .slice (some ⟨Lg, 0, none⟩) ml ml] ∧ Blk W S 3 (nats (starts T k)) ∧ Blk W Lg 3 (nats (glist T k q)) ∧ Blk W Fb 41 [.slice (some ⟨gF, 0, none⟩) k cF] ∧ Row W gF (nats (gfill T k q))) ∧ (W.heap[D]? = some (.deferred (some [])) ∧ Below B w W))
          (OwnFrom.and (Own.from (fun s A' B' row hs hg hr => ⟨hs.1.kept hg hr, hs.2.1.kept hg hr, hs.2.2.1.kept hg hr, hs.2.2.2.1.kept hg hr, hs.2.2.2.2.1.kept hg hr, hs.2.2.2.2.2.kept hg hr⟩) _)
            (OwnFrom.and (fun s A' B' row hs hg hr => (hg.block D (lt_of_block hs) (fun e => by have := (hr D e.symm).1; omega)).trans hs) (ownFrom_below (by rw [HBE.out]; exact Nat.le_refl _) hsW6)))
          ⟨⟨hR6, hA6, hS6, hL7, hb6, hF6⟩, hK6, hB6⟩ ?a2 ?assign2 ?body2 ?done2)
        case assign2 =>
          intro l q W K hK
          gi_wp2
          exact hK
        case body2 =>
          rintro l q W hq ⟨⟨h1, h2, h3, h4, h5, h6⟩, h7, h8⟩
          have hT := HTN.out q hq
          have hTq : T.getD q 0 = (os.getD q default).t := by
            rw [HTT.out, List.getD_eq_getElem?_getD, List.getD_eq_getElem?_getD, List.getElem?_map, List.getElem?_eq_getElem (by rw [HM.out]; exact hq)]
            simp
          obtain ⟨t, htt⟩ : ∃ t, t = tf q := ⟨_, rfl⟩
          rw [← HTF.out q hq, ← htt] at hTq
          rw [← htt]
          have c1 : W.cell? ⟨A, 1, none⟩ = some (.slice (some ⟨Lg, 0, none⟩) ml ml) := h2.cell rfl
          have c2 : W.cell? ⟨Fb, 0, none⟩ = some (.slice (some ⟨gF, 0, none⟩) k cF) := h5.cell rfl
          have c3 := h6.cell (nats_at (gfill T k q) t (by rw [gfill, rmap_len]; omega))
          rw [gfill_at T k q t (by omega)] at c3
          have hpl : start T t + (posUp T t q).length < ml := by
            have a1 := posUp_lt T t (show q < T.length by rw [hTL.out]; exact hq) hTq
            have a2 := start_succ T t
            have a3 := start_mono T (show t + 1 ≤ k by omega)
            have a4 := HML.out
            have a5 : (pos T t).length = (posUp T t T.length).length := rfl
            omega
          obtain ⟨z, hz⟩ : ∃ z, z = start T t + (posUp T t q).length := ⟨_, rfl⟩
          rw [← hz] at c3 hpl
          have c4 := h4.cell (nats_at (glist T k q) z (by rw [glist_len T k (by rw [hTL.out]; omega), ← HML.out]; exact hpl))
          obtain ⟨zl, hzl⟩ : ∃ zl, zl = (glist T k q).getD z 0 := ⟨_, rfl⟩
          rw [← hzl] at c4
          have f3 := h6.frozen t
          have f4 := h4.frozen z
          have tn : (t : Int) < (k : Int) := by omega
          have zm : (z : Int) < (ml : Int) := by omega
          have HZ : Hid (z = start T t + (posUp T t q).length) := hz
          have HTq : Hid (T.getD q 0 = t) := hTq
          have w1 : Fb < W.heap.size := h5.lt
          have w2 : Lg < W.heap.size := h4.lt
          have w3 : gF < W.heap.size := h6.lt
          clear hz hTq htt hzl
          gi_wp2
          refine wpIn_region_any (by kernel_rfl) (anyIn_round l (by intro i o ho c; rcases i with _ | _ | _ | _ | _ | _ | _ | _ | _ | i <;> simp at ho <;> subst ho <;> simp) _ _ _ _ ?_)
          change wpAnyIn _ _ _ _ _ _ _ _ _ (World.drew _)
          refine wpAnyIn_take (i := 0) (v := ?_) rfl rfl (by kernel_rfl) (by kernel_rfl) (by kernel_rfl) (fun _ _ _ h => h) ⟨Or.inl ⟨by rfl, ?_⟩, fun _ => rfl⟩ ?_
          rotate_left
          · intro w; go_simp; with_reducible rfl
          refine wpAnyIn_take (i := 3) (v := ?_) rfl rfl (by kernel_rfl) (by kernel_rfl) (by kernel_rfl) (fun _ _ _ h => h) ⟨Or.inl ⟨by rfl, ?_⟩, fun _ => rfl⟩ ?_
          rotate_left
          · intro w; go_simp; with_reducible rfl
          refine wpAnyIn_take (i := 6) (v := ?_) rfl rfl (by kernel_rfl) (by kernel_rfl) (by kernel_rfl) (fun _ _ _ h => h) ⟨Or.inl ⟨by rfl, ?_⟩, fun _ => rfl⟩ ?_
          rotate_left
          · intro w; go_simp; with_reducible rfl
          refine wpAnyIn_ready (rs := [1, 2]) (by kernel_rfl) (by simp) ?_
          refine AllReadyIn.cons rfl (fun K hK => ?_) ?_
          · go_simp
            refine hK _ _ ?_
            clear hK K
            refine wpAnyIn_ready (rs := [2]) (by kernel_rfl) (by simp) ?_
            refine AllReadyIn.cons rfl (fun K hK => ?_) ?_
            · go_simp
              refine hK _ _ ?_
              clear hK K
              refine wpAnyIn_take (i := 4) (v := ?_) rfl rfl (by kernel_rfl) (by kernel_rfl) (by kernel_rfl) (fun _ _ _ h => h) ⟨Or.inl ⟨by rfl, ?_⟩, fun _ => rfl⟩ ?_
              rotate_left
              · intro w; go_simp; with_reducible rfl
              refine wpAnyIn_ready (rs := [5]) (by kernel_rfl) (by simp) ?_
              refine AllReadyIn.cons rfl (fun K hK => ?_) ?_
              · go_simp
                refine hK _ _ ?_
                clear hK K
                refine wpAnyIn_ready (rs := [7]) (by kernel_rfl) (by simp) ?_
                refine AllReadyIn.cons rfl (fun K hK => ?_) ?_
                · go_simp
                  refine hK _ _ ?_
                  clear hK K
                  refine wpAnyIn_ready (rs := [8]) (by kernel_rfl) (by simp) ?_
                  refine AllReadyIn.cons rfl (fun K hK => ?_) ?_
                  · go_simp
                    refine hK _ _ ?_
                    clear hK K
                    refine wpAnyIn_done (by kernel_rfl) ?_ _
                    gi_wp2
                    refine ⟨(((KeepsOthers.setCell _ _ _).trans (KeepsOthers.drew _)).trans (KeepsOthers.setCell _ _ _)), ?_, ⟨?_, ?_, ?_, ?_, ?_, ?_⟩, ?_, ?_⟩
                    · exact ((Below.refl _ _).setCell (p := ⟨Lg, z, none⟩) z14 _).drew.setCell (p := ⟨gF, t, none⟩) z15 _
                    · exact ((h1.other ⟨Lg, z, none⟩ _ (Ne.symm z1)).drew).other ⟨gF, t, none⟩ _ (Ne.symm z4)
                    · exact ((h2.other ⟨Lg, z, none⟩ _ (Ne.symm z2)).drew).other ⟨gF, t, none⟩ _ (Ne.symm z5)
                    · exact ((h3.other ⟨Lg, z, none⟩ _ (Ne.symm z3)).drew).other ⟨gF, t, none⟩ _ (Ne.symm z6)
                    · have hs := ((h4.set z (.int .i64 (q : Int))).drew).other ⟨gF, t, none⟩ (.int .i64 ((z + 1 : Nat) : Int)) (Ne.symm z7)
                      rw [nats_set] at hs
                      have e : (glist T k q).set z q = glist T k (q + 1) := by rw [HZ.out]; exact glist_step T k q t (by rw [hTL.out]; exact hq) HTq.out (by omega)
                      rw [e] at hs
                      exact hs
                    · exact ((h5.other ⟨Lg, z, none⟩ _ z9).drew).other ⟨gF, t, none⟩ _ z8
                    · have hs := (Row.set (w := (W.setCell ⟨Lg, z, none⟩ (.int .i64 (q : Int))).drew) (h6.other ⟨Lg, z, none⟩ (.int .i64 (q : Int)) z7) t (.int .i64 ((z + 1 : Nat) : Int)))
                      rw [nats_set] at hs
                      have e : (gfill T k q).set t (z + 1) = gfill T k (q + 1) := by rw [HZ.out]; exact gfill_step T k q t HTq.out
                      rw [e] at hs
                      exact hs
                    · show ((W.setCell ⟨Lg, z, none⟩ (.int .i64 (q : Int))).setCell ⟨gF, t, none⟩ (.int .i64 ((z : Int) + 1))).heap[D]? = _
                      rw [Below.heap_setCell _ _ _ _ z11, Below.heap_setCell _ _ _ _ z10]
                      exact h7
                    · exact ((h8.setCell (p := ⟨Lg, z, none⟩) z14 _).drew).setCell (p := ⟨gF, t, none⟩) z15 _
                  exact AllReadyIn.nil
                exact AllReadyIn.nil
              exact AllReadyIn.nil
            exact AllReadyIn.nil
          refine AllReadyIn.cons rfl (fun K hK => ?_) ?_
          · go_simp
            refine hK _ _ ?_
            clear hK K
            refine wpAnyIn_take (i := 4) (v := ?_) rfl rfl (by kernel_rfl) (by kernel_rfl) (by kernel_rfl) (fun _ _ _ h => h) ⟨Or.inl ⟨by rfl, ?_⟩, fun _ => rfl⟩ ?_
            rotate_left
            · intro w; go_simp; with_reducible rfl
            refine wpAnyIn_ready (rs := [1, 5]) (by kernel_rfl) (by simp) ?_
            refine AllReadyIn.cons rfl (fun K hK => ?_) ?_
            · go_simp
              refine hK _ _ ?_
              clear hK K
              refine wpAnyIn_ready (rs := [5]) (by kernel_rfl) (by simp) ?_
              refine AllReadyIn.cons rfl (fun K hK => ?_) ?_
              · go_simp
                refine hK _ _ ?_
                clear hK K
                refine wpAnyIn_ready (rs := [7]) (by kernel_rfl) (by simp) ?_
                refine AllReadyIn.cons rfl (fun K hK => ?_) ?_
                · go_simp
                  refine hK _ _ ?_
                  clear hK K
                  refine wpAnyIn_ready (rs := [8]) (by kernel_rfl) (by simp) ?_
                  refine AllReadyIn.cons rfl (fun K hK => ?_) ?_
                  · go_simp
                    refine hK _ _ ?_
                    clear hK K
                    refine wpAnyIn_done (by kernel_rfl) ?_ _
                    gi_wp2
                    refine ⟨(((KeepsOthers.setCell _ _ _).trans (KeepsOthers.drew _)).trans (KeepsOthers.setCell _ _ _)), ?_, ⟨?_, ?_, ?_, ?_, ?_, ?_⟩, ?_, ?_⟩
                    · exact ((Below.refl _ _).setCell (p := ⟨Lg, z, none⟩) z14 _).drew.setCell (p := ⟨gF, t, none⟩) z15 _
                    · exact ((h1.other ⟨Lg, z, none⟩ _ (Ne.symm z1)).drew).other ⟨gF, t, none⟩ _ (Ne.symm z4)
                    · exact ((h2.other ⟨Lg, z, none⟩ _ (Ne.symm z2)).drew).other ⟨gF, t, none⟩ _ (Ne.symm z5)
                    · exact ((h3.other ⟨Lg, z, none⟩ _ (Ne.symm z3)).drew).other ⟨gF, t, none⟩ _ (Ne.symm z6)
                    · have hs := ((h4.set z (.int .i64 (q : Int))).drew).other ⟨gF, t, none⟩ (.int .i64 ((z + 1 : Nat) : Int)) (Ne.symm z7)
                      rw [nats_set] at hs
                      have e : (glist T k q).set z q = glist T k (q + 1) := by rw [HZ.out]; exact glist_step T k q t (by rw [hTL.out]; exact hq) HTq.out (by omega)
                      rw [e] at hs
                      exact hs
                    · exact ((h5.other ⟨Lg, z, none⟩ _ z9).drew).other ⟨gF, t, none⟩ _ z8
                    · have hs := (Row.set (w := (W.setCell ⟨Lg, z, none⟩ (.int .i64 (q : Int))).drew) (h6.other ⟨Lg, z, none⟩ (.int .i64 (q : Int)) z7) t (.int .i64 ((z + 1 : Nat) : Int)))
                      rw [nats_set] at hs
                      have e : (gfill T k q).set t (z + 1) = gfill T k (q + 1) := by rw [HZ.out]; exact gfill_step T k q t HTq.out
                      rw [e] at hs
                      exact hs
                    · show ((W.setCell ⟨Lg, z, none⟩ (.int .i64 (q : Int))).setCell ⟨gF, t, none⟩ (.int .i64 ((z : Int) + 1))).heap[D]? = _
                      rw [Below.heap_setCell _ _ _ _ z11, Below.heap_setCell _ _ _ _ z10]
                      exact h7
                    · exact ((h8.setCell (p := ⟨Lg, z, none⟩) z14 _).drew).setCell (p := ⟨gF, t, none⟩) z15 _
                  exact AllReadyIn.nil
                exact AllReadyIn.nil
              exact AllReadyIn.nil
            refine AllReadyIn.cons rfl (fun K hK => ?_) ?_
            · go_simp
              refine hK _ _ ?_
              clear hK K
              refine wpAnyIn_ready (rs := [1]) (by kernel_rfl) (by simp) ?_
              refine AllReadyIn.cons rfl (fun K hK => ?_) ?_
              · go_simp
                refine hK _ _ ?_
                clear hK K
                refine wpAnyIn_ready (rs := [7]) (by kernel_rfl) (by simp) ?_
                refine AllReadyIn.cons rfl (fun K hK => ?_) ?_
                · go_simp
                  refine hK _ _ ?_
                  clear hK K
                  refine wpAnyIn_ready (rs := [8]) (by kernel_rfl) (by simp) ?_
                  refine AllReadyIn.cons rfl (fun K hK => ?_) ?_
                  · go_simp
                    refine hK _ _ ?_
                    clear hK K
                    refine wpAnyIn_done (by kernel_rfl) ?_ _
                    gi_wp2
                    refine ⟨(((KeepsOthers.setCell _ _ _).trans (KeepsOthers.drew _)).trans (KeepsOthers.setCell _ _ _)), ?_, ⟨?_, ?_, ?_, ?_, ?_, ?_⟩, ?_, ?_⟩
                    · exact ((Below.refl _ _).setCell (p := ⟨Lg, z, none⟩) z14 _).drew.setCell (p := ⟨gF, t, none⟩) z15 _
                    · exact ((h1.other ⟨Lg, z, none⟩ _ (Ne.symm z1)).drew).other ⟨gF, t, none⟩ _ (Ne.symm z4)
                    · exact ((h2.other ⟨Lg, z, none⟩ _ (Ne.symm z2)).drew).other ⟨gF, t, none⟩ _ (Ne.symm z5)
                    · exact ((h3.other ⟨Lg, z, none⟩ _ (Ne.symm z3)).drew).other ⟨gF, t, none⟩ _ (Ne.symm z6)
                    · have hs := ((h4.set z (.int .i64 (q : Int))).drew).other ⟨gF, t, none⟩ (.int .i64 ((z + 1 : Nat) : Int)) (Ne.symm z7)
                      rw [nats_set] at hs
                      have e : (glist T k q).set z q = glist T k (q + 1) := by rw [HZ.out]; exact glist_step T k q t (by rw [hTL.out]; exact hq) HTq.out (by omega)
                      rw [e] at hs
                      exact hs
                    · exact ((h5.other ⟨Lg, z, none⟩ _ z9).drew).other ⟨gF, t, none⟩ _ z8
                    · have hs := (Row.set (w := (W.setCell ⟨Lg, z, none⟩ (.int .i64 (q : Int))).drew) (h6.other ⟨Lg, z, none⟩ (.int .i64 (q : Int)) z7) t (.int .i64 ((z + 1 : Nat) : Int)))
                      rw [nats_set] at hs
                      have e : (gfill T k q).set t (z + 1) = gfill T k (q + 1) := by rw [HZ.out]; exact gfill_step T k q t HTq.out
                      rw [e] at hs
                      exact hs
                    · show ((W.setCell ⟨Lg, z, none⟩ (.int .i64 (q : Int))).setCell ⟨gF, t, none⟩ (.int .i64 ((z : Int) + 1))).heap[D]? = _
                      rw [Below.heap_setCell _ _ _ _ z11, Below.heap_setCell _ _ _ _ z10]
                      exact h7
                    · exact ((h8.setCell (p := ⟨Lg, z, none⟩) z14 _).drew).setCell (p := ⟨gF, t, none⟩) z15 _
                  exact AllReadyIn.nil
                exact AllReadyIn.nil
              exact AllReadyIn.nil
            exact AllReadyIn.nil
          exact AllReadyIn.nil
        case done2 =>
          rintro D2 W7 hD2 ⟨⟨h1, h2, h3, h4, h5, h6⟩, h7, h8⟩ hK7
          have c0 : W7.cell? ⟨A, 0, none⟩ = some (.slice (some ⟨S, 0, none⟩) n1 n1) := h2.cell rfl
          have c1 : W7.cell? ⟨A, 1, none⟩ = some (.slice (some ⟨Lg, 0, none⟩) ml ml) := h2.cell rfl
          have r0 : W7.cell? ⟨B, 0, none⟩ = some (.slice none 0 0) := h1.cell rfl
          have r1 : W7.cell? ⟨B, 1, none⟩ = some (.slice none 0 0) := h1.cell rfl
          have f0 := h1.frozen 0
          have f1 := h1.frozen 1
          have HK7 : Hid (W7.heap[D2]? = some (.deferred (some []))) := hK7
          have HK0 : Hid (W7.heap[D]? = some (.deferred (some []))) := h7
          have hDD : D2 ≠ D := by omega
          have hD2B : D2 ≠ B := by omega
          have hD2S : S ≠ D2 := by omega
          have hD2L : Lg ≠ D2 := by omega
          clear hK7 h7
          go_wp2_with fail
          have e1 : ((W7.setCell ⟨B, 0, none⟩ (.slice (some ⟨S, 0, none⟩) n1 n1)).setCell ⟨B, 1, none⟩ (.slice (some ⟨Lg, 0, none⟩) ml ml)).heap[D2]? = some (.deferred (some [])) := by
            rw [Below.heap_setCell _ _ _ _ hD2B, Below.heap_setCell _ _ _ _ hD2B]; exact HK7.out
          have e2 : (((W7.setCell ⟨B, 0, none⟩ (.slice (some ⟨S, 0, none⟩) n1 n1)).setCell ⟨B, 1, none⟩ (.slice (some ⟨Lg, 0, none⟩) ml ml)).putObj D2 (.deferred none)).heap[D]? = some (.deferred (some [])) := by
            rw [World.putObj_heap_other (Ne.symm hDD), Below.heap_setCell _ _ _ _ hDB, Below.heap_setCell _ _ _ _ hDB]; exact HK0.out
          have k1 : Blk ((((W7.setCell ⟨B, 0, none⟩ (.slice (some ⟨S, 0, none⟩) n1 n1)).setCell ⟨B, 1, none⟩ (.slice (some ⟨Lg, 0, none⟩) ml ml)).putObj D2 (.deferred none)).putObj D (.deferred none)) B 43 [.slice (some ⟨S, 0, none⟩) n1 n1, .slice (some ⟨Lg, 0, none⟩) ml ml] :=
            (((h1.set 0 (.slice (some ⟨S, 0, none⟩) n1 n1)).set 1 (.slice (some ⟨Lg, 0, none⟩) ml ml)).same (World.putObj_heap_other (Ne.symm hD2B))).same (World.putObj_heap_other (Ne.symm hDB))
          have y0 := k1.cell (i := 0) rfl
          have y1 := k1.cell (i := 1) rfl
          refine ⟨by simp, .inl ⟨D2, _, rfl, run_takeDeferred e1, by simp, .inl ⟨D, _, rfl, run_takeDeferred e2, ?_⟩⟩⟩
          refine ⟨.agg #[.slice (some ⟨S, 0, none⟩) n1 n1, .slice (some ⟨Lg, 0, none⟩) ml ml], by simp [results, Yba.results50, go_sem, y0, y1], ?_⟩
          refine ⟨S, Lg, ml, rfl, by rw [HBE.out]; exact q4, by rw [HBE.out]; exact z14, HML.out, ?_, ?_, ?_⟩
          · exact ((((h3.other ⟨B, 0, none⟩ _ q2).other ⟨B, 1, none⟩ _ q2).same (World.putObj_heap_other hD2S)).same (World.putObj_heap_other (Ne.symm hDS))).row
          · have hl := ((((h4.other ⟨B, 0, none⟩ (.slice (some ⟨S, 0, none⟩) n1 n1) z1).other ⟨B, 1, none⟩ (.slice (some ⟨Lg, 0, none⟩) ml ml) z1).same (w' := ((W7.setCell ⟨B, 0, none⟩ (.slice (some ⟨S, 0, none⟩) n1 n1)).setCell ⟨B, 1, none⟩ (.slice (some ⟨Lg, 0, none⟩) ml ml)).putObj D2 (.deferred none)) (World.putObj_heap_other hD2L)).same (w' := (((W7.setCell ⟨B, 0, none⟩ (.slice (some ⟨S, 0, none⟩) n1 n1)).setCell ⟨B, 1, none⟩ (.slice (some ⟨Lg, 0, none⟩) ml ml)).putObj D2 (.deferred none)).putObj D (.deferred none)) (World.putObj_heap_other (Ne.symm z10))).row
            rw [← hTL.out, glist_all] at hl
            exact hl
          · rw [HBE.out]
            have hb : Below B w ((W7.setCell ⟨B, 0, none⟩ (.slice (some ⟨S, 0, none⟩) n1 n1)).setCell ⟨B, 1, none⟩ (.slice (some ⟨Lg, 0, none⟩) ml ml)) := (h8.setCell (p := ⟨B, 0, none⟩) (Nat.le_refl _) _).setCell (p := ⟨B, 1, none⟩) (Nat.le_refl _) _
            exact (hb.trans (belowK_b (w := w) (by rw [HBE.out]; exact Nat.le_refl _) _ D2 _ _ (by rw [HBE.out]; omega) e1 rfl rfl)).trans (belowK_b (w := w) (by rw [HBE.out]; exact Nat.le_refl _) _ D _ _ (by rw [HBE.out]; omega) e2 rfl rfl)
end Go.Proofs.Ybulkebqk
