/-
  numberTransactions at a schedule that is not empty.
-/
import Derived.Test.YbulkebqkCMark
namespace Go.Proofs.Ybulkebqk
open Go.RowKit Go.Maps
set_option linter.unusedVariables false

theorem wrap_in (n : Int) (h : -9223372036854775808 ≤ n ∧ n ≤ 9223372036854775807) : wrap64 n = n := by unfold wrap64; omega
theorem zero3 (w : World) : (zeroValue 3).run Yba.prog w = .ok (.int .i64 0) w := by kernel_rfl
theorem law3 : Keyed Yba.prog 3 := int_keyed Yba.underlying3

/-- The map that gives each of xs' first k numbers its place. -/
def idxMap (xs : List Int) (k : Nat) : DataW Unit := (List.range k).foldl (fun D i => D.put (.int .i64 (xs.getD i 0)) (.lit (.int .i64 i))) (.map [])
/-- What is known of a numbering. -/
def NumAt (B : Nat) (w : World) (l : List OpV) (xs : List Int) (nv : Value) : Prop :=
  (l = [] ∧ nv = .agg #[.int .i64 0, .slice none 0 0, .map none]) ∨
  (0 < l.length ∧ 2 * (l.length : Int) ≤ hi l l.length - lo l l.length ∧ ∃ b, B ≤ b ∧ nv = .agg #[.int .i64 0, .slice none 0 0, .map (some b)] ∧ w.ownsMap Yba.prog 3 (plainElem Yba.prog 3) b xs.length (idxMap xs xs.length)) ∨
  (0 < l.length ∧ hi l l.length - lo l l.length < 2 * (l.length : Int) ∧ ∃ g m : Nat, B ≤ g ∧ (m : Int) = hi l l.length - lo l l.length + 1 ∧ nv = .agg #[.int .i64 (lo l l.length), .slice (some ⟨g, 0, none⟩) m m, .map none] ∧ Row w g (ints .i64 ((List.range m).map fun j : Nat => idx0 xs (lo l l.length + (j : Int)))))

set_option maxRecDepth 20000 in
set_option maxHeartbeats 3200000 in
theorem num39 (g n cap : Nat) (l : List OpV) (w : World) (hn : l.length = n) (h0 : 0 < n) (hb : n ≤ 65536) (hS : Small l) (hR : Row w g (opCells l)) :
    Calls Yba.prog 39 #[.slice (some ⟨g, 0, none⟩) n cap] w fun e w' => ∃ g' c' xs nv, e = .returned (.tuple #[.slice (some ⟨g', 0, none⟩) xs.length c', nv]) ∧ w.heap.size ≤ g' ∧ Tx l xs ∧ Row w' g' (ints .i64 xs) ∧ NumAt w.heap.size w' l xs nv ∧ Below w.heap.size w w' := by
  have HR : Hid (Row w g (opCells l)) := hR
  have HL : Hid (l.length = n) := hn
  have HS : Hid (Small l) := hS
  have hgl := hR.lt
  obtain ⟨a0, a1, a2⟩ := opCells_at l 0 (by omega)
  simp only [Nat.zero_mul] at a0 a1 a2
  have hk1 := (hR.alloc (.cells #[.int .i64 0, .slice none 0 0, .map none] 73)).cell a1
  obtain ⟨t0, ht0⟩ : ∃ t0, t0 = (l.getD 0 default).t := ⟨_, rfl⟩
  rw [← ht0] at hk1
  have h00 : (0 : Int) < (n : Int) := by omega
  have h0n : ¬ ((n : Int) = 0) := by omega
  have HT0 : Hid (t0 = lo l 0 ∧ t0 = hi l 0) := ⟨by rw [ht0]; rfl, by rw [ht0]; rfl⟩
  clear hR hn hS a0 a1 a2 ht0
  obtain ⟨W0, hW0⟩ : ∃ W0, w.alloc (.cells #[.int .i64 0, .slice none 0 0, .map none] 73) = W0 := ⟨_, rfl⟩
  have hB0 : Below w.heap.size w W0 := by rw [← hW0]; exact (Below.refl _ _).alloc (Nat.le_refl _) _
  have hs0 : W0.heap.size = w.heap.size + 1 := by rw [← hW0]; simp
  have HRES : Hid (Row W0 w.heap.size [.int .i64 0, .slice none 0 0, .map none]) := by
    show Row _ _ _; rw [← hW0]; exact row_block (heap_alloc_new w _)
  have HW0 : Hid (w.alloc (.cells #[.int .i64 0, .slice none 0 0, .map none] 73) = W0) := hW0
  rw [hW0] at hk1
  clear hW0
  go_enter Yba.func39, Yba.ntmps39
  go_wp2_with fail
  rw [HW0.out]
  go_quiet (fail)
  go_wp2_with fail
  go_loopw [4, 5, 34] (fun a b i wr => ∃ (k : Nat) (x y : Int), k ≤ n ∧ i = .int .i64 k ∧ a = .int .i64 x ∧ b = .int .i64 y ∧ Hid (x = lo l k) ∧ Hid (y = hi l k) ∧ Below W0.heap.size W0 wr) (fun _ _ i _ => n - (intOf i).toNat)
  case atStart => exact ⟨0, t0, t0, Nat.zero_le _, rfl, rfl, rfl, HT0.out.1, HT0.out.2, below_drewN (Below.refl _ _) nq⟩
  case round =>
    obtain ⟨k, x, y, hk, rfl, rfl, rfl, HX, HY, hB⟩ := hrel
    clear hk1
    by_cases hlt : k < n
    · obtain ⟨c0, c1, c2⟩ := opCells_at l k (by rw [HL.out]; exact hlt)
      have hRr := (HR.out.below hB0 hgl).below hB (by omega)
      have d0 := hRr.cell c0
      have d1 := hRr.cell c1
      have d2 := hRr.cell c2
      obtain ⟨o, ho⟩ : ∃ o, o = l.getD k default := ⟨_, rfl⟩
      rw [← ho] at d0 d1 d2
      have HO : Hid (o = l.getD k default) := ho
      clear ho c0 c1 c2 hRr
      have kn : (k : Int) < (n : Int) := by omega
      go_wp2_with fail
      go_quiet (fail)
      go_wp2_with fail
      go_roundw
      case rel =>
        refine ⟨k + 1, _, _, by omega, by go_num, rfl, rfl, ?_, ?_, below_drewN (hB.alloc hB.size _) _⟩
        · show _ = _; rw [lo_succ, ← HX.out, ← HO.out]
        · show _ = _; rw [hi_succ, ← HY.out, ← HO.out]
      case measure => simp [intOf]; omega
    · have hkn : k = n := by omega
      subst hkn
      have kn : ¬ (k : Int) < (k : Int) := by omega
      have bx : -1000 ≤ x ∧ x ≤ 1000 := by rw [HX.out]; exact HS.out.lo (by rw [HL.out]; exact h0) k (by rw [HL.out]; exact Nat.le_refl _)
      have by' : -1000 ≤ y ∧ y ≤ 1000 := by rw [HY.out]; exact HS.out.hi (by rw [HL.out]; exact h0) k (by rw [HL.out]; exact Nat.le_refl _)
      have hxy : x ≤ y := by
        have h1 := lo_le l k 0 h0
        have h2 := le_hi l k 0 h0
        rw [HX.out, HY.out]; omega
      have HBX : Hid ((-1000 ≤ x ∧ x ≤ 1000) ∧ (-1000 ≤ y ∧ y ≤ 1000) ∧ x ≤ y) := ⟨bx, by', hxy⟩
      have HB0 : Hid (Below w.heap.size w W0) := hB0
      clear hB0 bx by' hxy
      have hsub : IntKind.u64.wrap (IntKind.u64.wrap y - IntKind.u64.wrap x) = y - x := by
        obtain ⟨⟨_, _⟩, ⟨_, _⟩, _⟩ := HBX.out
        simp only [IntKind.wrap, IntKind.bits, IntKind.signed]
        simp
        omega
      have hRr : Row wr g (opCells l) := (HR.out.below (B := w.heap.size) (w' := W0) HB0.out hgl).below hB (by omega)
      have hRS := HRES.out.below hB (by omega)
      have HSM : Hid (∀ j, j < (txOf l).length → -1000 ≤ (txOf l).getD j 0 ∧ (txOf l).getD j 0 ≤ 1000) := by
        intro j hj
        have hm : (txOf l).getD j 0 ∈ txOf l := by rw [List.getD_eq_getElem?_getD, List.getElem?_eq_getElem hj]; simp
        obtain ⟨o, ho, e⟩ := ((txOf_tx l).2 _).1 hm
        obtain ⟨q, hq, rfl⟩ := List.mem_iff_getElem.1 ho
        have := HS.out q hq
        rw [List.getD_eq_getElem?_getD, List.getElem?_eq_getElem hq] at this
        rw [← e]; exact this
      by_cases hsp : 2 * (k : Int) ≤ y - x
      · have hct := txs47 g k cap l wr HL.out (by omega) hRr
        clear hRr
        go_wp2_with fail
        refine hct.mono ?_
        clear hct
        rintro e W1 ⟨g1, rfl, hg1, hrow, hB1⟩
        obtain ⟨xs, hxs⟩ : ∃ xs, xs = txOf l := ⟨_, rfl⟩
        obtain ⟨n1, hn1⟩ : ∃ n1, n1 = xs.length := ⟨_, rfl⟩
        rw [← hxs] at hrow HSM ⊢
        rw [← hn1] at HSM ⊢
        have hn1b : n1 ≤ 65536 := by
          have h1 : (txOf l).length ≤ l.length := Nat.le_trans (Lib.compact_length_le _) (by simp)
          have h2 := HL.out
          rw [hn1, hxs]; omega
        have hmk := makeMap71 n1
        have HN1 : Hid (n1 = xs.length) := hn1
        have HXS : Hid (xs = txOf l) := hxs
        have HROW : Hid (Row W1 g1 (ints .i64 xs)) := hrow
        have HRS1 : Hid (Row W1 w.heap.size [.int .i64 0, .slice none 0 0, .map none]) := hRS.below hB1 hRS.lt
        have HBW : Hid (Below w.heap.size w W1) := (HB0.out.trans (hB.mono (by omega))).trans (hB1.mono (by have := hB.size; omega))
        have hws : w.heap.size < W1.heap.size := HRS1.out.lt
        have hg1w : w.heap.size < g1 := Nat.lt_of_lt_of_le hRS.lt hg1
        clear hn1 hxs hrow hg1 hB1 hB hRS HRES
        go_wp2_with fail
        go_loopw [10, 11, 65] (fun a b i wr => ∃ j : Nat, j ≤ n1 ∧ i = .int .i64 j ∧ Hid (wr.ownsMap Yba.prog 3 (plainElem Yba.prog 3) W1.heap.size j (idxMap xs j)) ∧ Hid (Row wr (W1.heap.size + 1) [.int .i64 0, .slice none 0 0, .map (some W1.heap.size)]) ∧ Below W1.heap.size W1 wr) (fun _ _ i _ => n1 - (intOf i).toNat)
        case atStart =>
          refine ⟨0, Nat.zero_le _, rfl, (World.ownsMap_made W1 _ _ _).alloc _, ?_, ((Below.refl _ _).alloc (Nat.le_refl _) _).alloc (by simp) _⟩
          have := row_block (heap_alloc_new (W1.alloc (.map #[] 0)) (.cells #[.int .i64 0, .slice none 0 0, .map (some W1.heap.size)] 73))
          rw [World.size_alloc] at this
          exact this
        case round =>
          obtain ⟨j, hj, rfl, HM, HTN, hBz⟩ := hrel
          clear hmk
          have hsz : W1.heap.size + 1 < wr.heap.size := HTN.out.lt
          by_cases hlt : j < n1
          · have cx : wr.cell? ⟨g1, j, none⟩ = some (.int .i64 (xs.getD j 0)) := (HROW.out.below hBz HROW.out.lt).cell (ints_at _ _ _ (by rw [← HN1.out]; exact hlt))
            obtain ⟨b1, b2⟩ := HSM.out j hlt
            obtain ⟨z, hz⟩ : ∃ z, z = xs.getD j 0 := ⟨_, rfl⟩
            rw [← hz] at cx b1 b2
            have hkey : keyOf Yba.prog 3 (.int .i64 z) = some (.int .i64 z) := keyOf_int_mk Yba.underlying3 (WalkArith.wf_i64 (by omega))
            have HZ : Hid (z = xs.getD j 0) := hz
            have t2 := HTN.out.cell (i := 2) rfl
            have jn : (j : Int) < (n1 : Int) := by omega
            have HJ : Hid ((Lit.int .i64 (j : Int)).wf = true) := WalkArith.wf_i64 (by omega)
            clear hz b1 b2
            go_wp2_with (first
              | (at_mapUpdate; refine wpList_mapUpdate_own _ rfl _ _ _ 71 rfl 3 3 law3 Yba.underlying71 _ W1.heap.size j _ rfl HM.out (by unfold maxLen; omega) _ _ _ rfl rfl hkey _ [] (plainElem_int Yba.underlying3 HJ.out) ?_; intro w1 hown1 hgrow1)
              | go_in)
            go_roundw
            case rel =>
              refine ⟨j + 1, by omega, by go_num, ?_, HTN.out.grown hgrow1 (by simp), hBz.grown hgrow1 hBz.size (fun q hq => by cases hq; exact Nat.le_refl _)⟩
              show World.ownsMap _ _ _ _ _ _ _
              have e : idxMap xs (j + 1) = (idxMap xs j).put (.int .i64 z) (.lit (.int .i64 j)) := by rw [HZ.out]; simp [idxMap, List.range_succ]
              rw [e]; exact hown1
            case measure => simp [intOf]; omega
          · have hjn : j = n1 := by omega
            subst hjn
            have jn : ¬ (j : Int) < (j : Int) := by omega
            have t0' := HTN.out.cell (i := 0) rfl
            have t1' := HTN.out.cell (i := 1) rfl
            have t2' := HTN.out.cell (i := 2) rfl
            have hRS2 := HRS1.out.below hBz hws
            have r0 := hRS2.cell (i := 0) rfl
            have r1 := hRS2.cell (i := 1) rfl
            have r2 := hRS2.cell (i := 2) rfl
            have f0 := hRS2.frozen 0
            have f1 := hRS2.frozen 1
            have f2 := hRS2.frozen 2
            clear hRS2
            go_wp2_with fail
            go_region
            go_wp2_with fail
            refine bodyPost_ret (v := .tuple #[.slice (some ⟨g1, 0, none⟩) j j, .agg #[.int .i64 0, .slice none 0 0, .map (some W1.heap.size)]]) (by simp [results, Yba.results39, go_sem, r0, r1, r2]) rfl ?_
            refine ⟨g1, j, xs, _, by rw [← HN1.out], by omega, HXS.out ▸ txOf_tx l, ?_, .inr (.inl ⟨by rw [HL.out]; exact h0, ?_, W1.heap.size, by omega, rfl, ?_⟩), ?_⟩
            · exact (((HROW.out.below hBz HROW.out.lt).other ⟨w.heap.size, 0, none⟩ _ (by simp; omega)).other ⟨w.heap.size, 1, none⟩ _ (by simp; omega)).other ⟨w.heap.size, 2, none⟩ _ (by simp; omega)
            · rw [HL.out, ← HX.out, ← HY.out]; exact hsp
            · rw [← HN1.out]
              exact ((HM.out.setCell (a := ⟨w.heap.size, 0, none⟩) (by simp; omega) _).setCell (a := ⟨w.heap.size, 1, none⟩) (by simp; omega) _).setCell (a := ⟨w.heap.size, 2, none⟩) (by simp; omega) _
            · exact ((((HBW.out.trans (hBz.mono (by omega))).setCell (p := ⟨w.heap.size, 0, none⟩) (Nat.le_refl _) _).setCell (p := ⟨w.heap.size, 1, none⟩) (Nat.le_refl _) _).setCell (p := ⟨w.heap.size, 2, none⟩) (Nat.le_refl _) _).drew
      · have hbd := HBX.out
        obtain ⟨m, hm⟩ : ∃ m : Nat, (m : Int) = y - x + 1 := ⟨(y - x + 1).toNat, by omega⟩
        have hm1 : wrap64 (wrap64 (y - x) + 1) = (m : Int) := by
          rw [hm, wrap_in (y - x) (by omega), wrap_in _ (by omega)]
        have hmb : m ≤ 2001 := by omega
        have hsp' : y - x < 2 * (k : Int) := by omega
        have HM : Hid ((m : Int) = y - x + 1) := hm
        have hmk : ∀ wx : World, (Instr.makeSlice 41 (.int .i64 (m : Int)) (.int .i64 (m : Int))).run Yba.prog wx = .ok (.slice (some ⟨wx.heap.size, 0, none⟩) m m) (wx.alloc (.cells (madeCells #[.int .i64 0] m) 3)) := fun wx => run_make_row' (P := Yba.prog) 41 3 (.int .i64 0) 8 Yba.underlying41 Yba.info3 rfl .i64 .i64 m (by omega) (by omega) wx
        clear hbd hm hsp
        obtain ⟨T, hT⟩ : ∃ T, T = wr.heap.size := ⟨_, rfl⟩
        obtain ⟨W1, hW1⟩ : ∃ W1, W1 = wr := ⟨_, rfl⟩
        have HBW : Hid (Below w.heap.size w W1) := by show Below _ _ _; rw [hW1]; exact HB0.out.trans (hB.mono (by omega))
        have HRS1 : Hid (Row W1 w.heap.size [.int .i64 0, .slice none 0 0, .map none]) := by show Row _ _ _; rw [hW1]; exact hRS
        have HRO : Hid (Row W1 g (opCells l)) := by show Row _ _ _; rw [hW1]; exact hRr
        have hws : w.heap.size < W1.heap.size := HRS1.out.lt
        have HTS : Hid (T = W1.heap.size) := by show T = _; rw [hT, hW1]
        have hT0 : Row ((wr.alloc (.cells (madeCells #[.int .i64 0] m) 3)).alloc (.cells #[.int .i64 x, .slice (some ⟨wr.heap.size, 0, none⟩) m m, .map none] 73)) wr.heap.size (ints .i64 (marks l x m 0)) := by
          rw [marks_zero]
          have := (row_made wr (.int .i64 0) m 3).alloc (.cells #[.int .i64 x, .slice (some ⟨wr.heap.size, 0, none⟩) m m, .map none] 73)
          simpa [ints] using this
        have hS0 : Row ((wr.alloc (.cells (madeCells #[.int .i64 0] m) 3)).alloc (.cells #[.int .i64 x, .slice (some ⟨wr.heap.size, 0, none⟩) m m, .map none] 73)) (wr.heap.size + 1) [.int .i64 x, .slice (some ⟨wr.heap.size, 0, none⟩) m m, .map none] := by
          have := row_block (heap_alloc_new (wr.alloc (.cells (madeCells #[.int .i64 0] m) 3)) (.cells #[.int .i64 x, .slice (some ⟨wr.heap.size, 0, none⟩) m m, .map none] 73))
          rw [World.size_alloc] at this
          exact this
        have hBm : Below W1.heap.size W1 ((wr.alloc (.cells (madeCells #[.int .i64 0] m) 3)).alloc (.cells #[.int .i64 x, .slice (some ⟨wr.heap.size, 0, none⟩) m m, .map none] 73)) := by
          rw [hW1]; exact ((Below.refl _ _).alloc (Nat.le_refl _) _).alloc (by simp) _
        go_wp2_with fail
        rw [← hT] at hT0 hS0 hBm ⊢
        obtain ⟨W2, hW2⟩ : ∃ W2, W2 = (wr.alloc (.cells (madeCells #[.int .i64 0] m) 3)).alloc (.cells #[.int .i64 x, .slice (some ⟨T, 0, none⟩) m m, .map none] 73) := ⟨_, rfl⟩
        rw [← hW2] at hT0 hS0 hBm ⊢
        have HT0 : Hid (Row W2 T (ints .i64 (marks l x m 0))) := hT0
        have HS0 : Hid (Row W2 (T + 1) [.int .i64 x, .slice (some ⟨T, 0, none⟩) m m, .map none]) := hS0
        clear hT0 hS0 hW2 hT hW1 hB hRS hRr hmk hm1 HB0 HRES hsub
        clear wr
        go_loopw [86] (fun i wr => ∃ q : Nat, q ≤ k ∧ i = .int .i64 q ∧ Hid (Row wr T (ints .i64 (marks l x m q))) ∧ Hid (Row wr (T + 1) [.int .i64 x, .slice (some ⟨T, 0, none⟩) m m, .map none]) ∧ Below W1.heap.size W1 wr) (fun i _ => k - (intOf i).toNat)
        case atStart => exact ⟨0, Nat.zero_le _, rfl, HT0, HS0, hBm⟩
        case round =>
          obtain ⟨q, hq, rfl, HTq, HSq, hBq⟩ := hrel
          clear hBm HT0 HS0
          by_cases hlt : q < k
          · obtain ⟨c0, c1, c2⟩ := opCells_at l q (by rw [HL.out]; exact hlt)
            have hRr := HRO.out.below hBq HRO.out.lt
            have d0 := hRr.cell c0
            have d1 := hRr.cell c1
            have d2 := hRr.cell c2
            have o1 : x ≤ (l.getD q default).t := by rw [HX.out]; exact lo_le l k q hlt
            have o2 : (l.getD q default).t ≤ y := by rw [HY.out]; exact le_hi l k q hlt
            obtain ⟨o, ho⟩ : ∃ o, o = l.getD q default := ⟨_, rfl⟩
            rw [← ho] at d0 d1 d2 o1 o2
            obtain ⟨p, hp⟩ : ∃ p : Nat, (p : Int) = o.t - x := ⟨(o.t - x).toNat, by omega⟩
            have hpm : p < m := by have := HM.out; omega
            have hpI : (p : Int) < (m : Int) := by omega
            have hix : wrap64 (o.t - x) = (p : Int) := by rw [hp]; exact wrap_in _ (by have := HBX.out; omega)
            have HNX : Hid ((marks l x m q).set p 1 = marks l x m (q + 1)) := marks_succ l x m q p (by rw [HL.out]; exact hlt) (by rw [← ho]; omega) hpm
            have cT := HTq.out.cell (ints_at _ _ p (by rw [marks_len]; exact hpm))
            obtain ⟨z, hz⟩ : ∃ z, z = (marks l x m q).getD p 0 := ⟨_, rfl⟩
            rw [← hz] at cT
            have fT := HTq.out.frozen p
            have s1 := HSq.out.cell (i := 1) rfl
            have sT := HTq.out.lt
            have sS := HSq.out.lt
            have sT' : ¬ T = wr.heap.size := by omega
            have sS' : ¬ T + 1 = wr.heap.size := by omega
            have qk : (q : Int) < (k : Int) := by omega
            clear c0 c1 c2 hRr ho hp hz o1 o2
            go_wp2_with fail
            go_roundw
            case rel =>
              refine ⟨q + 1, by omega, by go_num, ?_, ?_, ?_⟩
              · show Row _ _ _
                rw [← HNX.out, ← ints_set]; exact (HTq.out.set p _).alloc _
              · exact (HSq.out.other ⟨T, p, none⟩ _ (by simp)).alloc _
              · exact (hBq.setCell (p := ⟨T, p, none⟩) (by rw [HTS.out]; exact Nat.le_refl _) _).alloc (by simp; exact hBq.size) _
            case measure => simp [intOf]; omega
          · have hqk : k = q := by omega
            have hfull : Row wr T (ints .i64 (tabUp l x m 0)) := by
              rw [← marks_all, HL.out, hqk]; exact HTq.out
            have HTF : Hid (Row wr T (ints .i64 (tabUp l x m 0))) := hfull
            have s1 := HSq.out.cell (i := 1) rfl
            have qk : ¬ (q : Int) < (k : Int) := by omega
            have hBz : Below W1.heap.size W1 wr := hBq
            have hsz : T + 2 ≤ wr.heap.size := HSq.out.lt
            clear hfull hqk HTq hBq
            obtain ⟨W3, hW3⟩ : ∃ W3, W3 = wr := ⟨_, rfl⟩
            subst hW3
            obtain ⟨i0, hi, hz0, hzz1, hzz2⟩ := info_parts Yba.info3
            go_wp2_with fail
            go_loopw [15, 16, 17, 101] (fun v _ _ ii wr => ∃ (i L c : Nat) (a : Option Addr), i ≤ m ∧ ii = .int .i64 i ∧ v = .slice a L c ∧ Hid (L = (xsUp l x i).length) ∧ Hid (wr.ownsRow (T + 2) 3 1 (.slice a L c) L (ints .i64 (xsUp l x i))) ∧ Hid (Row wr T (ints .i64 (tabUp l x m i))) ∧ Hid (Row wr (T + 1) [.int .i64 x, .slice (some ⟨T, 0, none⟩) m m, .map none]) ∧ Below W1.heap.size W1 wr) (fun _ _ _ i _ => m - (intOf i).toNat)
            case atStart => exact ⟨0, 0, 0, none, Nat.zero_le _, rfl, rfl, rfl, World.ownsRow_nil _ _ _ _, HTF, HSq, hBz⟩
            case round =>
              obtain ⟨i, L, c, a, him, rfl, rfl, HLn, HOi, HTi, HSi, hBi⟩ := hrel
              clear hBz HTF HSq s1
              have hsi : T + 2 ≤ wr.heap.size := HSi.out.lt
              by_cases hlt : i < m
              · have cT := HTi.out.cell (ints_at _ _ i (by rw [tabUp_len]; exact hlt))
                rw [tabUp_at l x m i hlt] at cT
                have fT := HTi.out.frozen i
                have s1 := HSi.out.cell (i := 1) rfl
                have im : (i : Int) < (m : Int) := by omega
                have hLb : L ≤ 2001 := by rw [HLn.out]; exact Nat.le_trans (xsUp_len l x i) (by omega)
                cases hmki : mk l x i with
                | false =>
                  rw [hmki] at cT
                  simp only [Bool.false_eq_true, if_false] at cT
                  have HM' : Hid (mk l x i = false) := hmki
                  clear hmki
                  go_wp2_with fail
                  go_roundw
                  case rel =>
                    refine ⟨i + 1, L, c, a, by omega, by go_num, rfl, ?_, ?_, ?_, HSi, hBi⟩
                    · show _ = _; rw [xsUp_no l x i HM'.out]; exact HLn.out
                    · show World.ownsRow _ _ _ _ _ _ _; rw [xsUp_no l x i HM'.out]; exact HOi.out
                    · show Row _ _ _; rw [← tabUp_no l x m i HM'.out]; exact HTi.out
                  case measure => simp [intOf]; omega
                | true =>
                  rw [hmki] at cT
                  simp only [if_true] at cT
                  have HM' : Hid (mk l x i = true) := hmki
                  have hwx : wrap64 (x + (i : Int)) = x + (i : Int) := wrap_in _ (by have := HBX.out; omega)
                  have HT1 : Hid (Row (wr.setCell ⟨T, i, none⟩ (.int .i64 (L : Int))) T (ints .i64 (tabUp l x m (i + 1)))) := by
                    show Row _ _ _
                    rw [← tabUp_yes l x m i hlt HM'.out, ← HLn.out, ← ints_set]; exact HTi.out.set i _
                  have HS1 : Hid (Row (wr.setCell ⟨T, i, none⟩ (.int .i64 (L : Int))) (T + 1) [.int .i64 x, .slice (some ⟨T, 0, none⟩) m m, .map none]) := HSi.out.other ⟨T, i, none⟩ _ (by simp)
                  have HO1 : Hid ((wr.setCell ⟨T, i, none⟩ (.int .i64 (L : Int))).ownsRow (T + 2) 3 1 (.slice a L c) L (ints .i64 (xsUp l x i))) := owns_other HOi.out ⟨T, i, none⟩ _ (by simp)
                  have HB1 : Hid (Below W1.heap.size W1 (wr.setCell ⟨T, i, none⟩ (.int .i64 (L : Int)))) := hBi.setCell (p := ⟨T, i, none⟩) (by rw [HTS.out]; exact Nat.le_refl _) _
                  have hw1 : (wr.setCell ⟨T, i, none⟩ (.int .i64 (L : Int))).heap.size = wr.heap.size := by simp
                  clear hmki
                  go_wp2_with (at_builtin; refine wpList_append_own _ rfl (.tmp 114) (.tmp 118) 41 rfl (T + 2) 3 i0 (.int .i64 0) 1 8 Yba.underlying41 hi hz0 hzz1 hzz2 rfl (by decide) _ L (ints .i64 (xsUp l x i)) rfl (HO1.out.alloc _) ⟨wr.heap.size, 0, none⟩ 1 1 [.int .i64 (x + (i : Int))] rfl rfl (news1 _ _ hw1 _ _) (by intro u hu; simp at hu; subst hu; rfl) (by unfold maxLen; omega) (by omega) (by simp; omega) ?_; intro v' w1 hown' hgrow hnil')
                  go_roundw
                  case rel =>
                    obtain ⟨g', c', rfl, hgb⟩ := owns_form hown' (by omega)
                    refine ⟨i + 1, L + 1, c', some ⟨g', 0, none⟩, by omega, by go_num, rfl, ?_, ?_, ?_, ?_, ?_⟩
                    · show _ = _; rw [xsUp_yes l x i HM'.out]; simp; exact HLn.out
                    · show World.ownsRow _ _ _ _ _ _ _
                      have e : ints .i64 (xsUp l x (i + 1)) = ints .i64 (xsUp l x i) ++ [.int .i64 (x + (i : Int))] := by rw [xsUp_yes l x i HM'.out]; simp [ints]
                      rw [e]; exact hown'
                    · exact (HT1.out.alloc _).grown hgrow (fun e => by have := (HO1.out.lt T e.symm).1; omega)
                    · exact (HS1.out.alloc _).grown hgrow (fun e => by have := (HO1.out.lt (T + 1) e.symm).1; omega)
                    · exact (HB1.out.alloc HB1.out.size _).grown hgrow (by have := HB1.out.size; simp at this ⊢; omega) (fun j hj => by have := (HO1.out.lt j hj).1; have := HTS.out; omega)
                  case measure => simp [intOf]; omega
              · have him' : m = i := by omega
                have htx : Tx l (xsUp l x m) := by
                  refine xsUp_tx l x m fun o ho => ?_
                  obtain ⟨q, hq, rfl⟩ := List.mem_iff_getElem.1 ho
                  have hq' : q < k := by rw [← HL.out]; exact hq
                  have e : l[q] = l.getD q default := by rw [List.getD_eq_getElem?_getD, List.getElem?_eq_getElem hq]; rfl
                  rw [e]
                  have h1 := lo_le l k q hq'
                  have h2 := le_hi l k q hq'
                  rw [← HX.out] at h1
                  rw [← HY.out] at h2
                  have := HM.out
                  omega
                have hL0 : 0 < L := by
                  have hmem : (l.getD 0 default).t ∈ xsUp l x m := (htx.2 _).2 ⟨l.getD 0 default, by
                    have h : 0 < l.length := by rw [HL.out]; exact h0
                    rw [List.getD_eq_getElem?_getD, List.getElem?_eq_getElem h]; simp, rfl⟩
                  rw [HLn.out, ← him']
                  exact List.length_pos_of_mem hmem
                obtain ⟨g', c', hv, hgb⟩ := owns_form HOi.out hL0
                simp only [Value.slice.injEq, true_and] at hv
                obtain ⟨rfl, rfl⟩ := hv
                rw [him'] at htx
                have HTX : Hid (Tx l (xsUp l x i)) := htx
                have HTF : Hid (Row wr T (ints .i64 ((List.range m).map fun j : Nat => idx0 (xsUp l x i) (x + (j : Int))))) := by
                  show Row _ _ _
                  rw [← him', ← tabUp_all]
                  have := HTi.out
                  rw [← him'] at this
                  exact this
                have hrow : Row wr g' (ints .i64 (xsUp l x i)) := row_owned HOi.out
                have HROW : Hid (Row wr g' (ints .i64 (xsUp l x i))) := hrow
                have t0' := HSi.out.cell (i := 0) rfl
                have t1' := HSi.out.cell (i := 1) rfl
                have t2' := HSi.out.cell (i := 2) rfl
                have hRS2 := HRS1.out.below hBi hws
                have r0 := hRS2.cell (i := 0) rfl
                have r1 := hRS2.cell (i := 1) rfl
                have r2 := hRS2.cell (i := 2) rfl
                have f0 := hRS2.frozen 0
                have f1 := hRS2.frozen 1
                have f2 := hRS2.frozen 2
                have im : ¬ (i : Int) < (m : Int) := by omega
                have hTw : w.heap.size < T := by rw [HTS.out]; exact hws
                clear hRS2 hrow htx him' hL0
                go_wp2_with fail
                go_region
                go_wp2_with fail
                refine bodyPost_ret (v := .tuple #[.slice (some ⟨g', 0, none⟩) L c, .agg #[.int .i64 x, .slice (some ⟨T, 0, none⟩) m m, .map none]]) (by simp [results, Yba.results39, go_sem, r0, r1, r2]) rfl ?_
                refine ⟨g', c, xsUp l x i, _, by rw [← HLn.out], by omega, HTX.out, ?_, .inr (.inr ⟨by rw [HL.out]; exact h0, ?_, T, m, by omega, ?_, ?_, ?_⟩), ?_⟩
                · exact ((HROW.out.other ⟨w.heap.size, 0, none⟩ _ (by simp; omega)).other ⟨w.heap.size, 1, none⟩ _ (by simp; omega)).other ⟨w.heap.size, 2, none⟩ _ (by simp; omega)
                · rw [HL.out, ← HX.out, ← HY.out]; exact hsp'
                · rw [HL.out, ← HX.out, ← HY.out]; exact HM.out
                · rw [HL.out, ← HX.out]
                · rw [HL.out, ← HX.out]
                  exact ((HTF.out.other ⟨w.heap.size, 0, none⟩ _ (by simp; omega)).other ⟨w.heap.size, 1, none⟩ _ (by simp; omega)).other ⟨w.heap.size, 2, none⟩ _ (by simp; omega)
                · exact ((((HBW.out.trans (hBi.mono (by omega))).setCell (p := ⟨w.heap.size, 0, none⟩) (Nat.le_refl _) _).setCell (p := ⟨w.heap.size, 1, none⟩) (Nat.le_refl _) _).setCell (p := ⟨w.heap.size, 2, none⟩) (Nat.le_refl _) _).drew
end Go.Proofs.Ybulkebqk
