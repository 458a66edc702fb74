/-
  indexSchedule.
-/
import Derived.Test.YbulkebqkCNumA
import Derived.Test.YbulkebqkCIxOps
import Derived.Test.YbulkebqkCSame
namespace Go.Proofs.Ybulkebqk
open Go.RowKit Go.Maps
set_option linter.unusedVariables false

theorem makeMap106 (n : Nat) (w : World) : (Instr.makeMap 106 (some (.int .i64 (n : Int)))).run Yba.prog w = .ok (.map (some w.heap.size)) (w.alloc (.map #[] 0)) := by
  simp [Instr.makeMap, run_underlying Yba.underlying106, asInt, asIntOf, Result.andThen]

/-- indexSchedule's literal is a function as indexOps wants it. -/
theorem clo1_ok (l : List OpV) (xs : List Int) (X N1 N M mb xb : Nat) (bl : l.length ≤ 65536) (hsz : ∀ o, o ∈ l → o.i.size ≤ 16) (hX : X < N1) (hM : N1 ≤ M) (hmb : N1 ≤ mb) (hxb : xb ≠ X) (hN : N1 ≤ N) :
    CloOk l xs (itemsUp l l.length) X N1 N 41 mb xb (J1 l X N1 M mb xb) False := by
  refine ⟨enters_of Yba.func41 (by kernel_rfl) rfl, fun q w v1 hq hac h => ?_, fun q w w' v1 h hc => ?_, fun w v1 h => ?_, fun q w v1 vs hq hac hJ hXb hvl hv1 hNw => ?_⟩
  · unfold J1
    rw [itemsUp_no l q hq hac]
    exact h
  · exact h.calm (by omega) (by omega) hxb (fun g hg => by have := (h.1.lt g hg).1; omega) hc
  · refine ⟨?_, items_mem l⟩
    rcases h.1.2 with ⟨e, h0⟩ | ⟨g0, cap0, cur0, e, _⟩
    · exact ⟨none, 0, by rw [e, h0]⟩
    · exact ⟨_, _, e⟩
  · have hmem : l.getD q default ∈ l := by rw [List.getD_eq_getElem?_getD, List.getElem?_eq_getElem hq]; simp
    refine (clo41 l X N1 N N1 M mb xb q _ (l.getD q default) v1 vs w hq (by omega) hac rfl (hsz _ hmem) hJ hXb hvl hv1 (Nat.le_refl _) hM (by omega)).mono ?_
    rintro e w' ⟨h1, v1', h2, h3, h4⟩
    exact ⟨h1, .inl ⟨v1', h2, h3, h4⟩⟩

set_option maxRecDepth 20000 in
set_option maxHeartbeats 3200000 in
theorem sched18 (gs n cap : Nat) (l : List OpV) (w : World) (hn : l.length = n) (bn : n ≤ 65536) (hS : Small l) (hsz : ∀ o, o ∈ l → o.i.size ≤ 16) (hR : Row w gs (opCells l)) :
    Calls Yba.prog 18 #[.slice (some ⟨gs, 0, none⟩) n cap] w fun e w' => ∃ (X : Nat) (xs : List Int), e = .returned (.pointer (some ⟨X, 0, none⟩)) ∧ Tx l xs ∧ xs.length ≤ n ∧ IxAt w' X l xs (itemsUp l l.length) ∧ Below w.heap.size w w' := by
  have HR : Hid (Row w gs (opCells l)) := hR
  have HL : Hid (l.length = n) := hn
  have HS : Hid (Small l) := hS
  have HSZ : Hid (∀ o, o ∈ l → o.i.size ≤ 16) := hsz
  have hgl := hR.lt
  clear hR hn hS hsz
  go_enter Yba.func18, Yba.ntmps18
  go_wp2_with fail
  -- S1
  have hX0 : Blk ((w.alloc (.cells #[.slice none 0 0, .slice none 0 0, .slice none 0 0, .slice none 0 0, .slice none 0 0, .int .i64 0, .slice none 0 0, .slice none 0 0, .slice none 0 0, .int .i64 0, .slice none 0 0, .map none] 75)).alloc (.cells #[.pointer (some ⟨w.heap.size, 0, none⟩)] 66)) w.heap.size 75 (ixCells (.slice none 0 0) (.slice none 0 0) (.slice none 0 0) (.slice none 0 0) (.slice none 0 0) (.int .i64 0) (.slice none 0 0) (.slice none 0 0) (.slice none 0 0) (.int .i64 0) (.slice none 0 0) (.map none)) := (blk_new w (ixCells (.slice none 0 0) (.slice none 0 0) (.slice none 0 0) (.slice none 0 0) (.slice none 0 0) (.int .i64 0) (.slice none 0 0) (.slice none 0 0) (.slice none 0 0) (.int .i64 0) (.slice none 0 0) (.map none)) 75).alloc _
  have hb0 : Blk ((w.alloc (.cells #[.slice none 0 0, .slice none 0 0, .slice none 0 0, .slice none 0 0, .slice none 0 0, .int .i64 0, .slice none 0 0, .slice none 0 0, .slice none 0 0, .int .i64 0, .slice none 0 0, .map none] 75)).alloc (.cells #[.pointer (some ⟨w.heap.size, 0, none⟩)] 66)) (w.heap.size + 1) 66 [.pointer (some ⟨w.heap.size, 0, none⟩)] := by
    have := blk_new (w.alloc (.cells #[.slice none 0 0, .slice none 0 0, .slice none 0 0, .slice none 0 0, .slice none 0 0, .int .i64 0, .slice none 0 0, .slice none 0 0, .slice none 0 0, .int .i64 0, .slice none 0 0, .map none] 75)) [.pointer (some ⟨w.heap.size, 0, none⟩)] 66
    rw [World.size_alloc] at this
    exact this
  have hB0 : Below w.heap.size w ((w.alloc (.cells #[.slice none 0 0, .slice none 0 0, .slice none 0 0, .slice none 0 0, .slice none 0 0, .int .i64 0, .slice none 0 0, .slice none 0 0, .slice none 0 0, .int .i64 0, .slice none 0 0, .map none] 75)).alloc (.cells #[.pointer (some ⟨w.heap.size, 0, none⟩)] 66)) := ((Below.refl _ _).alloc (Nat.le_refl _) _).alloc (by simp) _
  have hs0 : ((w.alloc (.cells #[.slice none 0 0, .slice none 0 0, .slice none 0 0, .slice none 0 0, .slice none 0 0, .int .i64 0, .slice none 0 0, .slice none 0 0, .slice none 0 0, .int .i64 0, .slice none 0 0, .map none] 75)).alloc (.cells #[.pointer (some ⟨w.heap.size, 0, none⟩)] 66)).heap.size = w.heap.size + 2 := by simp
  obtain ⟨W1, hW1⟩ : ∃ W1, (w.alloc (.cells #[.slice none 0 0, .slice none 0 0, .slice none 0 0, .slice none 0 0, .slice none 0 0, .int .i64 0, .slice none 0 0, .slice none 0 0, .slice none 0 0, .int .i64 0, .slice none 0 0, .map none] 75)).alloc (.cells #[.pointer (some ⟨w.heap.size, 0, none⟩)] 66) = W1 := ⟨_, rfl⟩
  obtain ⟨X, hXe⟩ : ∃ X, w.heap.size = X := ⟨_, rfl⟩
  have HXE : Hid (w.heap.size = X) := hXe
  rw [hW1] at hX0 hb0 hB0 hs0 ⊢
  rw [hXe] at hX0 hb0 hB0 hs0 hgl ⊢
  obtain ⟨xb, hxb⟩ : ∃ xb, X + 1 = xb := ⟨_, rfl⟩
  rw [hxb] at hb0 ⊢
  have nxX : xb ≠ X := by omega
  have lxb : xb < W1.heap.size := hb0.lt
  have lX : X < W1.heap.size := hX0.lt
  have hR1 : Row W1 gs (opCells l) := HR.out.below hB0 hgl
  have hnum := num_any gs n cap l W1.drew HL.out bn HS.out hR1
  have b1 : W1.cell? ⟨xb, 0, none⟩ = some (.pointer (some ⟨X, 0, none⟩)) := hb0.cell rfl
  have HX0 : Hid (Blk W1 X 75 (ixCells (.slice none 0 0) (.slice none 0 0) (.slice none 0 0) (.slice none 0 0) (.slice none 0 0) (.int .i64 0) (.slice none 0 0) (.slice none 0 0) (.slice none 0 0) (.int .i64 0) (.slice none 0 0) (.map none))) := hX0
  have Hb0 : Hid (Blk W1 xb 66 [.pointer (some ⟨X, 0, none⟩)]) := hb0
  clear hX0 hb0 hW1 hXe hR1
  go_region_held3 (fun w' => w'.cell? ⟨xb, 0, none⟩ = some (.pointer (some ⟨X, 0, none⟩)))
    (first
      | go_keep
      | exact b3
      | exact b4
      | exact b5)
    ((go_at_call 39
      refine hnum.mono ?_
      rintro e w3 ⟨gT, cT, n10, xs, z9, a10, b11, rfl, hgT, hTx, hxl, hRT, hNum, hB3⟩
      have hX3 := HX0.out.drew.below hB3 lX
      have hb3 := Hb0.out.drew.below hB3 lxb
      have b3 : w3.cell? ⟨xb, 0, none⟩ = some (.pointer (some ⟨X, 0, none⟩)) := hb3.cell rfl
      have x0 : w3.cell? ⟨X, 0, none⟩ = some (.slice none 0 0) := hX3.cell rfl
      have x9 : w3.cell? ⟨X, 9, none⟩ = some (.int .i64 0) := hX3.cell rfl
      have x10 : w3.cell? ⟨X, 10, none⟩ = some (.slice none 0 0) := hX3.cell rfl
      have x11 : w3.cell? ⟨X, 11, none⟩ = some (.map none) := hX3.cell rfl
      have f0 := hX3.frozen 0
      have f9 := hX3.frozen 9
      have f10 := hX3.frozen 10
      have f11 := hX3.frozen 11
      have b4 : (w3.setCell ⟨X, 0, none⟩ (.slice (some ⟨gT, 0, none⟩) xs.length cT)).cell? ⟨xb, 0, none⟩ = some (.pointer (some ⟨X, 0, none⟩)) := (hb3.other ⟨X, 0, none⟩ _ nxX).cell rfl
      have b5 : ((((w3.setCell ⟨X, 0, none⟩ (.slice (some ⟨gT, 0, none⟩) xs.length cT)).setCell ⟨X, 9, none⟩ (.int .i64 z9)).setCell ⟨X, 10, none⟩ (.slice a10 n10 n10)).setCell ⟨X, 11, none⟩ (.map b11)).cell? ⟨xb, 0, none⟩ = some (.pointer (some ⟨X, 0, none⟩)) := ((((hb3.other ⟨X, 0, none⟩ _ nxX).other ⟨X, 9, none⟩ _ nxX).other ⟨X, 10, none⟩ _ nxX).other ⟨X, 11, none⟩ _ nxX).cell rfl))
  have hsd : W1.drew.heap.size = W1.heap.size := rfl
  rw [hsd] at hB3 hgT hNum
  have hX4 := (((hX3.set 0 (.slice (some ⟨gT, 0, none⟩) xs.length cT)).set 9 (.int .i64 z9)).set 10 (.slice a10 n10 n10)).set 11 (.map b11)
  have hb4 := (((hb3.other ⟨X, 0, none⟩ (.slice (some ⟨gT, 0, none⟩) xs.length cT) nxX).other ⟨X, 9, none⟩ (.int .i64 z9) nxX).other ⟨X, 10, none⟩ (.slice a10 n10 n10) nxX).other ⟨X, 11, none⟩ (.map b11) nxX
  have hsm4 : ∀ b, b ≠ X → ((((w3.setCell ⟨X, 0, none⟩ (.slice (some ⟨gT, 0, none⟩) xs.length cT)).setCell ⟨X, 9, none⟩ (.int .i64 z9)).setCell ⟨X, 10, none⟩ (.slice a10 n10 n10)).setCell ⟨X, 11, none⟩ (.map b11)).heap[b]? = w3.heap[b]? := fun b hb => by rw [Below.heap_setCell _ _ _ _ hb, Below.heap_setCell _ _ _ _ hb, Below.heap_setCell _ _ _ _ hb, Below.heap_setCell _ _ _ _ hb]
  have hsz4 : ((((w3.setCell ⟨X, 0, none⟩ (.slice (some ⟨gT, 0, none⟩) xs.length cT)).setCell ⟨X, 9, none⟩ (.int .i64 z9)).setCell ⟨X, 10, none⟩ (.slice a10 n10 n10)).setCell ⟨X, 11, none⟩ (.map b11)).heap.size = w3.heap.size := by simp
  have hB4 : Below X w ((((w3.setCell ⟨X, 0, none⟩ (.slice (some ⟨gT, 0, none⟩) xs.length cT)).setCell ⟨X, 9, none⟩ (.int .i64 z9)).setCell ⟨X, 10, none⟩ (.slice a10 n10 n10)).setCell ⟨X, 11, none⟩ (.map b11)) := (((((hB0.trans (show Below X W1 w3 from (show Below X W1 W1.drew from (Below.refl _ _).drew).trans (hB3.mono (by omega)))).setCell (p := ⟨X, 0, none⟩) (Nat.le_refl _) (.slice (some ⟨gT, 0, none⟩) xs.length cT)).setCell (p := ⟨X, 9, none⟩) (Nat.le_refl _) (.int .i64 z9)).setCell (p := ⟨X, 10, none⟩) (Nat.le_refl _) (.slice a10 n10 n10)).setCell (p := ⟨X, 11, none⟩) (Nat.le_refl _) (.map b11))
  obtain ⟨W4, hW4⟩ : ∃ W4, ((((w3.setCell ⟨X, 0, none⟩ (.slice (some ⟨gT, 0, none⟩) xs.length cT)).setCell ⟨X, 9, none⟩ (.int .i64 z9)).setCell ⟨X, 10, none⟩ (.slice a10 n10 n10)).setCell ⟨X, 11, none⟩ (.map b11)) = W4 := ⟨_, rfl⟩
  rw [hW4] at hX4 hb4 hsm4 hsz4 hB4 ⊢
  have HX4 : Hid (Blk W4 X 75 (ixCells (.slice (some ⟨gT, 0, none⟩) xs.length cT) (.slice none 0 0) (.slice none 0 0) (.slice none 0 0) (.slice none 0 0) (.int .i64 0) (.slice none 0 0) (.slice none 0 0) (.slice none 0 0) (.int .i64 z9) (.slice a10 n10 n10) (.map b11))) := hX4
  have Hb4 : Hid (Blk W4 xb 66 [.pointer (some ⟨X, 0, none⟩)]) := hb4
  have HRT : Hid (Row W4 gT (ints .i64 xs)) := hRT.same (hsm4 gT (by omega))
  have HNUM : Hid (NumAt W1.heap.size W4 l xs (.agg #[.int .i64 z9, .slice a10 n10 n10, .map b11])) := hNum.kept (Nat.le_refl _) fun b hb _ => hsm4 b (by omega)
  have HTX : Hid (Tx l xs) := hTx
  have hmk := makeMap106 n
  have h13 : W1.heap.size ≤ W4.heap.size := by rw [hsz4]; exact hB3.size
  have b6 : W4.cell? ⟨xb, 0, none⟩ = some (.pointer (some ⟨X, 0, none⟩)) := hb4.cell rfl
  have l6 : xb < W4.heap.size := hb4.lt
  clear hX4 hb4 hRT hNum hTx hX3 hb3 b3 b4 b5 x0 x9 x10 x11 f0 f9 f10 f11 hsm4 hsz4 hW4 hB3 hsd HX0 Hb0 b1 hnum
  go_wp2_with fail
  have hX6 := (HX4.out.alloc (.map #[] 0)).alloc (.cells #[.map (some W4.heap.size)] 106)
  have hx6 := (Hb4.out.alloc (.map #[] 0)).alloc (.cells #[.map (some W4.heap.size)] 106)
  have hm6 := blk_new (W4.alloc (.map #[] 0)) [.map (some W4.heap.size)] 106
  rw [World.size_alloc] at hm6
  have hM6 : ((W4.alloc (.map #[] 0)).alloc (.cells #[.map (some W4.heap.size)] 106)).ownsMap Yba.prog 9 (plainElem Yba.prog 3) W4.heap.size 0 (.map [] : DataW Unit) := (World.ownsMap_made W4 _ _ _).alloc _
  have hs6 : ((W4.alloc (.map #[] 0)).alloc (.cells #[.map (some W4.heap.size)] 106)).heap.size = W4.heap.size + 2 := by simp
  have hsm6 : ∀ b, b < W4.heap.size → ((W4.alloc (.map #[] 0)).alloc (.cells #[.map (some W4.heap.size)] 106)).heap[b]? = W4.heap[b]? := fun b hb => by rw [Below.heap_alloc _ _ _ (by simp; omega), Below.heap_alloc _ _ _ hb]
  have hB6 : Below X w ((W4.alloc (.map #[] 0)).alloc (.cells #[.map (some W4.heap.size)] 106)) := (hB4.alloc (by omega) _).alloc (by simp; omega) _
  have hlX : X < W4.heap.size := HX4.out.lt
  have hJ6 : J1 l X W4.heap.size W4.heap.size (W4.heap.size + 1) xb 0 ((W4.alloc (.map #[] 0)).alloc (.cells #[.map (some W4.heap.size)] 106)) (.slice none 0 0) := ⟨World.ownsRow_nil _ _ _ _, hm6, hx6, hM6⟩
  have hclo := clo1_ok l xs X W4.heap.size ((W4.alloc (.map #[] 0)).alloc (.cells #[.map (some W4.heap.size)] 106)).heap.size W4.heap.size (W4.heap.size + 1) xb (by rw [HL.out]; exact bn) HSZ.out hlX (Nat.le_refl _) (by omega) nxX (by rw [hs6]; omega)
  obtain ⟨n1, hn1⟩ : ∃ n1, n1 = xs.length + 1 := ⟨_, rfl⟩
  obtain ⟨os, hos⟩ : ∃ os, os = iops xs (itemsUp l l.length) l := ⟨_, rfl⟩
  obtain ⟨T, hT⟩ : ∃ T, T = os.map (·.t) := ⟨_, rfl⟩
  obtain ⟨I, hI⟩ : ∃ I, I = os.map (·.x) := ⟨_, rfl⟩
  have hgsX : gs < X := hgl
  have hRw : Row ((W4.alloc (.map #[] 0)).alloc (.cells #[.map (some W4.heap.size)] 106)) gs (opCells l) := HR.out.below hB6 hgl
  have hops := ops40 X W4.heap.size gs n cap xs.length n1 41 (W4.heap.size + 1) xb cT l xs (itemsUp l l.length) (.int .i64 z9) (.slice a10 n10 n10) (.map b11) (.slice none 0 0) (some ⟨gT, 0, none⟩) _ False os T I ((W4.alloc (.map #[] 0)).alloc (.cells #[.map (some W4.heap.size)] 106)) HL.out bn rfl (by omega) hn1 (Nat.le_trans (itemsUp_len l l.length) (by rw [HL.out]; exact bn)) hos hT hI hX6 hRw (by omega) (by omega) (by rw [hs6]; omega) (fun w' hs => (HNUM.out.kept (N1 := W4.heap.size) (Nat.le_refl _) fun b hb hlt => ((hs b hlt (by omega)).trans (hsm6 b hlt))).mono (Nat.zero_le _)) HTX.out HS.out hJ6 hclo
  have HRT6 : Hid (Row ((W4.alloc (.map #[] 0)).alloc (.cells #[.map (some W4.heap.size)] 106)) gT (ints .i64 xs)) := HRT.out.same (hsm6 gT HRT.out.lt)
  have HNUM6 : Hid (NumAt 0 W4 l xs (.agg #[.int .i64 z9, .slice a10 n10 n10, .map b11])) := HNUM.out.mono (Nat.zero_le _)
  have HSM6 : Hid (∀ b, b < W4.heap.size → ((W4.alloc (.map #[] 0)).alloc (.cells #[.map (some W4.heap.size)] 106)).heap[b]? = W4.heap[b]?) := hsm6
  have HB6 : Hid (Below X w ((W4.alloc (.map #[] 0)).alloc (.cells #[.map (some W4.heap.size)] 106))) := hB6
  have HN1 : Hid (n1 = xs.length + 1) := hn1
  have HOS : Hid (os = iops xs (itemsUp l l.length) l) := hos
  have HTT : Hid (T = os.map (·.t)) := hT
  have HII : Hid (I = os.map (·.x)) := hI
  have HGT : Hid (gT < W4.heap.size) := HRT.out.lt
  have hgTX : gT ≠ X := by omega
  clear hn1 hos hT hI hX6 hx6 hm6 hM6 hJ6 hclo hRw hB6 hsm6
  go_wp2_with fail
  refine hops.mono ?_
  clear hops
  rintro e w7 ⟨hO7, (⟨rfl, v1', G, cO, Sg, Lg, ml, Pg, E, abv, hJ7, hX7, hG7, hml7, hS7, hL7, hP7, hE7, hA7⟩ | ⟨_, hF⟩)⟩
  · obtain ⟨hr1, hr2, hr3, hr4⟩ := hJ7
    have hx7 : w7.cell? ⟨xb, 0, none⟩ = some (.pointer (some ⟨X, 0, none⟩)) := hr3.cell rfl
    have hvf : ∃ a c, v1' = .slice a (itemsUp l n).length c := by
      rcases hr1.2 with ⟨e, h0⟩ | ⟨g0, cap0, cur0, e, _⟩
      · exact ⟨none, 0, by rw [e, h0]⟩
      · exact ⟨_, _, e⟩
    obtain ⟨a1, c1, rfl⟩ := hvf
    have HF : Hid (IxAt w7 X l xs (itemsUp l l.length) ∧ Below w.heap.size w w7) := by
      show _ ∧ _
      refine ⟨⟨gT, cT, c1, G, cO, Sg, Lg, ml, Pg, E, n1, a1, abv, .int .i64 z9, .slice a10 n10 n10, .map b11, os, T, I, HOS.out, HTT.out, HII.out, HN1.out, ?_, HRT6.out.only hO7 ?_, ?_, hG7, hml7, hS7, hL7, hP7, ?_, ?_, ?_⟩, ?_⟩
      · rw [HL.out]; exact hX7
      · rintro (h | h)
        · exact hgTX h
        · have := HGT.out; omega
      · rw [HL.out]; exact at_owned hr1
      · rw [HL.out]; exact hE7
      · rw [HL.out]
        cases hb : absUp xs l n with
        | none => rw [hb] at hA7; exact hA7
        | some bs => rw [hb] at hA7; obtain ⟨g, e, _, h2⟩ := hA7; exact ⟨g, e, Nat.zero_le _, h2⟩
      · refine (HNUM.out.kept (N1 := W4.heap.size) (Nat.le_refl _) fun b hb hlt => ?_).mono (Nat.zero_le _)
        have h1 := hO7.block b (by rw [hs6]; omega) (by rintro (h | h) <;> omega)
        exact h1.trans (HSM6.out b hlt)
      · rw [HXE.out]
        exact HB6.out.trans (hO7.toBelow (by rw [hs6]; omega) (by rintro b (h | h) <;> omega))
    clear hr1 hr2 hr3 hr4 hX7 hG7 hml7 hS7 hL7 hP7 hE7 hA7 hO7
    go_wp2_with fail
    go_ret
    exact ⟨X, xs, by simp, HTX.out, hxl, HF.out.1, HF.out.2⟩
  · exact hF.elim
end Go.Proofs.Ybulkebqk
