/-
  indexLike.
-/
import Derived.Test.YbulkebqkCClo2W
import Derived.Test.YbulkebqkCSched
import Derived.Test.YbulkebqkCEqual
namespace Go.Proofs.Ybulkebqk
open Go.RowKit
set_option linter.unusedVariables false

theorem J2.calm {la l : List OpV} {xs : List Int} {w0 w w' : World} {X0 X N PL pb xb q : Nat} {vi v1 : Value} (h : J2 la l xs w0 X0 w0.heap.size PL pb xb vi q w v1) (hX : w0.heap.size ≤ X) (hPL : PL ≠ X) (hpb : pb ≠ X) (hxb : xb ≠ X) (hPN : PL < N) (hc : Calm X w0.heap.size N w w') (hw : w0.heap.size ≤ w.heap.size) : J2 la l xs w0 X0 w0.heap.size PL pb xb vi q w' v1 := by
  obtain ⟨h1, h2, h3, h4, h5, h6⟩ := h
  refine ⟨h1, h2.same (hc.2 PL h2.lt hPL (.inr fun c t f e => ?_)), h3.same (hc.2 pb h3.lt hpb (.inr fun c t f e => ?_)), h4.same (hc.2 xb h4.lt hxb (.inr fun c t f e => ?_)), fun b hb => (hc.2 b (by omega) (by omega) (.inl hb)).trans (h5 b hb), h6⟩
  · rw [Blk] at h2; rw [h2] at e; cases e
    exact ⟨by decide, by decide, fun _ => hPN⟩
  · rw [Blk] at h3; rw [h3] at e; cases e
    exact ⟨by decide, by decide, fun h => absurd h (by decide)⟩
  · rw [Blk] at h4; rw [h4] at e; cases e
    exact ⟨by decide, by decide, fun h => absurd h (by decide)⟩

/-- Have two schedules the transactions xs and the same programs? -/
def SameP (la lb : List OpV) (xs : List Int) : Prop := ∀ t, t ∈ xs → progOf la t = progOf lb t

theorem clo2_ok (la l : List OpV) (xs : List Int) (ys : List ByteArray) (w0 : World) (X0 X N PL pb xb G0 cO S0 L0 ml n1 c1 : Nat) (a1 : Option Addr) (vs0 : List Value) (os : List IOp) (T I : List Nat)
    (bl : l.length ≤ 65536) (hl : ∀ o, o ∈ l → o.t ∈ xs) (hx : xs.Nodup) (bxs : xs.length ≤ 65536) (hos : os = iops xs ys la) (hT : T = os.map (·.t)) (hml : ml = start T xs.length) (bos : os.length ≤ 65536) (hn1 : n1 = xs.length + 1) (bys : ys.length ≤ 65536) (hla : ∀ o, o ∈ la → o.t ∈ xs) (hly : ∀ o, o ∈ accs la → o.i ∈ ys)
    (hX0 : Blk w0 X0 75 vs0) (v01 : vs0[1]? = some (.slice a1 ys.length c1)) (v02 : vs0[2]? = some (.slice (some ⟨G0, 0, none⟩) os.length cO)) (v03 : vs0[3]? = some (.slice (some ⟨S0, 0, none⟩) n1 n1)) (v04 : vs0[4]? = some (.slice (some ⟨L0, 0, none⟩) ml ml))
    (hG0 : Row w0 G0 (ioCells (paired T I os))) (hS0 : Row w0 S0 (nats (starts T xs.length))) (hL0 : Row w0 L0 (nats (flat (pos T) xs.length))) (hA1 : At w0 a1 (strs ys))
    (hX : w0.heap.size ≤ X) (hPL : PL ≠ X) (hpb : pb ≠ X) (hxb : xb ≠ X) (hPN : PL < N) (hPN1 : w0.heap.size ≤ PL) (hN : w0.heap.size ≤ N) :
    CloOk l xs ys X w0.heap.size N 42 xb pb (J2 la l xs w0 X0 w0.heap.size PL pb xb (.slice a1 ys.length c1)) (¬ SameP la l xs) := by
  refine ⟨enters_of Yba.func42 (by kernel_rfl) rfl, fun q w v1 hq hac h => ?_, fun q w w' v1 h hc => ?_, fun w v1 h => ⟨⟨_, _, h.1⟩, fun o ho => ?_⟩, fun q w v1 vs hq hac hJ hXb hvl hv1 hNw => ?_⟩
  · obtain ⟨h1, h2, h3, h4, h5, h6⟩ := h
    refine ⟨h1, by rw [placed_no xs l q hq hac]; exact h2, h3, h4, h5, fun t ht => ?_⟩
    rw [progUp_no l t q hq (by rw [hac]; simp)]
    exact h6 t ht
  · have hw : w0.heap.size ≤ w.heap.size := by have := h.2.1.lt; omega
    exact h.calm hX hPL hpb hxb hPN hc hw
  · have hp := h.2.2.2.2.2 o.t (hl o (List.mem_filter.1 ho).1)
    have hin : (⟨o.k, 0, o.i⟩ : OpV) ∈ progUp l o.t l.length := by
      show _ ∈ progOf l o.t
      rw [progOf_eq]
      exact List.mem_map.2 ⟨o, List.mem_filter.2 ⟨ho, by simp⟩, rfl⟩
    have h2 := hp.mem hin
    rw [progOf_eq] at h2
    obtain ⟨o', ho', e⟩ := List.mem_map.1 h2
    have : o'.i = o.i := by simpa using congrArg OpV.i e
    rw [← this]
    exact hly o' (List.mem_filter.1 ho').1
  · have hmem : l.getD q default ∈ l := by rw [List.getD_eq_getElem?_getD, List.getElem?_eq_getElem hq]; simp
    exact clo42 la l xs ys w0 X0 X N PL pb xb q G0 cO S0 L0 ml n1 c1 _ a1 (l.getD q default) v1 vs vs0 os T I w hq bl hac rfl (hl _ hmem) hx bxs rfl hos hT hml bos hn1 bys hla hly hX0 v01 v02 v03 v04 hG0 hS0 hL0 hA1 hJ hXb hvl hv1 hPN hPN1

set_option maxRecDepth 20000 in
set_option maxHeartbeats 3200000 in
theorem like23 (X0 gs n cap : Nat) (la lb : List OpV) (xa : List Int) (ya : List ByteArray) (w : World) (hIx : IxAt w X0 la xa ya) (hTa : Tx la xa) (hly : ∀ o, o ∈ accs la → o.i ∈ ya) (bla : la.length ≤ 65536) (bya : ya.length ≤ 65536) (hn : lb.length = n) (bn : n ≤ 65536) (hS : Small lb) (hR : Row w gs (opCells lb)) :
    Calls Yba.prog 23 #[.pointer (some ⟨X0, 0, none⟩), .slice (some ⟨gs, 0, none⟩) n cap] w fun e w' => Below w.heap.size w w' ∧
      ((e = .returned (.tuple #[.pointer none, .bool false]) ∧ ¬ (Tx lb xa ∧ SameP la lb xa)) ∨
       (∃ X, e = .returned (.tuple #[.pointer (some ⟨X, 0, none⟩), .bool true]) ∧ Tx lb xa ∧ SameP la lb xa ∧ IxAt w' X lb xa ya)) := by
  obtain ⟨gT, cT, c1, G, cO, Sg, Lg, ml, Pg, E, n1, a1, abv, t9, t10, t11, os, T, I, hos, hT, hI, hn1, hX, hRT, hA1, hG, hml, hSg, hLg, hPg, hE, hAb, hNum⟩ := hIx
  have HR : Hid (Row w gs (opCells lb)) := hR
  have HL : Hid (lb.length = n) := hn
  have HS : Hid (Small lb) := hS
  have hgl := hR.lt
  have hb0 := blk_new w [.pointer (some ⟨X0, 0, none⟩)] 66
  have hnum := num_any gs n cap lb (w.alloc (.cells #[.pointer (some ⟨X0, 0, none⟩)] 66)) hn bn hS (hR.alloc _)
  clear hR hn hS
  go_enter Yba.func23, Yba.ntmps23
  go_wp2_with fail
  refine hnum.mono ?_
  clear hnum
  rintro e w2 ⟨gU, cU, n10, xs, z9, a10, b11, rfl, hgU, hTx, hxl, hRU, hNum2, hB2⟩
  -- K1
  have hup : ∀ b, b < w.heap.size → w2.heap[b]? = w.heap[b]? := fun b hb => (hB2.block b (by simp; omega)).trans (Below.heap_alloc _ _ _ hb)
  have hw2 : w.heap.size < w2.heap.size := by have := hB2.size; simp at this; omega
  have hX2 := hX.same (hup X0 hX.lt)
  have hb2 := hb0.below hB2 (by simp)
  have hRT2 := hRT.same (hup gT hRT.lt)
  have hG2 := hG.same (hup G hG.lt)
  have hSg2 := hSg.same (hup Sg hSg.lt)
  have hLg2 := hLg.same (hup Lg hLg.lt)
  have hA2 : At w2 a1 (strs ya) := fun h => by
    obtain ⟨g, e, hr⟩ := hA1 h
    exact ⟨g, e, hr.same (hup g hr.lt)⟩
  have hBw2 : Below w.heap.size w w2 := ((Below.refl _ w).alloc (Nat.le_refl _) _).trans (hB2.mono (by simp))
  have hR2 : Row w2 gs (opCells lb) := HR.out.below hBw2 hgl
  have HX2 : Hid (Blk w2 X0 75 (ixCells (.slice (some ⟨gT, 0, none⟩) xa.length cT) (.slice a1 ya.length c1) (.slice (some ⟨G, 0, none⟩) os.length cO) (.slice (some ⟨Sg, 0, none⟩) n1 n1) (.slice (some ⟨Lg, 0, none⟩) ml ml) (.int .i64 (cnt T I xa.length : Nat)) (.slice (some ⟨Pg, 0, none⟩) n1 n1) (.slice (some ⟨E, 0, none⟩) xa.length xa.length) abv t9 t10 t11)) := hX2
  have Hb2 : Hid (Blk w2 w.heap.size 66 [.pointer (some ⟨X0, 0, none⟩)]) := hb2
  have HRT2 : Hid (Row w2 gT (ints .i64 xa)) := hRT2
  have HG2 : Hid (Row w2 G (ioCells (paired T I os))) := hG2
  have HSg2 : Hid (Row w2 Sg (nats (starts T xa.length))) := hSg2
  have HLg2 : Hid (Row w2 Lg (nats (flat (pos T) xa.length))) := hLg2
  have HA2 : Hid (At w2 a1 (strs ya)) := hA2
  have HB2 : Hid (Below w.heap.size w w2) := hBw2
  have HR2 : Hid (Row w2 gs (opCells lb)) := hR2
  have HNUM : Hid (NumAt (w.heap.size + 1) w2 lb xs (.agg #[.int .i64 z9, .slice a10 n10 n10, .map b11])) := by
    have := hNum2
    rw [World.size_alloc] at this
    exact this
  have HTxb : Hid (Tx lb xs) := hTx
  have HTA : Hid (Tx la xa) := hTa
  have HOS : Hid (os = iops xa ya la) := hos
  have HTT : Hid (T = os.map (·.t)) := hT
  have HN1 : Hid (n1 = xa.length + 1) := hn1
  have HML : Hid (ml = start T xa.length) := hml
  have HLY : Hid (∀ o, o ∈ accs la → o.i ∈ ya) := hly
  have hxal : xa.length ≤ la.length := tx_len hTa
  have heq := equal24 (some ⟨gU, 0, none⟩) (some ⟨gT, 0, none⟩) xs.length xa.length cU cT xs xa (w2.alloc (.cells #[.int .i64 z9, .slice a10 n10 n10, .map b11] 73)) rfl rfl (by omega) (fun _ => ⟨gU, rfl, hRU.alloc _⟩) (fun _ => ⟨gT, rfl, hRT2.alloc _⟩)
  have hx0 : w2.cell? ⟨X0, 0, none⟩ = some (.slice (some ⟨gT, 0, none⟩) xa.length cT) := hX2.cell rfl
  have hx1 : w2.cell? ⟨X0, 1, none⟩ = some (.slice a1 ya.length c1) := hX2.cell rfl
  have hbx : w2.cell? ⟨w.heap.size, 0, none⟩ = some (.pointer (some ⟨X0, 0, none⟩)) := hb2.cell rfl
  have lX0 : X0 < w2.heap.size := hX2.lt
  clear hX2 hb2 hRT2 hG2 hSg2 hLg2 hA2 hBw2 hR2 hNum2 hTx hTa hos hT hI hn1 hml hly hX hRT hA1 hG hSg hLg hPg hE hAb hNum hb0 hRU hup hB2 HR
  obtain ⟨xb, hxb⟩ : ∃ xb, w.heap.size = xb := ⟨_, rfl⟩
  rw [hxb] at hbx hw2 Hb2
  rw [hxb]
  have HXB : Hid (w.heap.size = xb) := hxb
  clear hxb
  by_cases hxe : xs = xa
  · have hdec : decide (xs = xa) = true := by simpa using hxe
    rw [hdec] at heq
    have HXE : Hid (xs = xa) := hxe
    clear hxe hdec
    go_wp2_with fail
    refine heq.mono ?_
    clear heq
    rintro e w3 ⟨rfl, d, rfl⟩
    go_wp2_with fail
    go_region
    have hX4 : Blk ((((w2.alloc (.cells #[.int .i64 z9, .slice a10 n10 n10, .map b11] 73)).drewN (d + 1)).alloc (.cells #[.slice (some ⟨gT, 0, none⟩) xa.length cT, .slice a1 ya.length c1, .slice none 0 0, .slice none 0 0, .slice none 0 0, .int .i64 0, .slice none 0 0, .slice none 0 0, .slice none 0 0, .int .i64 z9, .slice a10 n10 n10, .map b11] 75))) (w2.heap.size + 1) 75 (ixCells (.slice (some ⟨gT, 0, none⟩) xa.length cT) (.slice a1 ya.length c1) (.slice none 0 0) (.slice none 0 0) (.slice none 0 0) (.int .i64 0) (.slice none 0 0) (.slice none 0 0) (.slice none 0 0) (.int .i64 z9) (.slice a10 n10 n10) (.map b11)) := by
      have := blk_new ((w2.alloc (.cells #[.int .i64 z9, .slice a10 n10 n10, .map b11] 73)).drewN (d + 1)) (ixCells (.slice (some ⟨gT, 0, none⟩) xa.length cT) (.slice a1 ya.length c1) (.slice none 0 0) (.slice none 0 0) (.slice none 0 0) (.int .i64 0) (.slice none 0 0) (.slice none 0 0) (.slice none 0 0) (.int .i64 z9) (.slice a10 n10 n10) (.map b11)) 75
      have e : ((w2.alloc (.cells #[.int .i64 z9, .slice a10 n10 n10, .map b11] 73)).drewN (d + 1)).heap.size = w2.heap.size + 1 := by simp [World.drewN]
      rw [e] at this
      exact this
    have hup4 : ∀ b, b < w2.heap.size → ((((w2.alloc (.cells #[.int .i64 z9, .slice a10 n10 n10, .map b11] 73)).drewN (d + 1)).alloc (.cells #[.slice (some ⟨gT, 0, none⟩) xa.length cT, .slice a1 ya.length c1, .slice none 0 0, .slice none 0 0, .slice none 0 0, .int .i64 0, .slice none 0 0, .slice none 0 0, .slice none 0 0, .int .i64 z9, .slice a10 n10 n10, .map b11] 75))).heap[b]? = w2.heap[b]? := fun b hb => by
      rw [Below.heap_alloc _ _ _ (by simp [World.drewN]; omega)]
      exact Below.heap_alloc w2 (.cells #[.int .i64 z9, .slice a10 n10 n10, .map b11] 73) b hb
    have hs4 : ((((w2.alloc (.cells #[.int .i64 z9, .slice a10 n10 n10, .map b11] 73)).drewN (d + 1)).alloc (.cells #[.slice (some ⟨gT, 0, none⟩) xa.length cT, .slice a1 ya.length c1, .slice none 0 0, .slice none 0 0, .slice none 0 0, .int .i64 0, .slice none 0 0, .slice none 0 0, .slice none 0 0, .int .i64 z9, .slice a10 n10 n10, .map b11] 75))).heap.size = w2.heap.size + 2 := by simp [World.drewN]
    have hB4 : Below w.heap.size w ((((w2.alloc (.cells #[.int .i64 z9, .slice a10 n10 n10, .map b11] 73)).drewN (d + 1)).alloc (.cells #[.slice (some ⟨gT, 0, none⟩) xa.length cT, .slice a1 ya.length c1, .slice none 0 0, .slice none 0 0, .slice none 0 0, .int .i64 0, .slice none 0 0, .slice none 0 0, .slice none 0 0, .int .i64 z9, .slice a10 n10 n10, .map b11] 75))) := (below_drewN (HB2.out.alloc (by rw [HXB.out]; omega) _) _).alloc (by rw [HXB.out]; simp [World.drewN]; omega) _
    obtain ⟨W4, hW4⟩ : ∃ W4, ((((w2.alloc (.cells #[.int .i64 z9, .slice a10 n10 n10, .map b11] 73)).drewN (d + 1)).alloc (.cells #[.slice (some ⟨gT, 0, none⟩) xa.length cT, .slice a1 ya.length c1, .slice none 0 0, .slice none 0 0, .slice none 0 0, .int .i64 0, .slice none 0 0, .slice none 0 0, .slice none 0 0, .int .i64 z9, .slice a10 n10 n10, .map b11] 75))) = W4 := ⟨_, rfl⟩
    rw [hW4] at hX4 hup4 hs4 hB4 ⊢
    obtain ⟨X, hXe⟩ : ∃ X, w2.heap.size + 1 = X := ⟨_, rfl⟩
    rw [hXe] at hX4 ⊢
    have hxx := HXE.out
    have y0 : W4.cell? ⟨X0, 0, none⟩ = some (.slice (some ⟨gT, 0, none⟩) xa.length cT) := (HX2.out.same (hup4 X0 lX0)).cell rfl
    have yb : W4.cell? ⟨xb, 0, none⟩ = some (.pointer (some ⟨X0, 0, none⟩)) := (Hb2.out.same (hup4 xb hw2)).cell rfl
    have lX04 : X0 < W4.heap.size := by omega
    have lxb4 : xb < W4.heap.size := by omega
    have hmk : ∀ wx : World, (Instr.makeSlice 41 (.int .i64 (xa.length : Int)) (.int .i64 (xa.length : Int))).run Yba.prog wx = .ok (.slice (some ⟨wx.heap.size, 0, none⟩) xa.length xa.length) (wx.alloc (.cells (madeCells #[.int .i64 0] xa.length) 3)) := fun wx => run_make_row' (P := Yba.prog) 41 3 (.int .i64 0) 8 Yba.underlying41 Yba.inf3 rfl .i64 .i64 xa.length (by omega) (by omega) wx
    have hX6 := (hX4.alloc (.cells (madeCells #[.int .i64 0] xa.length) 3)).alloc (.cells #[.slice (some ⟨W4.heap.size, 0, none⟩) xa.length xa.length] 41)
    have hPL6 := (blk_made W4 (.int .i64 0) xa.length 3).alloc (.cells #[.slice (some ⟨W4.heap.size, 0, none⟩) xa.length xa.length] 41)
    have hpb6 := blk_new (W4.alloc (.cells (madeCells #[.int .i64 0] xa.length) 3)) [.slice (some ⟨W4.heap.size, 0, none⟩) xa.length xa.length] 41
    rw [World.size_alloc] at hpb6
    have hxb6 := ((Hb2.out.same (hup4 xb hw2)).alloc (.cells (madeCells #[.int .i64 0] xa.length) 3)).alloc (.cells #[.slice (some ⟨W4.heap.size, 0, none⟩) xa.length xa.length] 41)
    have hup6 : ∀ b, b < w2.heap.size → ((W4.alloc (.cells (madeCells #[.int .i64 0] xa.length) 3)).alloc (.cells #[.slice (some ⟨W4.heap.size, 0, none⟩) xa.length xa.length] 41)).heap[b]? = w2.heap[b]? := fun b hb => by
      rw [Below.heap_alloc _ _ _ (by simp; omega), Below.heap_alloc _ _ _ (by omega), hup4 b hb]
    have hs6 : ((W4.alloc (.cells (madeCells #[.int .i64 0] xa.length) 3)).alloc (.cells #[.slice (some ⟨W4.heap.size, 0, none⟩) xa.length xa.length] 41)).heap.size = W4.heap.size + 2 := by simp
    have hB6 : Below w.heap.size w ((W4.alloc (.cells (madeCells #[.int .i64 0] xa.length) 3)).alloc (.cells #[.slice (some ⟨W4.heap.size, 0, none⟩) xa.length xa.length] 41)) := (hB4.alloc (by rw [HXB.out]; omega) _).alloc (by rw [HXB.out]; simp; omega) _
    have hpl0 : nats (placed xa lb 0) = List.replicate xa.length (.int .i64 0) := by
      rw [← nats_zero]
      congr 1
      simp [placed, progUp_zero, List.map_const']
    have hJ6 : J2 la lb xa w2 X0 w2.heap.size W4.heap.size (W4.heap.size + 1) xb (.slice a1 ya.length c1) 0 ((W4.alloc (.cells (madeCells #[.int .i64 0] xa.length) 3)).alloc (.cells #[.slice (some ⟨W4.heap.size, 0, none⟩) xa.length xa.length] 41)) (.slice a1 ya.length c1) := ⟨rfl, by rw [hpl0]; exact hPL6, hpb6, hxb6, hup6, fun t _ => List.nil_prefix⟩
    have hTb : Tx lb xa := by rw [← hxx]; exact HTxb.out
    have hmemb : ∀ o, o ∈ lb → o.t ∈ xa := fun o ho => (hTb.2 _).2 ⟨o, ho, rfl⟩
    have hmema : ∀ o, o ∈ la → o.t ∈ xa := fun o ho => (HTA.out.2 _).2 ⟨o, ho, rfl⟩
    have hnd : xa.Nodup := HTA.out.1.imp (fun h => by omega)
    have bos : os.length ≤ 65536 := by rw [HOS.out, iops_len]; exact Nat.le_trans (List.length_filter_le _ _) bla
    have hclo := clo2_ok la lb xa ya w2 X0 X ((W4.alloc (.cells (madeCells #[.int .i64 0] xa.length) 3)).alloc (.cells #[.slice (some ⟨W4.heap.size, 0, none⟩) xa.length xa.length] 41)).heap.size W4.heap.size (W4.heap.size + 1) xb G cO Sg Lg ml n1 c1 a1 (ixCells (.slice (some ⟨gT, 0, none⟩) xa.length cT) (.slice a1 ya.length c1) (.slice (some ⟨G, 0, none⟩) os.length cO) (.slice (some ⟨Sg, 0, none⟩) n1 n1) (.slice (some ⟨Lg, 0, none⟩) ml ml) (.int .i64 (cnt T I xa.length : Nat)) (.slice (some ⟨Pg, 0, none⟩) n1 n1) (.slice (some ⟨E, 0, none⟩) xa.length xa.length) abv t9 t10 t11) os T I (by rw [HL.out]; exact bn) hmemb hnd (by omega) HOS.out HTT.out HML.out bos HN1.out bya hmema HLY.out HX2.out rfl rfl rfl rfl HG2.out HSg2.out HLg2.out HA2.out (by omega) (by omega) (by omega) (by omega) (by rw [hs6]; omega) (by omega) (by rw [hs6]; omega)
    obtain ⟨os', hos'⟩ : ∃ os', os' = iops xa ya lb := ⟨_, rfl⟩
    obtain ⟨T', hT'⟩ : ∃ T', T' = os'.map (·.t) := ⟨_, rfl⟩
    obtain ⟨I', hI'⟩ : ∃ I', I' = os'.map (·.x) := ⟨_, rfl⟩
    have hgs2 : gs < w2.heap.size := HR2.out.lt
    have hops := ops40 X w2.heap.size gs n cap xa.length n1 42 xb (W4.heap.size + 1) cT lb xa ya (.int .i64 z9) (.slice a10 n10 n10) (.map b11) (.slice a1 ya.length c1) (some ⟨gT, 0, none⟩) _ (¬ SameP la lb xa) os' T' I' ((W4.alloc (.cells (madeCells #[.int .i64 0] xa.length) 3)).alloc (.cells #[.slice (some ⟨W4.heap.size, 0, none⟩) xa.length xa.length] 41)) HL.out bn rfl (by omega) HN1.out bya hos' hT' hI' hX6 (HR2.out.same (hup6 gs hgs2)) hgs2 (by omega) (by rw [hs6]; omega) (fun w' hs => by
      have h1 := HNUM.out
      rw [hxx] at h1
      exact (h1.kept (Nat.le_refl _) fun b hb hlt => (hs b hlt (by omega)).trans (hup6 b hlt)).mono (Nat.zero_le _)) hTb HS.out hJ6 hclo
    have HS4 : Hid (W4.heap.size = w2.heap.size + 2) := hs4
    have HS6 : Hid (((W4.alloc (.cells (madeCells #[.int .i64 0] xa.length) 3)).alloc (.cells #[.slice (some ⟨W4.heap.size, 0, none⟩) xa.length xa.length] 41)).heap.size = W4.heap.size + 2) := hs6
    have HXW : Hid (w2.heap.size + 1 = X) := hXe
    have HUP6 : Hid (∀ b, b < w2.heap.size → ((W4.alloc (.cells (madeCells #[.int .i64 0] xa.length) 3)).alloc (.cells #[.slice (some ⟨W4.heap.size, 0, none⟩) xa.length xa.length] 41)).heap[b]? = w2.heap[b]?) := hup6
    have HB6 : Hid (Below w.heap.size w ((W4.alloc (.cells (madeCells #[.int .i64 0] xa.length) 3)).alloc (.cells #[.slice (some ⟨W4.heap.size, 0, none⟩) xa.length xa.length] 41))) := hB6
    have HOS' : Hid (os' = iops xa ya lb) := hos'
    have HTT' : Hid (T' = os'.map (·.t)) := hT'
    have HII' : Hid (I' = os'.map (·.x)) := hI'
    have HTb : Hid (Tx lb xa) := hTb
    have HMA : Hid (∀ o, o ∈ la → o.t ∈ xa) := hmema
    have HMB : Hid (∀ o, o ∈ lb → o.t ∈ xa) := hmemb
    have HND : Hid (xa.Nodup) := hnd
    clear hX6 hPL6 hpb6 hxb6 hJ6 hclo hpl0 hs4 hs6 hXe hxx hos' hT' hI' hup6 hup4 hB6 hTb hmema hmemb hnd hW4
    go_wp2_with fail
    refine hops.mono ?_
    clear hops hmk y0 yb hx0 hx1 hbx
    rintro e w7 ⟨hO7, (⟨rfl, v1', G', cO', Sg', Lg', ml', Pg', E', abv', hJ7, hX7, hG7, hml7, hS7, hL7, hP7, hE7, hA7⟩ | ⟨rfl, hbad⟩)⟩
    · obtain ⟨hv7, _, _, hxb7, hsm7, hpre7⟩ := hJ7
      subst hv7
      have HB7 : Hid (Below w.heap.size w w7) := HB6.out.trans (hO7.toBelow (by rw [HXB.out, HS6.out, HS4.out]; omega) (by rw [HXB.out]; rintro b (h | h) <;> (have := HXW.out; omega)))
      have z2 : w7.cell? ⟨X, 2, none⟩ = some (.slice (some ⟨G', 0, none⟩) os'.length cO') := hX7.cell rfl
      have zb : w7.cell? ⟨xb, 0, none⟩ = some (.pointer (some ⟨X0, 0, none⟩)) := hxb7.cell rfl
      have z02 : w7.cell? ⟨X0, 2, none⟩ = some (.slice (some ⟨G, 0, none⟩) os.length cO) := (HX2.out.same (hsm7 X0 lX0)).cell rfl
      have hl1 : os'.length = (accs lb).length := by rw [HOS'.out, iops_len]
      have hl2 : os.length = (accs la).length := by rw [HOS.out, iops_len]
      have HNUM7 : Hid (NumAt 0 w7 lb xa (.agg #[.int .i64 z9, .slice a10 n10 n10, .map b11])) := by
        have h1 := HNUM.out
        rw [HXE.out] at h1
        exact (h1.kept (Nat.le_refl _) fun b hb hlt => hsm7 b hlt).mono (Nat.zero_le _)
      by_cases hle : os'.length = os.length
      · have HSP : Hid (SameP la lb xa) := progs_same xa HND.out la lb HMA.out HMB.out (fun t ht => by have := hpre7 t ht; rw [← HL.out] at this; exact this) (by rw [← hl1, ← hl2, hle])
        have HIX : Hid (IxAt w7 X lb xa ya) := by
          show IxAt _ _ _ _ _
          refine ⟨gT, cT, c1, G', cO', Sg', Lg', ml', Pg', E', n1, a1, abv', .int .i64 z9, .slice a10 n10 n10, .map b11, os', T', I', HOS'.out, HTT'.out, HII'.out, HN1.out, hX7, HRT2.out.same (hsm7 gT HRT2.out.lt), fun h => ?_, hG7, hml7, hS7, hL7, hP7, ?_, ?_, HNUM7.out⟩
          · obtain ⟨g, e, hr⟩ := HA2.out h
            exact ⟨g, e, hr.same (hsm7 g hr.lt)⟩
          · rw [HL.out]; exact hE7
          · rw [HL.out]
            cases hb : absUp xa lb n with
            | none => rw [hb] at hA7; exact hA7
            | some bs => rw [hb] at hA7; obtain ⟨g, e, _, h2⟩ := hA7; exact ⟨g, e, Nat.zero_le _, h2⟩
        have hli : (os'.length : Int) = (os.length : Int) := by omega
        have hlb : ((os'.length : Int) != (os.length : Int)) = false := by simp; omega
        clear hX7 hG7 hml7 hS7 hL7 hP7 hE7 hA7 hO7 hxb7 hsm7 hpre7 hl1 hl2 hle
        go_wp2_with fail
        go_quiet (fail)
        go_wp2_with fail
        refine bodyPost_ret (v := .tuple #[.pointer (some ⟨X, 0, none⟩), .bool true]) (by simp [results, Yba.results23, go_sem]) rfl ?_
        exact ⟨below_drewN HB7.out _, .inr ⟨X, rfl, HTb.out, HSP.out, HIX.out⟩⟩
      · have HNS : Hid (¬ SameP la lb xa) := fun h => hle (by
          rw [hl1, hl2, ← accs_sum xa HND.out lb HMB.out, ← accs_sum xa HND.out la HMA.out]
          congr 1
          apply List.map_congr_left
          intro t ht
          rw [h t ht])
        have hli : ¬ (os'.length : Int) = (os.length : Int) := by omega
        have hlb : ((os'.length : Int) != (os.length : Int)) = true := by simp; omega
        clear hX7 hG7 hml7 hS7 hL7 hP7 hE7 hA7 hO7 hxb7 hsm7 hpre7 hl1 hl2 hle
        go_wp2_with fail
        go_quiet (fail)
        go_wp2_with fail
        refine bodyPost_ret (v := .tuple #[.pointer none, .bool false]) (by simp [results, Yba.results23, go_sem]) rfl ?_
        exact ⟨below_drewN HB7.out _, .inl ⟨rfl, fun h => HNS.out h.2⟩⟩
    · have HB7 : Hid (Below w.heap.size w w7) := HB6.out.trans (hO7.toBelow (by rw [HXB.out, HS6.out, HS4.out]; omega) (by rw [HXB.out]; rintro b (h | h) <;> (have := HXW.out; omega)))
      clear hO7
      go_wp2_with fail
      go_quiet (fail)
      go_wp2_with fail
      refine bodyPost_ret (v := .tuple #[.pointer none, .bool false]) (by simp [results, Yba.results23, go_sem]) rfl ?_
      exact ⟨below_drewN HB7.out _, .inl ⟨rfl, fun h => hbad h.2⟩⟩
  · have hdec : decide (xs = xa) = false := by simpa using hxe
    rw [hdec] at heq
    have HNO : Hid (¬ (Tx lb xa ∧ SameP la lb xa)) := fun h => hxe (HTxb.out.unique h.1)
    clear hxe hdec
    go_wp2_with fail
    refine heq.mono ?_
    clear heq
    rintro e w3 ⟨rfl, d, rfl⟩
    go_wp2_with fail
    refine bodyPost_ret (v := .tuple #[.pointer none, .bool false]) (by simp [results, Yba.results23, go_sem]) rfl ?_
    exact ⟨below_drewN (HB2.out.alloc (by rw [HXB.out]; omega) _) _, .inl ⟨rfl, HNO.out⟩⟩
end Go.Proofs.Ybulkebqk
