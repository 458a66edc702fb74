/-
  The contract of zzs6406bqueue: one level (up to 64 indices), two levels (up to 130).
-/
import Derived.Test.YbulkebqkPush
namespace Go.Proofs.Ybulkebqk
open Go.RowKit
set_option linter.unusedVariables false

theorem Yba.info23 : (Yba.prog.info? 23).map (fun i => (i.zero, i.size, i.bytes)) = some (some (.slice none 0 0), 1, 24) := by kernel_rfl

/-- Bools as cells. -/
def bools (bs : List Bool) : List Value := bs.map Value.bool
theorem bools_at (bs : List Bool) (i : Nat) (h : i < bs.length) : (bools bs)[i]? = some (.bool (bs.getD i false)) := by
  simp [bools, List.getElem?_map, List.getElem?_eq_getElem h, List.getD_eq_getElem?_getD]

/-- The lowest level behind k indices; the level above it. -/
def L0 (st : List Bool) (n : Nat) : Nat → List Int
  | 0 => List.replicate n 0
  | k + 1 => if st.getD k false then (L0 st n k).set (k / 64) (bits .or .u64 ((L0 st n k).getD (k / 64) 0) (bt (k % 64))) else L0 st n k
def L1 (st : List Bool) : Nat → Int
  | 0 => 0
  | k + 1 => if st.getD k false then bits .or .u64 (L1 st k) (bt (k / 64)) else L1 st k
theorem L0_len (st : List Bool) (n k : Nat) : (L0 st n k).length = n := by
  induction k with
  | zero => simp [L0]
  | succ k ih => unfold L0; split <;> simp [ih]

theorem L0_yes {st : List Bool} {n k : Nat} (h : st.getD k false = true) : L0 st n (k + 1) = (L0 st n k).set (k / 64) (bits .or .u64 ((L0 st n k).getD (k / 64) 0) (bt (k % 64))) := by rw [L0, if_pos h]
theorem L0_no {st : List Bool} {n k : Nat} (h : st.getD k false = false) : L0 st n (k + 1) = L0 st n k := by rw [L0, if_neg (by rw [h]; decide)]
theorem L1_yes {st : List Bool} {k : Nat} (h : st.getD k false = true) : L1 st (k + 1) = bits .or .u64 (L1 st k) (bt (k / 64)) := by rw [L1, if_pos h]
theorem L1_no {st : List Bool} {k : Nat} (h : st.getD k false = false) : L1 st (k + 1) = L1 st k := by rw [L1, if_neg (by rw [h]; decide)]

theorem news1 (W : World) (H : Nat) (hH : W.heap.size = H) (x : Value) (t : TypeId) : ∀ j u, [x][j]? = some u → (W.alloc (.cells #[x] t)).cell? ((⟨H, 0, none⟩ : Addr).add j) = some u := by
  subst hH
  exact World.news_of_block (MapKept.heap_alloc W _).1
theorem row_new (W : World) (c : Array Value) (t : TypeId) : Row (W.alloc (.cells c t)) W.heap.size c.toList := row_block (MapKept.heap_alloc W _).1

/-- What the queue's maker leaves: one level. -/
def Q1 (w : World) (st : List Bool) (m : Nat) (e : Ending) (w' : World) : Prop :=
  ∃ gl g0 cap, e = .returned (.agg #[.slice (some ⟨gl, 0, none⟩) 1 cap]) ∧ w.heap.size ≤ gl ∧ w.heap.size ≤ g0 ∧ g0 ≠ gl ∧ Row w' gl [.slice (some ⟨g0, 0, none⟩) 1 1] ∧ Row w' g0 (ints .u64 (L0 st 1 m)) ∧ Below w.heap.size w w'

set_option maxHeartbeats 1000000 in
set_option maxRecDepth 10000 in
theorem queue1 (m gs capS : Nat) (st : List Bool) (w : World) (hm1 : 1 ≤ (m : Int)) (hm : (m : Int) ≤ 64) (hst : st.length = m) (hS : Row w gs (bools st)) :
    Calls Yba.prog 9 #[.int .i64 m, .slice (some ⟨gs, 0, none⟩) m capS] w fun e w' => Q1 w st m e w' := by
  obtain ⟨i0, hi, hz0, hz1, hz2⟩ := info_parts Yba.info23
  have e1 : ((m : Int) + 63) / 64 = 1 := by omega
  have hmk : ∀ wx : World, (Instr.makeSlice 23 (.int .i64 1) (.int .i64 1)).run Yba.prog wx = .ok (.slice (some ⟨wx.heap.size, 0, none⟩) 1 1) (wx.alloc (.cells (madeCells #[.int .u64 0] 1) 26)) :=
    fun wx => run_make_row' (P := Yba.prog) 23 26 (.int .u64 0) 8 Yba.underlying23 Yba.info26 rfl .i64 .i64 1 (by omega) (by omega) wx
  go_enter Yba.func9, Yba.ntmps9
  go_wp2
  refine wp_loop_rounds 1 ?_
  rw [rounds_succ]
  go_wp2_with (at_builtin; refine wpList_append_lies _ (by rfl) (.tmp 17) (.tmp 20) 34 (by rfl) w.heap.size 23 i0 (.slice none 0 0) 1 24 Yba.underlying34 hi hz0 hz1 hz2 rfl (by decide) (.slice none 0 0) 0 [] (by rfl) (World.ownsRow_nil _ _ _ _) ⟨w.heap.size + 2, 0, none⟩ 1 1 [.slice (some ⟨w.heap.size + 1, 0, none⟩) 1 1] (by rfl) rfl (news1 _ _ (by simp) _ _) (by intro u hu; simp at hu; subst hu; rfl) (by decide) (by unfold maxLen; omega) (by omega) (by simp; omega) (w.heap.size + 3) (by simp) ?_; intro gl cap w1 hown hgrow hat hlt)
  have hgl : gl = w.heap.size + 3 := by rcases hat with h | h; cases h; exact h
  have hR0 := row_new w #[.slice none 0 0] 36
  have hRR : Row w1 w.heap.size [.slice none 0 0] := ((hR0.alloc _).alloc _).grown hgrow (by simp [Value.ownBlock])
  have hR1 : Row w1 (w.heap.size + 1) (ints .u64 (L0 st 1 0)) := by
    have h := row_made (w.alloc (.cells #[.slice none 0 0] 36)) (.int .u64 0) 1 26
    simp only [World.size_alloc] at h
    exact (h.alloc _).grown hgrow (by simp [Value.ownBlock])
  have hRl : Row w1 gl [.slice (some ⟨w.heap.size + 1, 0, none⟩) 1 1] := row_owned (by simpa using hown)
  have hB : Below w.heap.size w w1 := ((((Below.refl _ _).alloc (Nat.le_refl _) _).alloc (by simp) _).alloc (by simp; omega) _).grown hgrow (by simp; omega) (by intro k hk; cases hk)
  have hgl2 : w.heap.size + 2 ≤ gl := by omega
  clear hown hgrow hat hmk hlt hgl
  go_loopw [8] (fun i wr => ∃ k : Nat, k ≤ m ∧ i = .int .i64 k ∧ Row wr gl [.slice (some ⟨w.heap.size + 1, 0, none⟩) 1 1] ∧ Row wr (w.heap.size + 1) (ints .u64 (L0 st 1 k)) ∧ Row wr w.heap.size [.slice none 0 0] ∧ Below w.heap.size w wr) (fun i _ => m - (intOf i).toNat)
  case atStart => exact ⟨0, Nat.zero_le _, rfl, hRl, hR1, hRR, hB⟩
  case round =>
    clear hRl hR1 hRR hB
    obtain ⟨k, hk, rfl, hRl, hR1, hRR, hB⟩ := hrel
    have cl : wr.cell? ⟨gl, 0, none⟩ = some (.slice (some ⟨w.heap.size + 1, 0, none⟩) 1 1) := hRl.cell rfl
    have hlen := L0_len st 1 k
    have cx : wr.cell? ⟨w.heap.size + 1, 0, none⟩ = some (.int .u64 ((L0 st 1 k).getD 0 0)) := hR1.cell (ints_at _ _ _ (by omega))
    have fx := hR1.frozen 0
    have cR : wr.cell? ⟨w.heap.size, 0, none⟩ = some (.slice none 0 0) := hRR.cell rfl
    have fR := hRR.frozen 0
    have HRl : Hid (Row wr gl [.slice (some ⟨w.heap.size + 1, 0, none⟩) 1 1]) := hRl
    have HR1 : Hid (Row wr (w.heap.size + 1) (ints .u64 (L0 st 1 k))) := hR1
    have HRR : Hid (Row wr w.heap.size [.slice none 0 0]) := hRR
    have HLen : Hid ((L0 st 1 k).length = 1) := hlen
    obtain ⟨x, hx⟩ : ∃ x, x = (L0 st 1 k).getD 0 0 := ⟨_, rfl⟩
    rw [← hx] at cx
    have HX : Hid (x = (L0 st 1 k).getD 0 0) := hx
    clear hRl hR1 hRR hlen hx
    by_cases hlt : k < m
    · have hb : wr.cell? ⟨gs, k, none⟩ = some (.bool (st.getD k false)) := (hB.cell (p := ⟨gs, k, none⟩) hS.lt).trans (hS.cell (bools_at _ _ (by omega)))
      cases hv : st.getD k false with
      | false =>
        rw [hv] at hb
        have HV : Hid (st.getD k false = false) := hv
        clear hv
        go_wp2
        go_roundw
        case rel => exact ⟨k + 1, by omega, by go_num, HRl.out, by rw [L0_no HV.out]; exact HR1.out, HRR.out, hB⟩
        case measure => simp [intOf]; omega
      | true =>
        rw [hv] at hb
        have HV : Hid (st.getD k false = true) := hv
        clear hv
        obtain ⟨r, hr⟩ : ∃ r, r = k % 64 := ⟨_, rfl⟩
        obtain ⟨d1, d2, d3, d4⟩ := divs k 0 r (by omega) hr.symm
        have hr64 : r < 64 := by omega
        have HRr : Hid (r = k % 64) := hr
        clear hr
        go_wp2
        refine wp_loop_rounds 2 ?_
        rw [rounds_succ]
        go_wp2
        go_region
        go_wp2
        rw [rounds_succ]
        go_wp2
        go_roundw
        case rel =>
          refine ⟨k + 1, by omega, by go_num, HRl.out.other _ _ (by simp; omega), ?_, HRR.out.other _ _ (by simp), (hB.setCell (by simp) _).drew⟩
          have hs := HR1.out.set 0 (.int .u64 (bits .or .u64 x (bt r)))
          rw [ints_set] at hs
          rw [L0_yes HV.out, show k / 64 = 0 by omega, ← HX.out, ← HRr.out]
          exact hs
        case measure => simp [intOf]; omega
    · go_wp2
      refine bodyPost_ret (v := .agg #[.slice (some ⟨gl, 0, none⟩) 1 cap]) (by simp [results, Yba.results9, go_sem, *]) rfl ?_
      refine ⟨gl, w.heap.size + 1, cap, rfl, by omega, by omega, by omega, HRl.out.other _ _ (by simp; omega), ?_, hB.setCell (by simp) _⟩
      rw [show m = k by omega]
      exact HR1.out.other _ _ (by simp)
/-- What the queue's maker leaves: two levels. -/
def Q2 (w : World) (st : List Bool) (n0 m : Nat) (e : Ending) (w' : World) : Prop :=
  ∃ gl g0 g1 cap, e = .returned (.agg #[.slice (some ⟨gl, 0, none⟩) 2 cap]) ∧ w.heap.size ≤ gl ∧ w.heap.size ≤ g0 ∧ w.heap.size ≤ g1 ∧ g0 ≠ gl ∧ g1 ≠ gl ∧ g0 ≠ g1 ∧ Row w' gl [.slice (some ⟨g0, 0, none⟩) n0 n0, .slice (some ⟨g1, 0, none⟩) 1 1] ∧ Row w' g0 (ints .u64 (L0 st n0 m)) ∧ Row w' g1 (ints .u64 [L1 st m]) ∧ Below w.heap.size w w'

set_option maxHeartbeats 1000000 in
set_option maxRecDepth 10000 in
theorem queue2 (m gs capS : Nat) (st : List Bool) (w : World) (n0 : Nat) (hm1 : 65 ≤ (m : Int)) (hm : (m : Int) ≤ 130) (e1 : ((m : Int) + 63) / 64 = (n0 : Int)) (hn2 : 2 ≤ (n0 : Int)) (hn3 : (n0 : Int) ≤ 3) (hst : st.length = m) (hS : Row w gs (bools st)) :
    Calls Yba.prog 9 #[.int .i64 m, .slice (some ⟨gs, 0, none⟩) m capS] w fun e w' => Q2 w st n0 m e w' := by
  obtain ⟨i0, hi, hz0, hz1, hz2⟩ := info_parts Yba.info23
  have e2 : ((n0 : Int) + 63) / 64 = 1 := by omega
  have hmk0 : ∀ wx : World, (Instr.makeSlice 23 (.int .i64 (n0 : Int)) (.int .i64 (n0 : Int))).run Yba.prog wx = .ok (.slice (some ⟨wx.heap.size, 0, none⟩) n0 n0) (wx.alloc (.cells (madeCells #[.int .u64 0] n0) 26)) :=
    fun wx => run_make_row' (P := Yba.prog) 23 26 (.int .u64 0) 8 Yba.underlying23 Yba.info26 rfl .i64 .i64 n0 (by omega) (by omega) wx
  have hmk : ∀ wx : World, (Instr.makeSlice 23 (.int .i64 1) (.int .i64 1)).run Yba.prog wx = .ok (.slice (some ⟨wx.heap.size, 0, none⟩) 1 1) (wx.alloc (.cells (madeCells #[.int .u64 0] 1) 26)) :=
    fun wx => run_make_row' (P := Yba.prog) 23 26 (.int .u64 0) 8 Yba.underlying23 Yba.info26 rfl .i64 .i64 1 (by omega) (by omega) wx
  go_enter Yba.func9, Yba.ntmps9
  go_wp2
  refine wp_loop_rounds 2 ?_
  rw [rounds_succ]
  go_wp2_with (at_builtin; refine wpList_append_lies _ (by rfl) (.tmp 17) (.tmp 20) 34 (by rfl) w.heap.size 23 i0 (.slice none 0 0) 1 24 Yba.underlying34 hi hz0 hz1 hz2 rfl (by decide) (.slice none 0 0) 0 [] (by rfl) (World.ownsRow_nil _ _ _ _) ⟨w.heap.size + 2, 0, none⟩ 1 1 [.slice (some ⟨w.heap.size + 1, 0, none⟩) n0 n0] (by rfl) rfl (news1 _ _ (by simp) _ _) (by intro u hu; simp at hu; subst hu; rfl) (by decide) (by unfold maxLen; omega) (by omega) (by simp; omega) (w.heap.size + 3) (by simp) ?_; intro gA capA w1 hown hgrow hat hlt)
  have hgA : gA = w.heap.size + 3 := by rcases hat with h | h; cases h; exact h
  have hgA2 : w.heap.size + 2 ≤ gA := by omega
  have hR0 := row_new w #[.slice none 0 0] 36
  have hRR1 : Row w1 w.heap.size [.slice none 0 0] := ((hR0.alloc _).alloc _).grown hgrow (by simp [Value.ownBlock])
  have hR11 : Row w1 (w.heap.size + 1) (ints .u64 (L0 st n0 0)) := by
    have h := row_made (w.alloc (.cells #[.slice none 0 0] 36)) (.int .u64 0) n0 26
    simp only [World.size_alloc] at h
    have h' := (h.alloc (.cells #[.slice (some ⟨w.heap.size + 1, 0, none⟩) n0 n0] 23)).grown hgrow (by simp [Value.ownBlock])
    simpa [ints, L0] using h'
  have hB1 : Below w.heap.size w w1 := ((((Below.refl _ _).alloc (Nat.le_refl _) _).alloc (by simp) _).alloc (by simp; omega) _).grown hgrow (by simp; omega) (by intro k hk; cases hk)
  have ho1 : w1.ownsRow w.heap.size 23 1 (.slice (some ⟨gA, 0, none⟩) 1 capA) 1 [.slice (some ⟨w.heap.size + 1, 0, none⟩) n0 n0] := by simpa using hown
  have HO : Hid (w1.ownsRow w.heap.size 23 1 (.slice (some ⟨gA, 0, none⟩) 1 capA) 1 [.slice (some ⟨w.heap.size + 1, 0, none⟩) n0 n0]) := ho1
  have HE : Hid (((m : Int) + 63) / 64 = (n0 : Int)) := e1
  have HRR1 : Hid (Row w1 w.heap.size [.slice none 0 0]) := hRR1
  have HR11 : Hid (Row w1 (w.heap.size + 1) (ints .u64 (L0 st n0 0))) := hR11
  have HGA : Hid (gA = w.heap.size + 3) := hgA
  clear hown ho1 hgrow hat hR0 hRR1 hR11 hmk0 hgA e1
  rw [rounds_succ]
  go_wp2_with (at_builtin; refine wpList_append_lies _ (by rfl) (.tmp 17) (.tmp 20) 34 (by rfl) w.heap.size 23 i0 (.slice none 0 0) 1 24 Yba.underlying34 hi hz0 hz1 hz2 rfl (by decide) (.slice (some ⟨gA, 0, none⟩) 1 capA) 1 [.slice (some ⟨w.heap.size + 1, 0, none⟩) n0 n0] (by rfl) ((HO.out.alloc _).alloc _) ⟨w1.heap.size + 1, 0, none⟩ 1 1 [.slice (some ⟨w1.heap.size, 0, none⟩) 1 1] (by rfl) rfl (news1 _ _ (by simp) _ _) (by intro u hu; simp at hu; subst hu; rfl) (by decide) (by unfold maxLen; omega) (by omega) (by simp; omega) (w1.heap.size + 2) (by simp) ?_; intro gl cap w2 hown hgrow hat hlt2)
  have hglc : gl = gA ∨ gl = w1.heap.size + 2 := by rcases hat with h | h; left; simpa [Value.ownBlock] using h.symm; right; exact h
  have hgl2 : w.heap.size + 2 ≤ gl ∧ gl ≠ w1.heap.size := by rcases hglc with h | h <;> omega
  obtain ⟨hgl2, hglg⟩ := hgl2
  have hne : ∀ g, g ≠ gA → some g ≠ (Value.slice (some ⟨gA, 0, none⟩) 1 capA).ownBlock := fun g hg => by simp [Value.ownBlock, hg]
  have hRR : Row w2 w.heap.size [.slice none 0 0] := ((HRR1.out.alloc _).alloc _).grown hgrow (hne _ (by omega))
  have hR1 : Row w2 (w.heap.size + 1) (ints .u64 (L0 st n0 0)) := ((HR11.out.alloc _).alloc _).grown hgrow (hne _ (by omega))
  have hR2 : Row w2 w1.heap.size (ints .u64 [L1 st 0]) := by
    have h := row_made w1 (.int .u64 0) 1 26
    exact (h.alloc _).grown hgrow (hne _ (by omega))
  have hRl : Row w2 gl [.slice (some ⟨w.heap.size + 1, 0, none⟩) n0 n0, .slice (some ⟨w1.heap.size, 0, none⟩) 1 1] := row_owned (by simpa using hown)
  have hB : Below w.heap.size w w2 := ((hB1.alloc (by omega) _).alloc (by simp; omega) _).grown hgrow (by simp; omega) (by intro k hk; simp [Value.ownBlock] at hk; omega)
  have hlw : w.heap.size + 2 < w1.heap.size := by omega
  obtain ⟨g1, hg1⟩ : ∃ g1, g1 = w1.heap.size := ⟨_, rfl⟩
  rw [← hg1] at hRl hR2 hlw hglg
  clear hown hgrow hat hmk hlt hlt2 hglc hne hB1 hg1 HO HRR1 HR11 HGA hgA2
  go_loopw [8] (fun i wr => ∃ k : Nat, k ≤ m ∧ i = .int .i64 k ∧ Row wr gl [.slice (some ⟨w.heap.size + 1, 0, none⟩) n0 n0, .slice (some ⟨g1, 0, none⟩) 1 1] ∧ Row wr (w.heap.size + 1) (ints .u64 (L0 st n0 k)) ∧ Row wr g1 (ints .u64 [L1 st k]) ∧ Row wr w.heap.size [.slice none 0 0] ∧ Below w.heap.size w wr) (fun i _ => m - (intOf i).toNat)
  case atStart => exact ⟨0, Nat.zero_le _, rfl, hRl, hR1, hR2, hRR, hB⟩
  case round =>
    clear hRl hR1 hR2 hRR hB
    obtain ⟨k, hk, rfl, hRl, hR1, hR2, hRR, hB⟩ := hrel
    have cl : wr.cell? ⟨gl, 0, none⟩ = some (.slice (some ⟨w.heap.size + 1, 0, none⟩) n0 n0) := hRl.cell rfl
    have cl1 : wr.cell? ⟨gl, 1, none⟩ = some (.slice (some ⟨g1, 0, none⟩) 1 1) := hRl.cell rfl
    have hlen := L0_len st n0 k
    have HRl : Hid (Row wr gl [.slice (some ⟨w.heap.size + 1, 0, none⟩) n0 n0, .slice (some ⟨g1, 0, none⟩) 1 1]) := hRl
    have HR1 : Hid (Row wr (w.heap.size + 1) (ints .u64 (L0 st n0 k))) := hR1
    have HR2 : Hid (Row wr g1 (ints .u64 [L1 st k])) := hR2
    have HRR : Hid (Row wr w.heap.size [.slice none 0 0]) := hRR
    have HLen : Hid ((L0 st n0 k).length = n0) := hlen
    have cR : wr.cell? ⟨w.heap.size, 0, none⟩ = some (.slice none 0 0) := hRR.cell rfl
    have fR := hRR.frozen 0
    clear hRl hR1 hR2 hRR hlen
    by_cases hlt : k < m
    · have hb : wr.cell? ⟨gs, k, none⟩ = some (.bool (st.getD k false)) := (hB.cell (p := ⟨gs, k, none⟩) hS.lt).trans (hS.cell (bools_at _ _ (by omega)))
      cases hv : st.getD k false with
      | false =>
        rw [hv] at hb
        have HV : Hid (st.getD k false = false) := hv
        clear hv
        go_wp2
        go_roundw
        case rel => exact ⟨k + 1, by omega, by go_num, HRl.out, by rw [L0_no HV.out]; exact HR1.out, by rw [L1_no HV.out]; exact HR2.out, HRR.out, hB⟩
        case measure => simp [intOf]; omega
      | true =>
        rw [hv] at hb
        have HV : Hid (st.getD k false = true) := hv
        clear hv
        obtain ⟨r, hr⟩ : ∃ r, r = k % 64 := ⟨_, rfl⟩
        obtain ⟨d, hd⟩ : ∃ d, d = k / 64 := ⟨_, rfl⟩
        obtain ⟨d1, d2, d3, d4⟩ := divs k d r hd.symm hr.symm
        obtain ⟨f1, f2, f3, f4⟩ := divs d 0 d (by omega) (by omega)
        have hr64 : r < 64 := by omega
        have hd64 : d < 64 := by omega
        have hdn : (d : Int) < (n0 : Int) := by have := HE.out; omega
        have hdn' : d < n0 := by omega
        obtain ⟨x, hx⟩ : ∃ x, x = (L0 st n0 k).getD d 0 := ⟨_, rfl⟩
        have cx : wr.cell? ⟨w.heap.size + 1, d, none⟩ = some (.int .u64 x) := by rw [hx]; exact HR1.out.cell (ints_at _ _ _ (by rw [HLen.out]; exact hdn'))
        have fx := HR1.out.frozen d
        obtain ⟨y, hy⟩ : ∃ y, y = L1 st k := ⟨_, rfl⟩
        have cy : wr.cell? ⟨g1, 0, none⟩ = some (.int .u64 y) := by rw [hy]; exact HR2.out.cell rfl
        have fy := HR2.out.frozen 0
        have n1 : w.heap.size + 1 ≠ gl := by omega
        have n2 : g1 ≠ gl := fun h => hglg h.symm
        have n3 : w.heap.size + 1 ≠ g1 := by omega
        have HX : Hid (x = (L0 st n0 k).getD d 0) := hx
        have HY : Hid (y = L1 st k) := hy
        have HRr : Hid (r = k % 64) := hr
        have HD : Hid (d = k / 64) := hd
        clear hr hd hx hy
        go_wp2
        refine wp_loop_rounds 3 ?_
        rw [rounds_succ]
        go_wp2
        go_region
        go_wp2
        rw [rounds_succ]
        go_wp2
        go_region
        go_wp2
        rw [rounds_succ]
        go_wp2
        go_roundw
        case rel =>
          refine ⟨k + 1, by omega, by go_num, (HRl.out.other ⟨w.heap.size + 1, d, none⟩ _ (by simp; omega)).other ⟨g1, 0, none⟩ _ (by simp; omega), ?_, ?_, (HRR.out.other ⟨w.heap.size + 1, d, none⟩ _ (by simp)).other ⟨g1, 0, none⟩ _ (by simp; omega), ((hB.setCell (p := ⟨w.heap.size + 1, d, none⟩) (by simp) _).setCell (p := ⟨g1, 0, none⟩) (by simp; omega) _).drew.drew⟩
          · have hs := HR1.out.set d (.int .u64 (bits .or .u64 x (bt r)))
            rw [ints_set] at hs
            rw [L0_yes HV.out, ← HD.out, ← HX.out, ← HRr.out]
            exact hs.other ⟨g1, 0, none⟩ _ n3
          · have hs := (HR2.out.other ⟨w.heap.size + 1, d, none⟩ (.int .u64 (bits .or .u64 x (bt r))) (fun h => n3 h.symm)).set 0 (.int .u64 (bits .or .u64 y (bt d)))
            rw [ints_set] at hs
            rw [L1_yes HV.out, ← HD.out, ← HY.out]
            exact hs
        case measure => simp [intOf]; omega
    · go_wp2
      refine bodyPost_ret (v := .agg #[.slice (some ⟨gl, 0, none⟩) 2 cap]) (by simp [results, Yba.results9, go_sem, *]) rfl ?_
      refine ⟨gl, w.heap.size + 1, g1, cap, rfl, by omega, by omega, by omega, by omega, fun h => hglg h.symm, by omega, HRl.out.other _ _ (by simp; omega), ?_, ?_, hB.setCell (by simp) _⟩
      · rw [show m = k by omega]
        exact HR1.out.other _ _ (by simp)
      · rw [show m = k by omega]
        exact HR2.out.other _ _ (by simp; omega)
end Go.Proofs.Ybulkebqk
