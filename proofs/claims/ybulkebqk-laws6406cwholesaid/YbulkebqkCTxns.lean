/-
  zzs6406ctxns: the transactions' numbers, put at their places one by one.
-/
import Derived.Test.YbulkebqkCBlk
import Derived.Test.YbulkebqkCIns
namespace Go.Proofs.Ybulkebqk
open Go.RowKit
set_option linter.unusedVariables false

theorem splice_ins (C : List Value) (xs : List Int) (p : Nat) (t : Int) (z : Value) (hp : p ≤ xs.length) (hC : C.take (xs.length + 1) = ints .i64 xs ++ [z]) :
    ((splice C (p + 1) (ints .i64 (xs.drop p))).set p (.int .i64 t)).take (xs.length + 1) = ints .i64 (ins xs p t) := by
  have hl : xs.length + 1 ≤ C.length := by
    have := congrArg List.length hC
    simp [ints] at this; omega
  have h1 : C.take (p + 1) = (ints .i64 xs).take p ++ [C.getD p z] := by
    have h2 : C.take p = (ints .i64 xs).take p := by
      have := congrArg (List.take p) hC
      rw [List.take_take, List.take_append_of_le_length (by rw [ints_len]; exact hp)] at this
      rw [← this]; congr 1; omega
    rw [List.take_add_one, h2, List.getD_eq_getElem?_getD, List.getElem?_eq_getElem (show p < C.length by omega)]
    simp
  have hx : ((ints .i64 xs).take p).length = p := by simp [ints]; omega
  rw [splice, h1, List.append_assoc, List.set_append_right _ _ (by omega), hx, Nat.sub_self]
  have h3 : ints .i64 (ins xs p t) = (ints .i64 xs).take p ++ (.int .i64 t :: ints .i64 (xs.drop p)) := by simp [ints, ins, List.map_take, List.map_drop]
  rw [h3]
  simp only [List.cons_append, List.nil_append, List.set_cons_zero]
  rw [← List.cons_append, ← List.append_assoc]
  apply List.take_left'
  simp [ints]; omega

theorem owns_dn {w : World} {base n size : Nat} {e : TypeId} {v : Value} {xs : List Value} (h : w.ownsRow base e size v n xs) (q : Nat) : (w.drewN q).ownsRow base e size v n xs := h
theorem cut_from (g len c p : Nat) (hp : p ≤ len) (hc : p < c) (wx : World) : (Instr.sliceAt 41 (.slice (some ⟨g, 0, none⟩) len c) (some (.int .i64 (p : Int))) none none).run Yba.prog wx = .ok (.slice (some ⟨g, p, none⟩) (len - p) (c - p)) wx := by
  have hu : Yba.prog.underlying 41 = some (.slice (Yba.prog.elem 41)) := by kernel_rfl
  have hs : (sizeOf (Yba.prog.elem 41)).run Yba.prog wx = .ok 1 wx := by kernel_rfl
  rw [run_sliceAt_slice wx 41 _ _ _ _ hu, run_slice_l wx 41 _ _ _ hu .i64 _ (by omega) (by omega), hs]
  have : ¬ c = p := by omega
  simp [Result.andThen, sliced, this, Addr.add_lit]
theorem cut_end (g len c p : Nat) (hp : p ≤ len) (hc : c = p) (wx : World) : (Instr.sliceAt 41 (.slice (some ⟨g, 0, none⟩) len c) (some (.int .i64 (p : Int))) none none).run Yba.prog wx = .ok (.slice (some ⟨g, 0, none⟩) (len - p) 0) wx := by
  have hu : Yba.prog.underlying 41 = some (.slice (Yba.prog.elem 41)) := by kernel_rfl
  have hs : (sizeOf (Yba.prog.elem 41)).run Yba.prog wx = .ok 1 wx := by kernel_rfl
  rw [run_sliceAt_slice wx 41 _ _ _ _ hu, run_slice_l wx 41 _ _ _ hu .i64 _ (by omega) (by omega), hs]
  simp [Result.andThen, sliced, hc]
theorem size3 : (Yba.prog.info? 3).map (·.size) = some 1 := by kernel_rfl

set_option maxRecDepth 20000 in
set_option maxHeartbeats 3200000 in
theorem ctxns28 (g n cap : Nat) (l : List OpV) (w : World) (hn : l.length = n) (hb : n ≤ 65536) (hR : Row w g (opCells l)) :
    Calls Yba.prog 28 #[.slice (some ⟨g, 0, none⟩) n cap] w fun e w' => ∃ a c xs, e = .returned (.slice a xs.length c) ∧ Tx l xs ∧ xs.length ≤ n ∧ At w' a (ints .i64 xs) ∧ Below w.heap.size w w' := by
  obtain ⟨i0, hi, hz0, hz1, hz2⟩ := info_parts Yba.info3
  have HR : Hid (Row w g (opCells l)) := hR
  have HL : Hid (l.length = n) := hn
  have hgl := hR.lt
  clear hR hn
  go_enter Yba.func28, Yba.ntmps28
  go_wp2_with fail
  go_loopw [3, 10] (fun v i wr => ∃ (k L c : Nat) (a : Option Addr) (xs : List Int), k ≤ n ∧ L ≤ k ∧ i = .int .i64 k ∧ v = .slice a L c ∧ Hid (xs.length = L) ∧ Hid (Tx (l.take k) xs) ∧ Hid (wr.ownsRow w.heap.size 3 1 (.slice a L c) L (ints .i64 xs)) ∧ Below w.heap.size w wr) (fun _ i _ => n - (intOf i).toNat)
  case atStart => exact ⟨0, 0, 0, none, [], Nat.zero_le _, Nat.le_refl _, rfl, rfl, rfl, ⟨List.Pairwise.nil, fun z => by simp⟩, World.ownsRow_nil _ _ _ _, Below.refl _ _⟩
  case round =>
    obtain ⟨k, L, c, a, xs, hk, hLk, rfl, rfl, HX, HT, HO, hB⟩ := hrel
    by_cases hlt : k < n
    · obtain ⟨c0, c1, c2⟩ := opCells_at l k (by rw [HL.out]; exact hlt)
      have hRr := HR.out.below hB hgl
      have d0 := hRr.cell c0
      have d1 := hRr.cell c1
      have d2 := hRr.cell c2
      obtain ⟨o, ho⟩ : ∃ o, o = l.getD k default := ⟨_, rfl⟩
      rw [← ho] at d0 d1 d2
      have HOo : Hid (o = l.getD k default) := ho
      have kn : (k : Int) < (n : Int) := by omega
      have hws := hB.size
      clear ho c0 c1 c2 hRr
      go_wp2_with fail
      have hP : Blk (wr.alloc (.cells #[.int .u8 o.k, .int .i64 o.t, .string o.i] 64)) wr.heap.size 64 [.int .u8 o.k, .int .i64 o.t, .string o.i] := blk_new wr _ 64
      have HO1 : Hid ((wr.alloc (.cells #[.int .u8 o.k, .int .i64 o.t, .string o.i] 64)).ownsRow w.heap.size 3 1 (.slice a L c) L (ints .i64 xs)) := HO.out.alloc _
      have hB1 : Below w.heap.size w (wr.alloc (.cells #[.int .u8 o.k, .int .i64 o.t, .string o.i] 64)) := hB.alloc hB.size _
      have hs1 : (wr.alloc (.cells #[.int .u8 o.k, .int .i64 o.t, .string o.i] 64)).heap.size = wr.heap.size + 1 := by simp
      obtain ⟨W1, hW1⟩ : ∃ W1, wr.alloc (.cells #[.int .u8 o.k, .int .i64 o.t, .string o.i] 64) = W1 := ⟨_, rfl⟩
      obtain ⟨P1, hP1⟩ : ∃ P1, wr.heap.size = P1 := ⟨_, rfl⟩
      rw [hW1] at hP HO1 hB1 hs1 ⊢
      rw [hP1] at hP hs1 hws ⊢
      have HP : Hid (Blk W1 P1 64 [.int .u8 o.k, .int .i64 o.t, .string o.i]) := hP
      have HT1 : Hid (Tx (l.take k) xs) := HT
      clear d0 d1 d2 hB HO hW1 hP1 HT hP
      clear wr
      go_loopw [6, 7] (fun pv fv wr => ∃ (p : Nat) (f : Bool), p ≤ L ∧ pv = .int .i64 p ∧ fv = .bool f ∧ Hid (∀ j, j < p → xs.getD j 0 ≤ o.t) ∧ Hid (f = true → o.t ∈ xs) ∧ Hid (f = false → ∀ j, j < p → xs.getD j 0 ≠ o.t) ∧ Below W1.heap.size W1 wr) (fun pv _ _ => L - (intOf pv).toNat)
      case atStart => exact ⟨0, false, Nat.zero_le _, rfl, rfl, fun j h => by omega, fun h => by simp at h, fun _ j h => by omega, Below.refl _ _⟩
      case round =>
        obtain ⟨p, f, hp, rfl, rfl, HLE, HF1, HF0, hBr⟩ := hrel
        have hPr := HP.out.below hBr HP.out.lt
        have e1 : wr.cell? ⟨P1, 1, none⟩ = some (.int .i64 o.t) := hPr.cell rfl
        have HPr : Hid (Blk wr P1 64 [.int .u8 o.k, .int .i64 o.t, .string o.i]) := hPr
        have HOr : Hid (wr.ownsRow w.heap.size 3 1 (.slice a L c) L (ints .i64 xs)) := owns_below (B := 0) HO1.out hBr
        have hBw : Below w.heap.size w wr := hB1.trans (hBr.mono hB1.size)
        have hPl : P1 < wr.heap.size := hPr.lt
        have hLb : (L : Int) ≤ 65536 := by omega
        clear hPr
        by_cases hpL : p < L
        · obtain ⟨g1, c1, hv, hg1⟩ := owns_form HOr.out (by omega)
          simp only [Value.slice.injEq, true_and] at hv
          obtain ⟨rfl, rfl⟩ := hv
          have cx := (row_owned HOr.out).cell (ints_at .i64 xs p (by rw [HX.out]; exact hpL))
          obtain ⟨x, hx⟩ : ∃ x, x = xs.getD p 0 := ⟨_, rfl⟩
          rw [← hx] at cx
          have HXX : Hid (x = xs.getD p 0) := hx
          have pL : (p : Int) < (L : Int) := by omega
          clear hx
          by_cases hle : x ≤ o.t
          · by_cases heq : x = o.t
            · go_wp2_with fail
              go_quiet (fail)
              go_wp2_with fail
              go_quiet (fail)
              go_wp2_with fail
              go_roundw
              case rel =>
                refine ⟨p + 1, true, by omega, by go_num, rfl, fun j h => ?_, fun _ => ?_, fun h => by simp at h, below_drewN hBr _⟩
                · by_cases e : j = p
                  · subst e; rw [← HXX.out]; exact hle
                  · exact HLE.out j (by omega)
                · rw [← heq, HXX.out]
                  have h : p < xs.length := by rw [HX.out]; exact hpL
                  rw [List.getD_eq_getElem?_getD, List.getElem?_eq_getElem h]; simp
              case measure => simp [intOf]; omega
            · go_wp2_with fail
              go_quiet (fail)
              go_wp2_with fail
              go_quiet (fail)
              go_wp2_with fail
              go_roundw
              case rel =>
                refine ⟨p + 1, f, by omega, by go_num, rfl, fun j h => ?_, HF1, fun hf j h => ?_, below_drewN hBr _⟩
                · by_cases e : j = p
                  · subst e; rw [← HXX.out]; exact hle
                  · exact HLE.out j (by omega)
                · by_cases e : j = p
                  · subst e; rw [← HXX.out]; exact heq
                  · exact HF0.out hf j (by omega)
              case measure => simp [intOf]; omega
          · have HHI : Hid (p < xs.length → o.t < xs.getD p 0) := fun _ => by rw [← HXX.out]; omega
            cases f with
            | true =>
              go_wp2_with fail
              go_quiet (fail)
              go_wp2_with fail
              go_roundw
              case rel =>
                exact ⟨k + 1, L, c, (some ⟨g1, 0, none⟩), xs, by omega, by omega, by go_num, rfl, HX, tx_found (by rw [HL.out]; exact hlt) HT1.out (by rw [← HOo.out]; exact HF1.out (by trivial)), HOr.out, below_drewN hBw _⟩
              case measure => simp [intOf]; omega
            | false =>
              go_wp2_with fail
              go_quiet (fail)
              go_wp2_with (at_builtin; refine wpList_append_own _ rfl (.tmp 38) (.tmp 39) 41 rfl w.heap.size 3 i0 (.int .i64 0) 1 8 Yba.underlying41 hi hz0 hz1 hz2 rfl (by decide) _ L (ints .i64 xs) rfl ((owns_dn HOr.out nq).alloc _) ⟨wr.heap.size, 0, none⟩ 1 1 [.int .i64 0] rfl rfl (news1 _ _ (by simp) _ _) (by intro u hu; simp at hu; subst hu; rfl) (by unfold maxLen; omega) (by omega) (by simp; omega) ?_; intro v' w1 hown' hgrow hnil')
              obtain ⟨g2, c2, rfl, hgb⟩ := owns_form hown' (by omega)
              have hP2 : Blk w1 P1 64 [.int .u8 o.k, .int .i64 o.t, .string o.i] := ((HPr.out.drewN nq).alloc (.cells #[.int .i64 0] 3)).grown hgrow (((HPr.out.drewN nq).alloc (.cells #[.int .i64 0] 3)).not_own ((owns_dn HOr.out nq).alloc (.cells #[.int .i64 0] 3)) (by decide))
              have hB2 : Below w.heap.size w w1 := ((below_drewN hBw nq).alloc (by have := hBw.size; simpa using this) _).grown hgrow (by have := hBw.size; simp; omega) (fun j hj => (HOr.out.lt j hj).1)
              obtain ⟨cur, hg2, hcap, hmax, hsz2, htk⟩ : ∃ cur : List Value, Blk w1 g2 3 cur ∧ L + 1 ≤ c2 ∧ c2 ≤ maxLen ∧ cur.length = c2 ∧ cur.take (L + 1) = ints .i64 xs ++ [.int .i64 0] := by
                rcases hown'.2 with ⟨h, _⟩ | ⟨g', cap', cur, hv, _, hg, h1, h2, h3, ht⟩
                · cases h
                · simp only [Value.slice.injEq, Option.some.injEq, Addr.mk.injEq] at hv
                  obtain ⟨⟨rfl, _⟩, _, rfl⟩ := hv
                  exact ⟨cur.toList, hg, h1, h2, by simpa using h3, by simpa using ht⟩
              have hne : P1 ≠ g2 := hP2.ne hg2 (by decide)
              have hXL : xs.length = L := HX.out
              have t1 : w1.cell? ⟨P1, 1, none⟩ = some (.int .i64 o.t) := hP2.cell rfl
              obtain ⟨X1, hX1⟩ : ∃ X1, X1 = ints .i64 (xs.drop p) := ⟨_, rfl⟩
              have lX1 : X1.length = L - p := by rw [hX1, ints_len, List.length_drop, hXL]
              have HG2 : Hid (Blk w1 g2 3 cur) := hg2
              have HTK : Hid (cur.take (L + 1) = ints .i64 xs ++ [.int .i64 0]) := htk
              have HX1 : Hid (X1 = ints .i64 (xs.drop p)) := hX1
              have hcap' : ((L : Int) + 1) ≤ (c2 : Int) := by omega
              have hP1l : P1 < w1.heap.size := hP2.lt
              have HP2 : Hid (Blk w1 P1 64 [.int .u8 o.k, .int .i64 o.t, .string o.i]) := hP2
              have HSZ : Hid (cur.length = c2) := hsz2
              clear hP2 hg2 htk hX1 hsz2 hown' hgrow hnil'
              have HSRC : Hid (∀ j v, X1[j]? = some v → w1.cell? ((⟨g2, p, none⟩ : Addr).add j) = some v) := by
                intro j v hv
                rw [Addr.add_lit]
                refine HG2.out.cell ?_
                have hj : j < X1.length := by
                  rcases Nat.lt_or_ge j X1.length with h | h
                  · exact h
                  · rw [List.getElem?_eq_none h] at hv; cases hv
                have h1 : cur[p + j]? = (cur.take (L + 1))[p + j]? := by rw [List.getElem?_take, if_pos (by omega)]
                rw [h1, HTK.out, List.getElem?_append_left (by rw [ints_len, hXL]; omega)]
                rw [HX1.out] at hv
                simp only [ints, List.map_drop, List.getElem?_drop] at hv ⊢
                exact hv
              have HONE : Hid (∀ v ∈ X1, v.oneCell' = true) := by show ∀ v ∈ X1, _; rw [HX1.out]; exact ints_one _ _
              have cutB := fun wx => cut_from g2 (L + 1) c2 p (by omega) (by omega) wx
              obtain ⟨p1, hp1⟩ : ∃ p1 : Nat, p1 = p + 1 := ⟨_, rfl⟩
              obtain ⟨L1, hL1⟩ : ∃ L1 : Nat, L1 = L + 1 := ⟨_, rfl⟩
              have ep : (p1 : Int) = (p : Int) + 1 := by omega
              have q1 : p1 ≤ L1 := by omega
              have wp2 : IntKind.i64.wrap ((p : Int) + 1) = (p : Int) + 1 := by simp only [IntKind.wrap, IntKind.bits, IntKind.signed]; simp; omega
              have HP1' : Hid (p1 = p + 1) := hp1
              rcases Nat.lt_or_ge p1 c2 with hc | hc
              · have cutA := fun wx => cut_from g2 L1 c2 p1 q1 hc wx
                rw [ep, hL1] at cutA
                clear ep hp1 hL1 q1
                go_wp2_with fail
                refine wp_region_any (by kernel_rfl) ?_
                change wpAny _ _ _ _ _ _ _ (World.drew _)
                refine wpAny_take (i := 0) (v := ?_) rfl (by kernel_rfl) (by kernel_rfl) (by kernel_rfl) (fun _ _ _ h => h) (Or.inl ⟨by rfl, ?_⟩) ?_
                rotate_left
                · intro w; go_simp; with_reducible rfl
                refine wpAny_take (i := 1) (v := ?_) rfl (by kernel_rfl) (by kernel_rfl) (by kernel_rfl) (fun _ _ _ h => h) (Or.inl ⟨by rfl, ?_⟩) ?_
                rotate_left
                · intro w; go_simp; with_reducible rfl
                refine wpAny_take (i := 2) (v := ?_) rfl (by kernel_rfl) (by kernel_rfl) (by kernel_rfl) (fun _ _ _ h => h) (Or.inl ⟨by rfl, ?_⟩) ?_
                rotate_left
                · intro w; go_simp; with_reducible rfl
                refine wpAny_take (i := 3) (v := ?_) rfl (by kernel_rfl) (by kernel_rfl) (by kernel_rfl) (fun _ _ _ h => h) (Or.inl ⟨by rfl, ?_⟩) ?_
                rotate_left
                · intro w; go_simp; with_reducible rfl
                refine wpAny_take (i := 4) (v := ?_) rfl (by kernel_rfl) (by kernel_rfl) (by kernel_rfl) (fun _ _ _ h => h) (Or.inl ⟨by rfl, ?_⟩) ?_
                rotate_left
                · intro w; go_simp; with_reducible rfl
                refine wpAny_take (i := 5) (v := ?_) rfl (by kernel_rfl) (by kernel_rfl) (by kernel_rfl) (fun _ _ _ h => h) (Or.inl ⟨by rfl, ?_⟩) ?_
                rotate_left
                · intro w; go_simp; with_reducible rfl
                refine wpAny_take (i := 6) (v := ?_) rfl (by kernel_rfl) (by kernel_rfl) (by kernel_rfl) (fun _ _ _ h => h) (Or.inl ⟨by rfl, ?_⟩) ?_
                rotate_left
                · intro w; go_simp; with_reducible rfl
                refine wpAny_ready (rs := [7]) (by kernel_rfl) (by simp) ?_
                refine AllReady.cons rfl (fun K hK => ?_) ?_
                rotate_left
                · exact AllReady.nil
                refine step_copy_at (by rfl) (.tmp 44) (.tmp 47) 41 41 (by rfl) 3 Yba.underlying41 size3 _ _ _ _ _ _ (by go_simp; first | with_reducible rfl | exact ⟨rfl, rfl, rfl⟩) (by go_simp; first | with_reducible rfl | exact ⟨rfl, rfl, rfl⟩) g2 p1 cur 3 HG2.out X1 (by have := HP1'.out; rw [lX1]; show _ = min _ _; rw [Nat.min_def]; split <;> omega) (fun _ => ⟨by simp, ⟨g2, p, none⟩, by simp, fun j v hv => HSRC.out j v hv⟩) (by have := HP1'.out; rw [lX1, HSZ.out]; omega) HONE.out ?_
                intro w2 HG3 hgr2
                have t2 := (hgr2.cell_far ⟨P1, 1, none⟩ hP1l (by simpa using hne)).trans t1
                refine hK _ _ ?_
                clear hK K
                refine wpAny_done (by kernel_rfl) ?_ _
                rw [HP1'.out] at HG3
                have cp : w2.cell? ⟨g2, p, none⟩ = some ((splice cur (p + 1) X1).getD p (.int .i64 0)) := HG3.out.cell (by rw [List.getD_eq_getElem?_getD, List.getElem?_eq_getElem (by rw [length_splice _ _ _ (by rw [lX1, HSZ.out]; omega), HSZ.out]; omega)]; rfl)
                have fp := HG3.out.frozen p
                have pl : (p : Int) < (L : Int) + 1 := by omega
                have hg2l : g2 < w2.heap.size := HG3.out.lt
                clear cutA cutB HSRC HONE
                go_wp2_with fail
                go_roundw
                case rel =>
                  have hs := HG3.out.set p (.int .i64 o.t)
                  have htk2 := splice_ins cur xs p o.t (.int .i64 0) (by rw [hXL]; omega) (by rw [hXL]; exact HTK.out)
                  rw [← HX1.out, hXL] at htk2
                  refine ⟨k + 1, L + 1, c2, some ⟨g2, 0, none⟩, ins xs p o.t, by omega, by omega, by go_num, rfl, ?_, ?_, ?_, ?_⟩
                  · show _ = _; rw [ins_len xs p o.t (by rw [hXL]; omega), hXL]
                  · show Tx _ _
                    rw [HOo.out]
                    refine tx_ins (by rw [HL.out]; exact hlt) HT1.out p (by rw [hXL]; omega) (fun j hj => ?_) (by rw [← HOo.out]; exact HHI.out)
                    rw [← HOo.out]
                    have h1 := HLE.out j hj
                    have h2 := HF0.out (by trivial) j hj
                    omega
                  · refine ⟨by rw [ints_len, ins_len xs p o.t (by rw [hXL]; omega), hXL]; omega, .inr ⟨g2, c2, _, rfl, hgb, hs, hcap, hmax, ?_, ?_⟩⟩
                    · simp [length_splice _ _ _ (show p + 1 + X1.length ≤ cur.length by rw [lX1, HSZ.out]; omega), HSZ.out]
                    · simpa using htk2
                  · exact (hB2.drew.grown hgr2 (by have := hB2.size; exact this) (fun q hq => by cases hq; exact hgb)).setCell (p := ⟨g2, p, none⟩) hgb _
                case measure => simp [intOf]; omega
              · have hce : c2 = p1 := by omega
                have cutA := fun wx => cut_end g2 L1 c2 p1 q1 hce wx
                rw [ep, hL1] at cutA
                have HCE : Hid (c2 = p1) := hce
                clear ep hp1 hL1 q1 hce
                go_wp2_with fail
                refine wp_region_any (by kernel_rfl) ?_
                change wpAny _ _ _ _ _ _ _ (World.drew _)
                refine wpAny_take (i := 0) (v := ?_) rfl (by kernel_rfl) (by kernel_rfl) (by kernel_rfl) (fun _ _ _ h => h) (Or.inl ⟨by rfl, ?_⟩) ?_
                rotate_left
                · intro w; go_simp; with_reducible rfl
                refine wpAny_take (i := 1) (v := ?_) rfl (by kernel_rfl) (by kernel_rfl) (by kernel_rfl) (fun _ _ _ h => h) (Or.inl ⟨by rfl, ?_⟩) ?_
                rotate_left
                · intro w; go_simp; with_reducible rfl
                refine wpAny_take (i := 2) (v := ?_) rfl (by kernel_rfl) (by kernel_rfl) (by kernel_rfl) (fun _ _ _ h => h) (Or.inl ⟨by rfl, ?_⟩) ?_
                rotate_left
                · intro w; go_simp; with_reducible rfl
                refine wpAny_take (i := 3) (v := ?_) rfl (by kernel_rfl) (by kernel_rfl) (by kernel_rfl) (fun _ _ _ h => h) (Or.inl ⟨by rfl, ?_⟩) ?_
                rotate_left
                · intro w; go_simp; with_reducible rfl
                refine wpAny_take (i := 4) (v := ?_) rfl (by kernel_rfl) (by kernel_rfl) (by kernel_rfl) (fun _ _ _ h => h) (Or.inl ⟨by rfl, ?_⟩) ?_
                rotate_left
                · intro w; go_simp; with_reducible rfl
                refine wpAny_take (i := 5) (v := ?_) rfl (by kernel_rfl) (by kernel_rfl) (by kernel_rfl) (fun _ _ _ h => h) (Or.inl ⟨by rfl, ?_⟩) ?_
                rotate_left
                · intro w; go_simp; with_reducible rfl
                refine wpAny_take (i := 6) (v := ?_) rfl (by kernel_rfl) (by kernel_rfl) (by kernel_rfl) (fun _ _ _ h => h) (Or.inl ⟨by rfl, ?_⟩) ?_
                rotate_left
                · intro w; go_simp; with_reducible rfl
                refine wpAny_ready (rs := [7]) (by kernel_rfl) (by simp) ?_
                refine AllReady.cons rfl (fun K hK => ?_) ?_
                rotate_left
                · exact AllReady.nil
                refine step_copy_at (by rfl) (.tmp 44) (.tmp 47) 41 41 (by rfl) 3 Yba.underlying41 size3 _ _ _ _ _ _ (by go_simp; first | with_reducible rfl | exact ⟨rfl, rfl, rfl⟩) (by go_simp; first | with_reducible rfl | exact ⟨rfl, rfl, rfl⟩) g2 p1 cur 3 HG2.out X1 (by have := HP1'.out; rw [lX1]; show _ = min _ _; rw [Nat.min_def]; split <;> omega) (fun h => absurd h (by have := HP1'.out; have := HCE.out; rw [lX1]; omega)) (by have := HP1'.out; rw [lX1, HSZ.out]; omega) HONE.out ?_
                intro w2 HG3 hgr2
                have t2 := (hgr2.cell_far ⟨P1, 1, none⟩ hP1l (by simpa using hne)).trans t1
                refine hK _ _ ?_
                clear hK K
                refine wpAny_done (by kernel_rfl) ?_ _
                rw [HP1'.out] at HG3
                have cp : w2.cell? ⟨g2, p, none⟩ = some ((splice cur (p + 1) X1).getD p (.int .i64 0)) := HG3.out.cell (by rw [List.getD_eq_getElem?_getD, List.getElem?_eq_getElem (by rw [length_splice _ _ _ (by rw [lX1, HSZ.out]; omega), HSZ.out]; omega)]; rfl)
                have fp := HG3.out.frozen p
                have pl : (p : Int) < (L : Int) + 1 := by omega
                have hg2l : g2 < w2.heap.size := HG3.out.lt
                clear cutA cutB HSRC HONE
                go_wp2_with fail
                go_roundw
                case rel =>
                  have hs := HG3.out.set p (.int .i64 o.t)
                  have htk2 := splice_ins cur xs p o.t (.int .i64 0) (by rw [hXL]; omega) (by rw [hXL]; exact HTK.out)
                  rw [← HX1.out, hXL] at htk2
                  refine ⟨k + 1, L + 1, c2, some ⟨g2, 0, none⟩, ins xs p o.t, by omega, by omega, by go_num, rfl, ?_, ?_, ?_, ?_⟩
                  · show _ = _; rw [ins_len xs p o.t (by rw [hXL]; omega), hXL]
                  · show Tx _ _
                    rw [HOo.out]
                    refine tx_ins (by rw [HL.out]; exact hlt) HT1.out p (by rw [hXL]; omega) (fun j hj => ?_) (by rw [← HOo.out]; exact HHI.out)
                    rw [← HOo.out]
                    have h1 := HLE.out j hj
                    have h2 := HF0.out (by trivial) j hj
                    omega
                  · refine ⟨by rw [ints_len, ins_len xs p o.t (by rw [hXL]; omega), hXL]; omega, .inr ⟨g2, c2, _, rfl, hgb, hs, hcap, hmax, ?_, ?_⟩⟩
                    · simp [length_splice _ _ _ (show p + 1 + X1.length ≤ cur.length by rw [lX1, HSZ.out]; omega), HSZ.out]
                    · simpa using htk2
                  · exact (hB2.drew.grown hgr2 (by have := hB2.size; exact this) (fun q hq => by cases hq; exact hgb)).setCell (p := ⟨g2, p, none⟩) hgb _
                case measure => simp [intOf]; omega
        · have hpe : p = L := by omega
          subst hpe
          have pL : ¬ (p : Int) < (p : Int) := by omega
          have HHI : Hid (p < xs.length → o.t < xs.getD p 0) := fun h => by rw [HX.out] at h; omega
          cases f with
          | true =>
            go_wp2_with fail
            go_quiet (fail)
            go_wp2_with fail
            go_roundw
            case rel =>
              exact ⟨k + 1, p, c, a, xs, by omega, by omega, by go_num, rfl, HX, tx_found (by rw [HL.out]; exact hlt) HT1.out (by rw [← HOo.out]; exact HF1.out (by trivial)), HOr.out, below_drewN hBw _⟩
            case measure => simp [intOf]; omega
          | false =>
            go_wp2_with fail
            go_quiet (fail)
            go_wp2_with (at_builtin; refine wpList_append_own _ rfl (.tmp 38) (.tmp 39) 41 rfl w.heap.size 3 i0 (.int .i64 0) 1 8 Yba.underlying41 hi hz0 hz1 hz2 rfl (by decide) _ p (ints .i64 xs) rfl ((owns_dn HOr.out nq).alloc _) ⟨wr.heap.size, 0, none⟩ 1 1 [.int .i64 0] rfl rfl (news1 _ _ (by simp) _ _) (by intro u hu; simp at hu; subst hu; rfl) (by unfold maxLen; omega) (by omega) (by simp; omega) ?_; intro v' w1 hown' hgrow hnil')
            obtain ⟨g2, c2, rfl, hgb⟩ := owns_form hown' (by omega)
            have hP2 : Blk w1 P1 64 [.int .u8 o.k, .int .i64 o.t, .string o.i] := ((HPr.out.drewN nq).alloc (.cells #[.int .i64 0] 3)).grown hgrow (((HPr.out.drewN nq).alloc (.cells #[.int .i64 0] 3)).not_own ((owns_dn HOr.out nq).alloc (.cells #[.int .i64 0] 3)) (by decide))
            have hB2 : Below w.heap.size w w1 := ((below_drewN hBw nq).alloc (by have := hBw.size; simpa using this) _).grown hgrow (by have := hBw.size; simp; omega) (fun j hj => (HOr.out.lt j hj).1)
            obtain ⟨cur, hg2, hcap, hmax, hsz2, htk⟩ : ∃ cur : List Value, Blk w1 g2 3 cur ∧ p + 1 ≤ c2 ∧ c2 ≤ maxLen ∧ cur.length = c2 ∧ cur.take (p + 1) = ints .i64 xs ++ [.int .i64 0] := by
              rcases hown'.2 with ⟨h, _⟩ | ⟨g', cap', cur, hv, _, hg, h1, h2, h3, ht⟩
              · cases h
              · simp only [Value.slice.injEq, Option.some.injEq, Addr.mk.injEq] at hv
                obtain ⟨⟨rfl, _⟩, _, rfl⟩ := hv
                exact ⟨cur.toList, hg, h1, h2, by simpa using h3, by simpa using ht⟩
            have hne : P1 ≠ g2 := hP2.ne hg2 (by decide)
            have hXL : xs.length = p := HX.out
            have t1 : w1.cell? ⟨P1, 1, none⟩ = some (.int .i64 o.t) := hP2.cell rfl
            obtain ⟨X1, hX1⟩ : ∃ X1, X1 = ints .i64 (xs.drop p) := ⟨_, rfl⟩
            have lX1 : X1.length = p - p := by rw [hX1, ints_len, List.length_drop, hXL]
            have HG2 : Hid (Blk w1 g2 3 cur) := hg2
            have HTK : Hid (cur.take (p + 1) = ints .i64 xs ++ [.int .i64 0]) := htk
            have HX1 : Hid (X1 = ints .i64 (xs.drop p)) := hX1
            have hcap' : ((p : Int) + 1) ≤ (c2 : Int) := by omega
            have hP1l : P1 < w1.heap.size := hP2.lt
            have HP2 : Hid (Blk w1 P1 64 [.int .u8 o.k, .int .i64 o.t, .string o.i]) := hP2
            have HSZ : Hid (cur.length = c2) := hsz2
            clear hP2 hg2 htk hX1 hsz2 hown' hgrow hnil'
            have HSRC : Hid (∀ j v, X1[j]? = some v → w1.cell? ((⟨g2, p, none⟩ : Addr).add j) = some v) := by
              intro j v hv
              rw [Addr.add_lit]
              refine HG2.out.cell ?_
              have hj : j < X1.length := by
                rcases Nat.lt_or_ge j X1.length with h | h
                · exact h
                · rw [List.getElem?_eq_none h] at hv; cases hv
              have h1 : cur[p + j]? = (cur.take (p + 1))[p + j]? := by rw [List.getElem?_take, if_pos (by omega)]
              rw [h1, HTK.out, List.getElem?_append_left (by rw [ints_len, hXL]; omega)]
              rw [HX1.out] at hv
              simp only [ints, List.map_drop, List.getElem?_drop] at hv ⊢
              exact hv
            have HONE : Hid (∀ v ∈ X1, v.oneCell' = true) := by show ∀ v ∈ X1, _; rw [HX1.out]; exact ints_one _ _
            have cutB := fun wx => cut_from g2 (p + 1) c2 p (by omega) (by omega) wx
            obtain ⟨p1, hp1⟩ : ∃ p1 : Nat, p1 = p + 1 := ⟨_, rfl⟩
            obtain ⟨L1, hL1⟩ : ∃ L1 : Nat, L1 = p + 1 := ⟨_, rfl⟩
            have ep : (p1 : Int) = (p : Int) + 1 := by omega
            have q1 : p1 ≤ L1 := by omega
            have wp2 : IntKind.i64.wrap ((p : Int) + 1) = (p : Int) + 1 := by simp only [IntKind.wrap, IntKind.bits, IntKind.signed]; simp; omega
            have HP1' : Hid (p1 = p + 1) := hp1
            rcases Nat.lt_or_ge p1 c2 with hc | hc
            · have cutA := fun wx => cut_from g2 L1 c2 p1 q1 hc wx
              rw [ep, hL1] at cutA
              clear ep hp1 hL1 q1
              go_wp2_with fail
              refine wp_region_any (by kernel_rfl) ?_
              change wpAny _ _ _ _ _ _ _ (World.drew _)
              refine wpAny_take (i := 0) (v := ?_) rfl (by kernel_rfl) (by kernel_rfl) (by kernel_rfl) (fun _ _ _ h => h) (Or.inl ⟨by rfl, ?_⟩) ?_
              rotate_left
              · intro w; go_simp; with_reducible rfl
              refine wpAny_take (i := 1) (v := ?_) rfl (by kernel_rfl) (by kernel_rfl) (by kernel_rfl) (fun _ _ _ h => h) (Or.inl ⟨by rfl, ?_⟩) ?_
              rotate_left
              · intro w; go_simp; with_reducible rfl
              refine wpAny_take (i := 2) (v := ?_) rfl (by kernel_rfl) (by kernel_rfl) (by kernel_rfl) (fun _ _ _ h => h) (Or.inl ⟨by rfl, ?_⟩) ?_
              rotate_left
              · intro w; go_simp; with_reducible rfl
              refine wpAny_take (i := 3) (v := ?_) rfl (by kernel_rfl) (by kernel_rfl) (by kernel_rfl) (fun _ _ _ h => h) (Or.inl ⟨by rfl, ?_⟩) ?_
              rotate_left
              · intro w; go_simp; with_reducible rfl
              refine wpAny_take (i := 4) (v := ?_) rfl (by kernel_rfl) (by kernel_rfl) (by kernel_rfl) (fun _ _ _ h => h) (Or.inl ⟨by rfl, ?_⟩) ?_
              rotate_left
              · intro w; go_simp; with_reducible rfl
              refine wpAny_take (i := 5) (v := ?_) rfl (by kernel_rfl) (by kernel_rfl) (by kernel_rfl) (fun _ _ _ h => h) (Or.inl ⟨by rfl, ?_⟩) ?_
              rotate_left
              · intro w; go_simp; with_reducible rfl
              refine wpAny_take (i := 6) (v := ?_) rfl (by kernel_rfl) (by kernel_rfl) (by kernel_rfl) (fun _ _ _ h => h) (Or.inl ⟨by rfl, ?_⟩) ?_
              rotate_left
              · intro w; go_simp; with_reducible rfl
              refine wpAny_ready (rs := [7]) (by kernel_rfl) (by simp) ?_
              refine AllReady.cons rfl (fun K hK => ?_) ?_
              rotate_left
              · exact AllReady.nil
              refine step_copy_at (by rfl) (.tmp 44) (.tmp 47) 41 41 (by rfl) 3 Yba.underlying41 size3 _ _ _ _ _ _ (by go_simp; first | with_reducible rfl | exact ⟨rfl, rfl, rfl⟩) (by go_simp; first | with_reducible rfl | exact ⟨rfl, rfl, rfl⟩) g2 p1 cur 3 HG2.out X1 (by have := HP1'.out; rw [lX1]; show _ = min _ _; rw [Nat.min_def]; split <;> omega) (fun _ => ⟨by simp, ⟨g2, p, none⟩, by simp, fun j v hv => HSRC.out j v hv⟩) (by have := HP1'.out; rw [lX1, HSZ.out]; omega) HONE.out ?_
              intro w2 HG3 hgr2
              have t2 := (hgr2.cell_far ⟨P1, 1, none⟩ hP1l (by simpa using hne)).trans t1
              refine hK _ _ ?_
              clear hK K
              refine wpAny_done (by kernel_rfl) ?_ _
              rw [HP1'.out] at HG3
              have cp : w2.cell? ⟨g2, p, none⟩ = some ((splice cur (p + 1) X1).getD p (.int .i64 0)) := HG3.out.cell (by rw [List.getD_eq_getElem?_getD, List.getElem?_eq_getElem (by rw [length_splice _ _ _ (by rw [lX1, HSZ.out]; omega), HSZ.out]; omega)]; rfl)
              have fp := HG3.out.frozen p
              have pl : (p : Int) < (p : Int) + 1 := by omega
              have hg2l : g2 < w2.heap.size := HG3.out.lt
              clear cutA cutB HSRC HONE
              go_wp2_with fail
              go_roundw
              case rel =>
                have hs := HG3.out.set p (.int .i64 o.t)
                have htk2 := splice_ins cur xs p o.t (.int .i64 0) (by rw [hXL]; omega) (by rw [hXL]; exact HTK.out)
                rw [← HX1.out, hXL] at htk2
                refine ⟨k + 1, p + 1, c2, some ⟨g2, 0, none⟩, ins xs p o.t, by omega, by omega, by go_num, rfl, ?_, ?_, ?_, ?_⟩
                · show _ = _; rw [ins_len xs p o.t (by rw [hXL]; omega), hXL]
                · show Tx _ _
                  rw [HOo.out]
                  refine tx_ins (by rw [HL.out]; exact hlt) HT1.out p (by rw [hXL]; omega) (fun j hj => ?_) (by rw [← HOo.out]; exact HHI.out)
                  rw [← HOo.out]
                  have h1 := HLE.out j hj
                  have h2 := HF0.out (by trivial) j hj
                  omega
                · refine ⟨by rw [ints_len, ins_len xs p o.t (by rw [hXL]; omega), hXL]; omega, .inr ⟨g2, c2, _, rfl, hgb, hs, hcap, hmax, ?_, ?_⟩⟩
                  · simp [length_splice _ _ _ (show p + 1 + X1.length ≤ cur.length by rw [lX1, HSZ.out]; omega), HSZ.out]
                  · simpa using htk2
                · exact (hB2.drew.grown hgr2 (by have := hB2.size; exact this) (fun q hq => by cases hq; exact hgb)).setCell (p := ⟨g2, p, none⟩) hgb _
              case measure => simp [intOf]; omega
            · have hce : c2 = p1 := by omega
              have cutA := fun wx => cut_end g2 L1 c2 p1 q1 hce wx
              rw [ep, hL1] at cutA
              have HCE : Hid (c2 = p1) := hce
              clear ep hp1 hL1 q1 hce
              go_wp2_with fail
              refine wp_region_any (by kernel_rfl) ?_
              change wpAny _ _ _ _ _ _ _ (World.drew _)
              refine wpAny_take (i := 0) (v := ?_) rfl (by kernel_rfl) (by kernel_rfl) (by kernel_rfl) (fun _ _ _ h => h) (Or.inl ⟨by rfl, ?_⟩) ?_
              rotate_left
              · intro w; go_simp; with_reducible rfl
              refine wpAny_take (i := 1) (v := ?_) rfl (by kernel_rfl) (by kernel_rfl) (by kernel_rfl) (fun _ _ _ h => h) (Or.inl ⟨by rfl, ?_⟩) ?_
              rotate_left
              · intro w; go_simp; with_reducible rfl
              refine wpAny_take (i := 2) (v := ?_) rfl (by kernel_rfl) (by kernel_rfl) (by kernel_rfl) (fun _ _ _ h => h) (Or.inl ⟨by rfl, ?_⟩) ?_
              rotate_left
              · intro w; go_simp; with_reducible rfl
              refine wpAny_take (i := 3) (v := ?_) rfl (by kernel_rfl) (by kernel_rfl) (by kernel_rfl) (fun _ _ _ h => h) (Or.inl ⟨by rfl, ?_⟩) ?_
              rotate_left
              · intro w; go_simp; with_reducible rfl
              refine wpAny_take (i := 4) (v := ?_) rfl (by kernel_rfl) (by kernel_rfl) (by kernel_rfl) (fun _ _ _ h => h) (Or.inl ⟨by rfl, ?_⟩) ?_
              rotate_left
              · intro w; go_simp; with_reducible rfl
              refine wpAny_take (i := 5) (v := ?_) rfl (by kernel_rfl) (by kernel_rfl) (by kernel_rfl) (fun _ _ _ h => h) (Or.inl ⟨by rfl, ?_⟩) ?_
              rotate_left
              · intro w; go_simp; with_reducible rfl
              refine wpAny_take (i := 6) (v := ?_) rfl (by kernel_rfl) (by kernel_rfl) (by kernel_rfl) (fun _ _ _ h => h) (Or.inl ⟨by rfl, ?_⟩) ?_
              rotate_left
              · intro w; go_simp; with_reducible rfl
              refine wpAny_ready (rs := [7]) (by kernel_rfl) (by simp) ?_
              refine AllReady.cons rfl (fun K hK => ?_) ?_
              rotate_left
              · exact AllReady.nil
              refine step_copy_at (by rfl) (.tmp 44) (.tmp 47) 41 41 (by rfl) 3 Yba.underlying41 size3 _ _ _ _ _ _ (by go_simp; first | with_reducible rfl | exact ⟨rfl, rfl, rfl⟩) (by go_simp; first | with_reducible rfl | exact ⟨rfl, rfl, rfl⟩) g2 p1 cur 3 HG2.out X1 (by have := HP1'.out; rw [lX1]; show _ = min _ _; rw [Nat.min_def]; split <;> omega) (fun h => absurd h (by have := HP1'.out; have := HCE.out; rw [lX1]; omega)) (by have := HP1'.out; rw [lX1, HSZ.out]; omega) HONE.out ?_
              intro w2 HG3 hgr2
              have t2 := (hgr2.cell_far ⟨P1, 1, none⟩ hP1l (by simpa using hne)).trans t1
              refine hK _ _ ?_
              clear hK K
              refine wpAny_done (by kernel_rfl) ?_ _
              rw [HP1'.out] at HG3
              have cp : w2.cell? ⟨g2, p, none⟩ = some ((splice cur (p + 1) X1).getD p (.int .i64 0)) := HG3.out.cell (by rw [List.getD_eq_getElem?_getD, List.getElem?_eq_getElem (by rw [length_splice _ _ _ (by rw [lX1, HSZ.out]; omega), HSZ.out]; omega)]; rfl)
              have fp := HG3.out.frozen p
              have pl : (p : Int) < (p : Int) + 1 := by omega
              have hg2l : g2 < w2.heap.size := HG3.out.lt
              clear cutA cutB HSRC HONE
              go_wp2_with fail
              go_roundw
              case rel =>
                have hs := HG3.out.set p (.int .i64 o.t)
                have htk2 := splice_ins cur xs p o.t (.int .i64 0) (by rw [hXL]; omega) (by rw [hXL]; exact HTK.out)
                rw [← HX1.out, hXL] at htk2
                refine ⟨k + 1, p + 1, c2, some ⟨g2, 0, none⟩, ins xs p o.t, by omega, by omega, by go_num, rfl, ?_, ?_, ?_, ?_⟩
                · show _ = _; rw [ins_len xs p o.t (by rw [hXL]; omega), hXL]
                · show Tx _ _
                  rw [HOo.out]
                  refine tx_ins (by rw [HL.out]; exact hlt) HT1.out p (by rw [hXL]; omega) (fun j hj => ?_) (by rw [← HOo.out]; exact HHI.out)
                  rw [← HOo.out]
                  have h1 := HLE.out j hj
                  have h2 := HF0.out (by trivial) j hj
                  omega
                · refine ⟨by rw [ints_len, ins_len xs p o.t (by rw [hXL]; omega), hXL]; omega, .inr ⟨g2, c2, _, rfl, hgb, hs, hcap, hmax, ?_, ?_⟩⟩
                  · simp [length_splice _ _ _ (show p + 1 + X1.length ≤ cur.length by rw [lX1, HSZ.out]; omega), HSZ.out]
                  · simpa using htk2
                · exact (hB2.drew.grown hgr2 (by have := hB2.size; exact this) (fun q hq => by cases hq; exact hgb)).setCell (p := ⟨g2, p, none⟩) hgb _
              case measure => simp [intOf]; omega
    · have hkn : k = n := by omega
      subst hkn
      have kn : ¬ (k : Int) < (k : Int) := by omega
      go_wp2_with fail
      go_ret
      refine ⟨a, c, xs, by rw [HX.out]; simp, ?_, by rw [HX.out]; exact hLk, at_owned HO.out, hB⟩
      have := HT.out
      rwa [← HL.out, List.take_length] at this
end Go.Proofs.Ybulkebqk
