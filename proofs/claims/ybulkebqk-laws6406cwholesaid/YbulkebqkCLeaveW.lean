/-
  zzs6406cinterleave: the walk.
-/
import Derived.Test.YbulkebqkCLeave
import Derived.Laws.MakeOwn
namespace Go.Proofs.Ybulkebqk
open Go.RowKit
set_option linter.unusedVariables false

theorem Yba.zero102 : (Yba.prog.info? 102).map (fun i => (i.zero, i.size, i.bytes)) = some (some (.agg #[.slice none 0 0, .slice none 0 0, .slice none 0 0, .slice none 0 0, .slice none 0 0]), 5, 120) := by kernel_rfl

/-- The length that a slice names. -/
def lenOf : Value → Nat
  | .slice _ n _ => n
  | _ => 0

set_option maxRecDepth 20000 in
set_option maxHeartbeats 3200000 in
theorem leave17 (a : Option Addr) (n cap gs cs np pc : Nat) (ap : Option Addr) (f : Nat → Int × Int × Int) (fp : Nat → Int) (l : List OpV) (w : World) (hn : n ≤ 65536) (hnp : np ≤ 65536) (hA : ArgO w a n f) (hb : ByteO n f) (hl : l.length = n) (hR : Row w gs (opCells l))
    (hP : ArgI .u8 w ap np fp) (hPb : ∀ i, i < np → 0 ≤ fp i ∧ fp i ≤ 255) :
    Calls Yba.prog 17 #[.slice a n cap, .slice (some ⟨gs, 0, none⟩) n cs, .slice ap np pc] w fun e w' => ∃ g m c l', e = .returned (.slice (some ⟨g, 0, none⟩) m c) ∧ l'.length = m ∧ m ≤ n ∧ (∀ o, o ∈ l' → o ∈ l) ∧ w'.ownsRow w.heap.size 64 3 (.slice (some ⟨g, 0, none⟩) m c) m (opCells l') ∧ Below w.heap.size w w' := by
  obtain ⟨i0, hi, hz0, hz1, hz2⟩ := info_parts Yba.inf3
  have HA : Hid (ArgO w a n f) := hA
  have HB : Hid (ByteO n f) := hb
  have HL : Hid (l.length = n) := hl
  have HR : Hid (Row w gs (opCells l)) := hR
  have HPA : Hid (ArgI .u8 w ap np fp) := hP
  have HPB : Hid (∀ i, i < np → 0 ≤ fp i ∧ fp i ≤ 255) := hPb
  have hgs := hR.lt
  clear hA hb hl hR hP hPb
  go_enter Yba.func17, Yba.ntmps17
  go_wp2_with fail
  have hQ : Blk (w.alloc (.cells #[.slice none 0 0, .slice none 0 0, .slice none 0 0, .slice none 0 0, .slice none 0 0] 102)) w.heap.size 102 (List.replicate 5 (.slice none 0 0)) := blk_new w [.slice none 0 0, .slice none 0 0, .slice none 0 0, .slice none 0 0, .slice none 0 0] 102
  -- L1
  have hB0 : Below w.heap.size w (w.alloc (.cells #[.slice none 0 0, .slice none 0 0, .slice none 0 0, .slice none 0 0, .slice none 0 0] 102)) := (Below.refl _ _).alloc (Nat.le_refl _) _
  have hF0 : Five (w.alloc (.cells #[.slice none 0 0, .slice none 0 0, .slice none 0 0, .slice none 0 0, .slice none 0 0] 102)) w.heap.size 0 (List.replicate 5 (.slice none 0 0)) (List.replicate 5 []) := Five.nil _ _
  obtain ⟨B, hBe⟩ : ∃ B, w.heap.size = B := ⟨_, rfl⟩
  have HBE : Hid (w.heap.size = B) := hBe
  rw [hBe] at hQ hB0 hF0 hgs ⊢
  obtain ⟨W0, hW0⟩ : ∃ W0, w.alloc (.cells #[.slice none 0 0, .slice none 0 0, .slice none 0 0, .slice none 0 0, .slice none 0 0] 102) = W0 := ⟨_, rfl⟩
  rw [hW0] at hQ hB0 hF0 ⊢
  have HQ0 : Hid (Blk W0 B 102 (List.replicate 5 (.slice none 0 0))) := hQ
  have HF0 : Hid (Five W0 B 0 (List.replicate 5 (.slice none 0 0)) (List.replicate 5 [])) := hF0
  clear hQ hF0 hW0 hBe
  go_loopw [8, 10, 19] (fun _ _ i wr => ∃ (k : Nat) (vs : List Value) (qs : List (List Nat)), k ≤ n ∧ i = .int .i64 k ∧ Hid (Blk wr B 102 vs) ∧ Hid (Five wr B k vs qs) ∧ Hid ((qs.map List.length).sum = k) ∧ Below B w wr) (fun _ _ i _ => n - (intOf i).toNat)
  case atStart => exact ⟨0, _, _, Nat.zero_le _, rfl, HQ0, HF0, rfl, hB0⟩
  case round =>
    obtain ⟨k, vs, qs, hk, rfl, HQ, HF, HS, hBk⟩ := hrel
    clear HQ0 HF0 hB0
    by_cases hlt : k < n
    · obtain ⟨b, o, rfl, hbl, hc⟩ := HA.out (by omega)
      obtain ⟨c0, c1, c2⟩ := hc k hlt
      obtain ⟨_, ⟨x1, x1'⟩, _⟩ := HB.out k hlt
      have hbl' : b < B := by rw [← HBE.out]; exact hbl
      have d0 := (hBk.cell (p := ⟨b, o + k * 3, none⟩) hbl').trans c0
      have d1 := (hBk.cell (p := ⟨b, o + k * 3 + 1, none⟩) hbl').trans c1
      have d2 := (hBk.cell (p := ⟨b, o + k * 3 + 2, none⟩) hbl').trans c2
      obtain ⟨xk, hxk⟩ : ∃ x, x = (f k).1 := ⟨_, rfl⟩
      obtain ⟨xt, hxt⟩ : ∃ x, x = (f k).2.1 := ⟨_, rfl⟩
      obtain ⟨xi, hxi⟩ : ∃ x, x = (f k).2.2 := ⟨_, rfl⟩
      rw [← hxk] at d0
      rw [← hxt] at d1 x1 x1'
      rw [← hxi] at d2
      obtain ⟨c, hcc⟩ : ∃ c : Nat, xt % 5 = (c : Int) := ⟨(xt % 5).toNat, by omega⟩
      have hc5 : c < 5 := by omega
      have c5 : (c : Int) < 5 := by omega
      obtain ⟨v, hv⟩ : ∃ v, v = vs.getD c default := ⟨_, rfl⟩
      have hlv := HF.out.lv
      have cQ : wr.cell? ⟨B, c, none⟩ = some v := HQ.out.cell (by rw [hv, List.getD_eq_getElem?_getD, List.getElem?_eq_getElem (by omega)]; rfl)
      have fQ := HQ.out.frozen c
      obtain ⟨xs, hxs⟩ : ∃ xs, xs = qs.getD c [] := ⟨_, rfl⟩
      obtain ⟨L, hL⟩ : ∃ L, L = xs.length := ⟨_, rfl⟩
      have hO := HF.out.own c hc5
      rw [← hv, ← hxs, ← hL] at hO
      have hLk : L ≤ k := by
        rw [hL, hxs, ← lens_at, ← HS.out]
        have : ∀ (l : List Nat) c, l.getD c 0 ≤ l.sum := by
          intro l
          induction l with
          | nil => intro c; simp
          | cons y l ih => intro c; cases c with
            | zero => simp
            | succ c => have := ih c; simp at this ⊢; omega
        exact this _ c
      have HO : Hid (wr.ownsRow B 3 1 v L (nats xs)) := hO
      have HV : Hid (v = vs.getD c default) := hv
      have HXS : Hid (xs = qs.getD c []) := hxs
      have HLL : Hid (L = xs.length) := hL
      have hws := hBk.size
      rw [HBE.out] at hws
      have kn : (k : Int) < (n : Int) := by omega
      have hwr : B < wr.heap.size := HQ.out.lt
      clear c0 c1 c2 hc hxk hxt hxi hv hxs hL hO hlv
      go_wp2_with (at_builtin; refine wpList_append_own_at _ rfl (.tmp 31) (.tmp 33) 41 rfl B 3 i0 (.int .i64 0) 1 8 Yba.underlying41 hi hz0 hz1 hz2 rfl (by decide) _ L (nats xs) rfl ((HO.out.alloc _).alloc _) ⟨wr.heap.size + 1, 0, none⟩ 1 1 [.int .i64 (k : Int)] rfl rfl (news1 _ _ (by simp) _ _) (by intro u hu; simp at hu; subst hu; rfl) (by unfold maxLen; omega) (by omega) (by simp; omega) ?_; intro v' w1 hown' hgrow hnil' hat'; obtain ⟨g', c', rfl, hgb⟩ := owns_form hown' (by omega); have hQ1 : Blk w1 B 102 vs := ((HQ.out.alloc (.cells #[.int .u8 xk, .int .u8 xt, .int .u8 xi] 98)).alloc (.cells #[.int .i64 (k : Int)] 3)).grown hgrow (((HQ.out.alloc (.cells #[.int .u8 xk, .int .u8 xt, .int .u8 xi] 98)).alloc (.cells #[.int .i64 (k : Int)] 3)).not_own ((HO.out.alloc (.cells #[.int .u8 xk, .int .u8 xt, .int .u8 xi] 98)).alloc (.cells #[.int .i64 (k : Int)] 3)) (by decide)); have cQ1 : w1.cell? ⟨B, c, none⟩ = some v := (hQ1.cell (by have := HF.out.lv; rw [HV.out, List.getD_eq_getElem?_getD, List.getElem?_eq_getElem (by omega)]; rfl)); have fQ1 := hQ1.frozen c; have hQl := hQ1.lt)
      go_roundw
      case rel =>
        have hF1 : Five w1 B (k + 1) (vs.set c (.slice (some ⟨g', 0, none⟩) (L + 1) c')) (qs.set c (qs.getD c [] ++ [k])) := by
          refine Five.push (((HF.out.mono (Nat.le_succ k)).alloc (.cells #[.int .u8 xk, .int .u8 xt, .int .u8 xi] 98)).alloc (.cells #[.int .i64 (k : Int)] 3)) hc5 (Nat.lt_succ_self k) ?_ ?_ ?_
          · rw [← HXS.out, ← HLL.out]; exact hown'
          · rw [← HV.out]; exact hgrow
          · rw [← HV.out]; exact hat'
        refine ⟨k + 1, _, qs.set c (qs.getD c [] ++ [k]), by omega, by go_num, hQ1.set c _, ?_, ?_, ?_⟩
        · refine hF1.same fun d g hd hg => Below.heap_setCell _ _ _ _ ?_
          have hne := (hQ1.not_own (hF1.own d hd) (by decide))
          intro e
          rw [hg, e] at hne
          exact hne rfl
        · show _ = _
          rw [lens_set, sum_set _ _ (by rw [List.length_map, HF.out.lq]; exact hc5), HS.out]
        · refine Below.setCell (Below.grown ((hBk.alloc hws _).alloc (by simp; omega) _) hgrow (by simp; omega) (fun q hq => (HO.out.lt q hq).1)) (p := ⟨B, c, none⟩) (Nat.le_refl _) _
      case measure => simp [intOf]; omega
    · obtain rfl : k = n := by omega
      have kn : ¬ (k : Int) < (k : Int) := by omega
      obtain ⟨j0, hj0, hy0, hy1, hy2⟩ := info_parts Yba.inf64
      obtain ⟨w3, hmk, hown3, hgrow3⟩ := run_make_own (P := Yba.prog) (wr.alloc (.cells #[.int .i64 0, .int .i64 0, .int .i64 0, .int .i64 0, .int .i64 0] 103)) B 59 64 j0 _ 3 Yba.underlying59 hj0 hy0 hy1 .i64 .i64 k (by rw [hy2]; omega) (by unfold maxLen; omega) (by have := hBk.size; rw [HBE.out] at this; simp; omega)
      have hC : Blk (wr.alloc (.cells #[.int .i64 0, .int .i64 0, .int .i64 0, .int .i64 0, .int .i64 0] 103)) wr.heap.size 103 (nats (List.replicate 5 0)) := blk_new wr [.int .i64 0, .int .i64 0, .int .i64 0, .int .i64 0, .int .i64 0] 103
      have hC3 := hC.grown hgrow3 (by simp)
      have hF3 : Five w3 B k vs qs := (HF.out.alloc (.cells #[.int .i64 0, .int .i64 0, .int .i64 0, .int .i64 0, .int .i64 0] 103)).same fun d g hd hg => hgrow3.block g (by have := (HF.out.block hd hg).2; simp; omega) (by simp)
      have hQ3 := (HQ.out.alloc (.cells #[.int .i64 0, .int .i64 0, .int .i64 0, .int .i64 0, .int .i64 0] 103)).grown hgrow3 (by simp)
      have hB3 : Below B w w3 := ((hBk.alloc (by have := hBk.size; rw [HBE.out] at this; exact this) (.cells #[.int .i64 0, .int .i64 0, .int .i64 0, .int .i64 0, .int .i64 0] 103))).grown hgrow3 (by have := hBk.size; rw [HBE.out] at this; simp; omega) (by intro q hq; cases hq)
      go_wp2_with fail
      obtain ⟨C, hCe⟩ : ∃ C, wr.heap.size = C := ⟨_, rfl⟩
      have hBC : B < C := by rw [← hCe]; exact HQ.out.lt
      rw [hCe] at hC3 ⊢
      simp only [World.size_alloc, hCe] at hown3
      have HQ3 : Hid (Blk w3 B 102 vs) := hQ3
      have HC3 : Hid (Blk w3 C 103 (nats (List.replicate 5 0))) := hC3
      have HF3 : Hid (Five w3 B k vs qs) := hF3
      have HO3 : Hid (w3.ownsRow B 64 3 (.slice (some ⟨C + 1, 0, none⟩) 0 k) 0 (opCells [])) := hown3
      have HQL : Hid (∀ c d : Nat, c < 5 → (qs.getD c []).getD d 0 < k ∨ (qs.getD c []).length ≤ d) := fun c d hc => by
        rcases Nat.lt_or_ge d (qs.getD c []).length with h | h
        · left
          have hin : ∀ (q : List Nat) d, d < q.length → q.getD d 0 ∈ q := fun q d h => by rw [List.getD_eq_getElem?_getD, List.getElem?_eq_getElem h]; simp
          exact hF3.lt c hc _ (hin _ d h)
        · exact .inr h
      clear hC hC3 hF3 hQ3 hmk hown3 hgrow3 HQ HF hBk hCe
      clear wr
      go_loopw [12, 14, 15, 42] (fun ov _ _ i wr => ∃ (j g c : Nat) (cu : List Nat) (l' : List OpV), j ≤ np ∧ i = .int .i64 j ∧ ov = .slice (some ⟨g, 0, none⟩) l'.length c ∧ Hid (cu.length = 5) ∧ Hid (∀ d, d < 5 → cu.getD d 0 ≤ (qs.getD d []).length) ∧ Hid (cu.sum = l'.length) ∧ Hid (∀ o, o ∈ l' → o ∈ l) ∧ Hid (Blk wr B 102 vs) ∧ Hid (Blk wr C 103 (nats cu)) ∧ Hid (Five wr B k vs qs) ∧ Hid (wr.ownsRow B 64 3 (.slice (some ⟨g, 0, none⟩) l'.length c) l'.length (opCells l')) ∧ Below B w wr) (fun _ _ _ i _ => np - (intOf i).toNat)
      case atStart =>
        refine ⟨0, C + 1, k, List.replicate 5 0, [], Nat.zero_le _, rfl, rfl, rfl, fun d hd => ?_, rfl, fun o ho => by simp at ho, HQ3, HC3, HF3, HO3, hB3⟩
        rw [List.getD_eq_getElem?_getD, List.getElem?_replicate, if_pos hd]; simp
      case round =>
        obtain ⟨j, g, c, cu, l', hj, rfl, rfl, HCL, HCU, HCS, HLM, HQ4, HC4, HF4, HO4, hB4⟩ := hrel
        clear HQ3 HC3 HF3 HO3 hB3
        obtain ⟨m, hm⟩ : ∃ m, m = l'.length := ⟨_, rfl⟩
        rw [← hm] at HO4 ⊢
        have HM : Hid (m = l'.length) := hm
        clear hm
        by_cases hlt : j < np
        · obtain ⟨b, o, rfl, hbl, hc⟩ := HPA.out (by omega)
          obtain ⟨p0, p1⟩ := HPB.out j hlt
          have hbl' : b < B := by rw [← HBE.out]; exact hbl
          have d0 := (hB4.cell (p := ⟨b, o + j, none⟩) hbl').trans (hc j hlt)
          obtain ⟨x, hx⟩ : ∃ x, x = fp j := ⟨_, rfl⟩
          rw [← hx] at d0 p0 p1
          obtain ⟨d, hd⟩ : ∃ d : Nat, x % 5 = (d : Int) := ⟨(x % 5).toNat, by omega⟩
          have hd5 : d < 5 := by omega
          have d5 : (d : Int) < 5 := by omega
          have jn : (j : Int) < (np : Int) := by omega
          clear hx hc
          obtain ⟨v, hv⟩ : ∃ v, v = vs.getD d default := ⟨_, rfl⟩
          obtain ⟨xs, hxs⟩ : ∃ xs, xs = qs.getD d [] := ⟨_, rfl⟩
          obtain ⟨y, hy⟩ : ∃ y, y = cu.getD d 0 := ⟨_, rfl⟩
          have cQ : wr.cell? ⟨B, d, none⟩ = some v := HQ4.out.cell (by have := HF4.out.lv; rw [hv, List.getD_eq_getElem?_getD, List.getElem?_eq_getElem (by omega)]; rfl)
          have cC : wr.cell? ⟨C, d, none⟩ = some (.int .i64 (y : Int)) := by rw [hy]; exact HC4.out.cell (nats_at cu d (by have := HCL.out; omega))
          have fC := HC4.out.frozen d
          have hO := HF4.out.own d hd5
          rw [← hv, ← hxs] at hO
          obtain ⟨L, hL⟩ : ∃ L, L = xs.length := ⟨_, rfl⟩
          rw [← hL] at hO
          have hvf : ∃ a c0, v = .slice a L c0 := by
            rcases hO.2 with ⟨e, h0⟩ | ⟨g0, cap0, cur0, e, _⟩
            · exact ⟨none, 0, by rw [e, h0]⟩
            · exact ⟨_, _, e⟩
          obtain ⟨av, cv, rfl⟩ := hvf
          have HV : Hid (.slice av L cv = vs.getD d default) := hv
          have HXS : Hid (xs = qs.getD d []) := hxs
          have HY : Hid (y = cu.getD d 0) := hy
          have HLL : Hid (L = xs.length) := hL
          have HO : Hid (wr.ownsRow B 3 1 (.slice av L cv) L (nats xs)) := hO
          have hyL : y ≤ L := by rw [hy, hL, hxs]; exact HCU.out d hd5
          have hLk : L ≤ k := by
            have h1 : (qs.map List.length).getD d 0 ≤ (qs.map List.length).sum := by
              have : ∀ (l : List Nat) c, l.getD c 0 ≤ l.sum := by
                intro l
                induction l with
                | nil => intro c; simp
                | cons y l ih => intro c; cases c with
                  | zero => simp
                  | succ c => have := ih c; simp at this ⊢; omega
              exact this _ d
            rw [lens_at, HS.out] at h1
            rw [hL, hxs]; exact h1
          have hmk' : m ≤ k := by
            rw [HM.out, ← HCS.out, ← HS.out]
            refine sum_le cu (qs.map List.length) (by rw [HCL.out, List.length_map, HF4.out.lq]) fun d hd => ?_
            rw [lens_at]
            exact HCU.out d (by rw [HCL.out] at hd; exact hd)
          clear hv hxs hy hL hO
          by_cases hyl : y < L
          · obtain ⟨gq, cq, hv, hgq⟩ := owns_form HO.out (by omega)
            simp only [Value.slice.injEq, true_and] at hv
            obtain ⟨rfl, rfl⟩ := hv
            have ceq := (row_owned HO.out).cell (nats_at xs y (by rw [← HLL.out]; exact hyl))
            obtain ⟨ix, hix⟩ : ∃ ix, ix = xs.getD y 0 := ⟨_, rfl⟩
            rw [← hix] at ceq
            have hixk : ix < k := by
              rw [hix, HXS.out]
              rcases HQL.out d y hd5 with h | h
              · exact h
              · rw [← HXS.out, ← HLL.out] at h; omega
            obtain ⟨s0, s1, s2⟩ := opCells_at l ix (by rw [HL.out]; exact hixk)
            have hRr := HR.out.below hB4 hgs
            have e0 := hRr.cell s0
            have e1 := hRr.cell s1
            have e2 := hRr.cell s2
            obtain ⟨op, hop⟩ : ∃ op, op = l.getD ix default := ⟨_, rfl⟩
            rw [← hop] at e0 e1 e2
            have hopm : op ∈ l := by rw [hop, List.getD_eq_getElem?_getD, List.getElem?_eq_getElem (by rw [HL.out]; exact hixk)]; simp
            have HOP : Hid (op ∈ l) := hopm
            have yL : (y : Int) < (L : Int) := by omega
            have ik : (ix : Int) < (k : Int) := by omega
            have hg4 : g < wr.heap.size := (row_owned HO4.out).lt
            have hgB : B ≤ g := (HO4.out.lt g rfl).1
            have hws : B ≤ wr.heap.size := by omega
            have n1 : B ≠ g := HQ4.out.row |>.lt |> fun _ => fun e => (HQ4.out.not_own HO4.out (by decide)) (by rw [e]; rfl)
            have n2 : C ≠ g := fun e => (HC4.out.not_own HO4.out (by decide)) (by rw [e]; rfl)
            have n3 : gq ≠ g := fun e => own_not_own HO.out HO4.out (by decide) gq rfl (by rw [e]; rfl)
            have wB : B < wr.heap.size := HQ4.out.lt
            have wC : C < wr.heap.size := HC4.out.lt
            have wq : gq < wr.heap.size := (row_owned HO.out).lt
            clear hix s0 s1 s2 hRr hop hopm
            go_wp2_with fail
            go_quiet (fail)
            go_wp2_with fail
            obtain ⟨W5, hW5⟩ : ∃ W5, wr.drewN nq = W5 := ⟨_, rfl⟩
            have HQ5 : Hid (Blk W5 B 102 vs) := by rw [← hW5]; exact HQ4.out
            have HC5 : Hid (Blk W5 C 103 (nats cu)) := by rw [← hW5]; exact HC4.out
            have HF5 : Hid (Five W5 B k vs qs) := by rw [← hW5]; exact HF4.out.same fun _ _ _ _ => rfl
            have HO5 : Hid (W5.ownsRow B 64 3 (.slice (some ⟨g, 0, none⟩) m c) m (opCells l')) := by rw [← hW5]; exact HO4.out
            have HOq : Hid (W5.ownsRow B 3 1 (.slice (some ⟨gq, 0, none⟩) L cv) L (nats xs)) := by rw [← hW5]; exact HO.out
            have hB5 : Below B w W5 := by rw [← hW5]; exact below_drewN hB4 _
            have dQ : W5.cell? ⟨B, d, none⟩ = some (.slice (some ⟨gq, 0, none⟩) L cv) := by rw [← hW5]; exact cQ
            have dC : W5.cell? ⟨C, d, none⟩ = some (.int .i64 (y : Int)) := by rw [← hW5]; exact cC
            have dq : W5.cell? ⟨gq, y, none⟩ = some (.int .i64 (ix : Int)) := by rw [← hW5]; exact ceq
            have k0 : W5.cell? ⟨gs, ix * 3, none⟩ = some (.int .u8 op.k) := by rw [← hW5]; exact e0
            have k1 : W5.cell? ⟨gs, ix * 3 + 1, none⟩ = some (.int .i64 op.t) := by rw [← hW5]; exact e1
            have k2 : W5.cell? ⟨gs, ix * 3 + 2, none⟩ = some (.string op.i) := by rw [← hW5]; exact e2
            have hw5 : W5.heap.size = wr.heap.size := by rw [← hW5]; rfl
            obtain ⟨P5, hP5⟩ : ∃ P5, wr.heap.size = P5 := ⟨_, rfl⟩
            rw [hP5] at hw5 hg4 hws wB wC wq
            rw [hW5]
            clear hW5 hP5 d0 cQ cC ceq e0 e1 e2 hB4 HQ4 HC4 HF4 HO4 HO fC
            clear wr
            go_region_held3 (fun w' => w'.cell? ⟨B, d, none⟩ = some (.slice (some ⟨gq, 0, none⟩) L cv) ∧ w'.cell? ⟨C, d, none⟩ = some (.int .i64 (y : Int)) ∧ w'.cell? ⟨gq, y, none⟩ = some (.int .i64 (ix : Int)) ∧ w'.cell? ⟨gs, ix * 3, none⟩ = some (.int .u8 op.k) ∧ w'.cell? ⟨gs, ix * 3 + 1, none⟩ = some (.int .i64 op.t) ∧ w'.cell? ⟨gs, ix * 3 + 2, none⟩ = some (.string op.i))
              (first
                | go_keep
                | (go_split_ands
                   refine ⟨?_, ?_, ?_, ?_, ?_, ?_⟩
                   · (rw [hgrow.cell_far _ (by simp; omega) (by simp [Value.ownBlock]; omega)]; assumption)
                   · (rw [hgrow.cell_far _ (by simp; omega) (by simp [Value.ownBlock]; omega)]; assumption)
                   · (rw [hgrow.cell_far _ (by simp; omega) (by simp [Value.ownBlock]; omega)]; assumption)
                   · (rw [hgrow.cell_far _ (by simp; omega) (by simp [Value.ownBlock]; omega)]; assumption)
                   · (rw [hgrow.cell_far _ (by simp; omega) (by simp [Value.ownBlock]; omega)]; assumption)
                   · (rw [hgrow.cell_far _ (by simp; omega) (by simp [Value.ownBlock]; omega)]; assumption)))
              ((refine step_append_lies _ (by rfl) _ _ _ (by rfl) B 64 j0 _ 3 32 Yba.underlying59 hj0 hy0 hy1 hy2 rfl (by omega) _ m (opCells l') (by rfl) ((HO5.out.alloc _).drew)
                    ⟨P5, 0, none⟩ 1 1 [.int .u8 op.k, .int .i64 op.t, .string op.i] (by rfl) (by rfl) (by rw [← hw5]; exact World.news_of_block (cs := #[.int .u8 op.k, .int .i64 op.t, .string op.i]) (t := 64) (fr := (0, 0)) (heap_alloc_new W5 _)) (by simp [Value.oneCell'])
                    (by omega) (by unfold maxLen; omega) (by omega) (by simp; omega) (P5 + 1) (by simp; omega) ?_; intro gg cap1 w1 hown1 hgrow hat hlt1))
            have hWa : Below B w W5.drew := hB5.drew
            have HQ6 : Hid (Blk w1 B 102 vs) := by
              show Blk _ _ _ _
              exact (((HQ5.out.alloc (.cells #[.int .u8 op.k, .int .i64 op.t, .string op.i] 64)).drew).grown hgrow (by simp [Value.ownBlock]; exact n1))
            have HC6 : Hid (Blk w1 C 103 (nats cu)) := by
              show Blk _ _ _ _
              exact (((HC5.out.alloc (.cells #[.int .u8 op.k, .int .i64 op.t, .string op.i] 64)).drew).grown hgrow (by simp [Value.ownBlock]; exact n2))
            have HF6 : Hid (Five w1 B k vs qs) := by
              refine (HF5.out.alloc (.cells #[.int .u8 op.k, .int .i64 op.t, .string op.i] 64)).same fun e g0 he hg0 => hgrow.block g0 (by have := (HF5.out.block he hg0).2; simp; omega) ?_
              simp only [Value.ownBlock]
              intro e'
              simp only [Option.some.injEq] at e'
              have := own_not_own (HF5.out.own e he) HO5.out (by decide) g0 hg0
              exact this (by rw [e']; rfl)
            have hB6 : Below B w w1 := ((hB5.alloc (by omega) _).drew).grown hgrow (by simp; omega) (by intro q hq; cases hq; exact hgB)
            have c6 : w1.cell? ⟨C, d, none⟩ = some (.int .i64 (y : Int)) := by
              rw [HY.out]; exact HC6.out.cell (nats_at cu d (by have := HCL.out; omega))
            have f6 := HC6.out.frozen d
            have hyb : (y : Int) ≤ 65536 := by omega
            clear dQ dC dq k0 k1 k2 HQ5 HC5 HF5 hB5 hWa
            go_wp2_with fail
            go_roundw
            case rel =>
              refine ⟨j + 1, gg, cap1, cu.set d (y + 1), l' ++ [op], by omega, by go_num, by rw [List.length_append, ← HM.out]; rfl, by rw [List.length_set]; exact HCL, fun e he => ?_, ?_, fun o ho => ?_, HQ6.out.other ⟨C, d, none⟩ _ (by simp; omega), ?_, ?_, ?_, hB6.setCell (p := ⟨C, d, none⟩) (by simp; omega) _⟩
              · rw [getD_set _ _ _ _ _ (by have := HCL.out; omega)]
                split
                · rename_i e'; rw [← e', ← HXS.out, ← HLL.out]; omega
                · exact HCU.out e he
              · show _ = _
                rw [HY.out, sum_set _ _ (by have := HCL.out; omega), HCS.out, List.length_append]; rfl
              · rcases List.mem_append.1 ho with h | h
                · exact HLM.out o h
                · rw [List.mem_singleton.1 h]; exact HOP.out
              · have hs := HC6.out.set d (.int .i64 ((y + 1 : Nat) : Int))
                rw [nats_set] at hs
                exact hs
              · refine HF6.out.same fun e g0 he hg0 => Below.heap_setCell _ _ _ _ ?_
                intro e'
                exact (HC6.out.not_own (HF6.out.own e he) (by decide)) (by rw [hg0, e'])
              · show World.ownsRow _ _ _ _ _ _ _
                rw [List.length_append, ← HM.out, opCells_app]
                refine owns_same (xs := opCells l' ++ opCells [op]) hown1 fun g0 hg0 => Below.heap_setCell _ _ _ _ ?_
                intro e'
                exact (HC6.out.not_own hown1 (by decide)) (by simp [Value.ownBlock] at hg0 e' ⊢; omega)
            case measure => simp [intOf]; omega
          · have hyl' : ¬ (y : Int) < (L : Int) := by omega
            go_wp2_with fail
            go_quiet (fail)
            go_wp2_with fail
            go_roundw
            case rel =>
              exact ⟨j + 1, g, c, cu, l', by omega, by go_num, by rw [← HM.out], HCL, HCU, HCS, HLM, HQ4.out.drewN _, HC4.out.drewN _, HF4.out.same fun _ _ _ _ => rfl, by rw [← HM.out]; exact HO4.out, below_drewN hB4 _⟩
            case measure => simp [intOf]; omega
        · have jn : ¬ (j : Int) < (np : Int) := by omega
          go_wp2_with fail
          go_loopw [12, 16] (fun ov i wr => ∃ (d g c : Nat) (cu : List Nat) (l' : List OpV), d ≤ 5 ∧ i = .int .i64 d ∧ ov = .slice (some ⟨g, 0, none⟩) l'.length c ∧ Hid (cu.length = 5) ∧ Hid (∀ d, d < 5 → cu.getD d 0 ≤ (qs.getD d []).length) ∧ Hid (cu.sum = l'.length) ∧ Hid (∀ o, o ∈ l' → o ∈ l) ∧ Hid (Blk wr B 102 vs) ∧ Hid (Blk wr C 103 (nats cu)) ∧ Hid (Five wr B k vs qs) ∧ Hid (wr.ownsRow B 64 3 (.slice (some ⟨g, 0, none⟩) l'.length c) l'.length (opCells l')) ∧ Below B w wr) (fun _ i _ => 5 - (intOf i).toNat)
          case atStart => exact ⟨0, g, c, cu, l', by omega, rfl, by rw [← HM.out], HCL, HCU, HCS, HLM, HQ4, HC4, HF4, by rw [← HM.out]; exact HO4, hB4⟩
          case round =>
            clear HCL HCU HCS HLM HQ4 HC4 HF4 HO4 hB4 HM
            obtain ⟨d, g, c, cu, l', hd, rfl, rfl, HCL, HCU, HCS, HLM, HQ4, HC4, HF4, HO4, hB4⟩ := hrel
            by_cases hd5 : d < 5
            · have d5 : (d : Int) < 5 := by omega
              go_wp2_with fail
              go_loopw [12] (fun ov wr => ∃ (g c : Nat) (cu : List Nat) (l' : List OpV), ov = .slice (some ⟨g, 0, none⟩) l'.length c ∧ Hid (cu.length = 5) ∧ Hid (∀ d, d < 5 → cu.getD d 0 ≤ (qs.getD d []).length) ∧ Hid (cu.sum = l'.length) ∧ Hid (∀ o, o ∈ l' → o ∈ l) ∧ Hid (Blk wr B 102 vs) ∧ Hid (Blk wr C 103 (nats cu)) ∧ Hid (Five wr B k vs qs) ∧ Hid (wr.ownsRow B 64 3 (.slice (some ⟨g, 0, none⟩) l'.length c) l'.length (opCells l')) ∧ Below B w wr) (fun ov _ => k - lenOf ov)
              case atStart => exact ⟨g, c, cu, l', rfl, HCL, HCU, HCS, HLM, HQ4, HC4, HF4, HO4, hB4⟩
              case round =>
                clear HCL HCU HCS HLM HQ4 HC4 HF4 HO4 hB4
                obtain ⟨g, c, cu, l', rfl, HCL, HCU, HCS, HLM, HQ4, HC4, HF4, HO4, hB4⟩ := hrel
                obtain ⟨m, hm⟩ : ∃ m, m = l'.length := ⟨_, rfl⟩
                rw [← hm] at HO4 ⊢
                have HM : Hid (m = l'.length) := hm
                clear hm
                obtain ⟨v, hv⟩ : ∃ v, v = vs.getD d default := ⟨_, rfl⟩
                obtain ⟨xs, hxs⟩ : ∃ xs, xs = qs.getD d [] := ⟨_, rfl⟩
                obtain ⟨y, hy⟩ : ∃ y, y = cu.getD d 0 := ⟨_, rfl⟩
                have cQ : wr.cell? ⟨B, d, none⟩ = some v := HQ4.out.cell (by have := HF4.out.lv; rw [hv, List.getD_eq_getElem?_getD, List.getElem?_eq_getElem (by omega)]; rfl)
                have cC : wr.cell? ⟨C, d, none⟩ = some (.int .i64 (y : Int)) := by rw [hy]; exact HC4.out.cell (nats_at cu d (by have := HCL.out; omega))
                have fC := HC4.out.frozen d
                have hO := HF4.out.own d hd5
                rw [← hv, ← hxs] at hO
                obtain ⟨L, hL⟩ : ∃ L, L = xs.length := ⟨_, rfl⟩
                rw [← hL] at hO
                have hvf : ∃ a c0, v = .slice a L c0 := by
                  rcases hO.2 with ⟨e, h0⟩ | ⟨g0, cap0, cur0, e, _⟩
                  · exact ⟨none, 0, by rw [e, h0]⟩
                  · exact ⟨_, _, e⟩
                obtain ⟨av, cv, rfl⟩ := hvf
                have HV : Hid (.slice av L cv = vs.getD d default) := hv
                have HXS : Hid (xs = qs.getD d []) := hxs
                have HY : Hid (y = cu.getD d 0) := hy
                have HLL : Hid (L = xs.length) := hL
                have HO : Hid (wr.ownsRow B 3 1 (.slice av L cv) L (nats xs)) := hO
                have hyL : y ≤ L := by rw [hy, hL, hxs]; exact HCU.out d hd5
                have hLk : L ≤ k := by
                  have h1 : (qs.map List.length).getD d 0 ≤ (qs.map List.length).sum := by
                    have : ∀ (l : List Nat) c, l.getD c 0 ≤ l.sum := by
                      intro l
                      induction l with
                      | nil => intro c; simp
                      | cons y l ih => intro c; cases c with
                        | zero => simp
                        | succ c => have := ih c; simp at this ⊢; omega
                    exact this _ d
                  rw [lens_at, HS.out] at h1
                  rw [hL, hxs]; exact h1
                have hmk' : m ≤ k := by
                  rw [HM.out, ← HCS.out, ← HS.out]
                  refine sum_le cu (qs.map List.length) (by rw [HCL.out, List.length_map, HF4.out.lq]) fun d hd => ?_
                  rw [lens_at]
                  exact HCU.out d (by rw [HCL.out] at hd; exact hd)
                clear hv hxs hy hL hO
                by_cases hyl : y < L
                · obtain ⟨gq, cq, hv, hgq⟩ := owns_form HO.out (by omega)
                  simp only [Value.slice.injEq, true_and] at hv
                  obtain ⟨rfl, rfl⟩ := hv
                  have ceq := (row_owned HO.out).cell (nats_at xs y (by rw [← HLL.out]; exact hyl))
                  obtain ⟨ix, hix⟩ : ∃ ix, ix = xs.getD y 0 := ⟨_, rfl⟩
                  rw [← hix] at ceq
                  have hixk : ix < k := by
                    rw [hix, HXS.out]
                    rcases HQL.out d y hd5 with h | h
                    · exact h
                    · rw [← HXS.out, ← HLL.out] at h; omega
                  obtain ⟨s0, s1, s2⟩ := opCells_at l ix (by rw [HL.out]; exact hixk)
                  have hRr := HR.out.below hB4 hgs
                  have e0 := hRr.cell s0
                  have e1 := hRr.cell s1
                  have e2 := hRr.cell s2
                  obtain ⟨op, hop⟩ : ∃ op, op = l.getD ix default := ⟨_, rfl⟩
                  rw [← hop] at e0 e1 e2
                  have hopm : op ∈ l := by rw [hop, List.getD_eq_getElem?_getD, List.getElem?_eq_getElem (by rw [HL.out]; exact hixk)]; simp
                  have HOP : Hid (op ∈ l) := hopm
                  have hm1 : m + 1 ≤ k := by
                    have h1 := sum_set cu d (by have := HCL.out; omega)
                    rw [HCS.out, ← HM.out] at h1
                    rw [← h1, ← HS.out]
                    refine sum_le _ (qs.map List.length) (by rw [List.length_set, HCL.out, List.length_map, HF4.out.lq]) fun e he => ?_
                    rw [lens_at, getD_set _ _ _ _ _ (by have := HCL.out; omega)]
                    split
                    · rename_i e'; rw [← e', ← HY.out, ← HXS.out, ← HLL.out]; omega
                    · exact HCU.out e (by rw [List.length_set, HCL.out] at he; exact he)
                  have yL : (y : Int) < (L : Int) := by omega
                  have ik : (ix : Int) < (k : Int) := by omega
                  have hg4 : g < wr.heap.size := (row_owned HO4.out).lt
                  have hgB : B ≤ g := (HO4.out.lt g rfl).1
                  have hws : B ≤ wr.heap.size := by omega
                  have n1 : B ≠ g := HQ4.out.row |>.lt |> fun _ => fun e => (HQ4.out.not_own HO4.out (by decide)) (by rw [e]; rfl)
                  have n2 : C ≠ g := fun e => (HC4.out.not_own HO4.out (by decide)) (by rw [e]; rfl)
                  have n3 : gq ≠ g := fun e => own_not_own HO.out HO4.out (by decide) gq rfl (by rw [e]; rfl)
                  have wB : B < wr.heap.size := HQ4.out.lt
                  have wC : C < wr.heap.size := HC4.out.lt
                  have wq : gq < wr.heap.size := (row_owned HO.out).lt
                  clear hix s0 s1 s2 hRr hop hopm
                  go_wp2_with fail
                  go_quiet (fail)
                  go_wp2_with fail
                  obtain ⟨W5, hW5⟩ : ∃ W5, wr.drewN nq = W5 := ⟨_, rfl⟩
                  have HQ5 : Hid (Blk W5 B 102 vs) := by rw [← hW5]; exact HQ4.out
                  have HC5 : Hid (Blk W5 C 103 (nats cu)) := by rw [← hW5]; exact HC4.out
                  have HF5 : Hid (Five W5 B k vs qs) := by rw [← hW5]; exact HF4.out.same fun _ _ _ _ => rfl
                  have HO5 : Hid (W5.ownsRow B 64 3 (.slice (some ⟨g, 0, none⟩) m c) m (opCells l')) := by rw [← hW5]; exact HO4.out
                  have HOq : Hid (W5.ownsRow B 3 1 (.slice (some ⟨gq, 0, none⟩) L cv) L (nats xs)) := by rw [← hW5]; exact HO.out
                  have hB5 : Below B w W5 := by rw [← hW5]; exact below_drewN hB4 _
                  have dQ : W5.cell? ⟨B, d, none⟩ = some (.slice (some ⟨gq, 0, none⟩) L cv) := by rw [← hW5]; exact cQ
                  have dC : W5.cell? ⟨C, d, none⟩ = some (.int .i64 (y : Int)) := by rw [← hW5]; exact cC
                  have dq : W5.cell? ⟨gq, y, none⟩ = some (.int .i64 (ix : Int)) := by rw [← hW5]; exact ceq
                  have k0 : W5.cell? ⟨gs, ix * 3, none⟩ = some (.int .u8 op.k) := by rw [← hW5]; exact e0
                  have k1 : W5.cell? ⟨gs, ix * 3 + 1, none⟩ = some (.int .i64 op.t) := by rw [← hW5]; exact e1
                  have k2 : W5.cell? ⟨gs, ix * 3 + 2, none⟩ = some (.string op.i) := by rw [← hW5]; exact e2
                  have hw5 : W5.heap.size = wr.heap.size := by rw [← hW5]; rfl
                  obtain ⟨P5, hP5⟩ : ∃ P5, wr.heap.size = P5 := ⟨_, rfl⟩
                  rw [hP5] at hw5 hg4 hws wB wC wq
                  rw [hW5]
                  clear hW5 hP5 cQ cC ceq e0 e1 e2 hB4 HQ4 HC4 HF4 HO4 HO fC
                  clear wr
                  go_region_held3 (fun w' => w'.cell? ⟨B, d, none⟩ = some (.slice (some ⟨gq, 0, none⟩) L cv) ∧ w'.cell? ⟨C, d, none⟩ = some (.int .i64 (y : Int)) ∧ w'.cell? ⟨gq, y, none⟩ = some (.int .i64 (ix : Int)) ∧ w'.cell? ⟨gs, ix * 3, none⟩ = some (.int .u8 op.k) ∧ w'.cell? ⟨gs, ix * 3 + 1, none⟩ = some (.int .i64 op.t) ∧ w'.cell? ⟨gs, ix * 3 + 2, none⟩ = some (.string op.i))
                    (first
                      | go_keep
                      | (go_split_ands
                         refine ⟨?_, ?_, ?_, ?_, ?_, ?_⟩
                         · (rw [hgrow.cell_far _ (by simp; omega) (by simp [Value.ownBlock]; omega)]; assumption)
                         · (rw [hgrow.cell_far _ (by simp; omega) (by simp [Value.ownBlock]; omega)]; assumption)
                         · (rw [hgrow.cell_far _ (by simp; omega) (by simp [Value.ownBlock]; omega)]; assumption)
                         · (rw [hgrow.cell_far _ (by simp; omega) (by simp [Value.ownBlock]; omega)]; assumption)
                         · (rw [hgrow.cell_far _ (by simp; omega) (by simp [Value.ownBlock]; omega)]; assumption)
                         · (rw [hgrow.cell_far _ (by simp; omega) (by simp [Value.ownBlock]; omega)]; assumption)))
                    ((refine step_append_lies _ (by rfl) _ _ _ (by rfl) B 64 j0 _ 3 32 Yba.underlying59 hj0 hy0 hy1 hy2 rfl (by omega) _ m (opCells l') (by rfl) ((HO5.out.alloc _).drew)
                          ⟨P5, 0, none⟩ 1 1 [.int .u8 op.k, .int .i64 op.t, .string op.i] (by rfl) (by rfl) (by rw [← hw5]; exact World.news_of_block (cs := #[.int .u8 op.k, .int .i64 op.t, .string op.i]) (t := 64) (fr := (0, 0)) (heap_alloc_new W5 _)) (by simp [Value.oneCell'])
                          (by omega) (by unfold maxLen; omega) (by omega) (by simp; omega) (P5 + 1) (by simp; omega) ?_; intro gg cap1 w1 hown1 hgrow hat hlt1))
                  have hWa : Below B w W5.drew := hB5.drew
                  have HQ6 : Hid (Blk w1 B 102 vs) := by
                    show Blk _ _ _ _
                    exact (((HQ5.out.alloc (.cells #[.int .u8 op.k, .int .i64 op.t, .string op.i] 64)).drew).grown hgrow (by simp [Value.ownBlock]; exact n1))
                  have HC6 : Hid (Blk w1 C 103 (nats cu)) := by
                    show Blk _ _ _ _
                    exact (((HC5.out.alloc (.cells #[.int .u8 op.k, .int .i64 op.t, .string op.i] 64)).drew).grown hgrow (by simp [Value.ownBlock]; exact n2))
                  have HF6 : Hid (Five w1 B k vs qs) := by
                    refine (HF5.out.alloc (.cells #[.int .u8 op.k, .int .i64 op.t, .string op.i] 64)).same fun e g0 he hg0 => hgrow.block g0 (by have := (HF5.out.block he hg0).2; simp; omega) ?_
                    simp only [Value.ownBlock]
                    intro e'
                    simp only [Option.some.injEq] at e'
                    have := own_not_own (HF5.out.own e he) HO5.out (by decide) g0 hg0
                    exact this (by rw [e']; rfl)
                  have hB6 : Below B w w1 := ((hB5.alloc (by omega) _).drew).grown hgrow (by simp; omega) (by intro q hq; cases hq; exact hgB)
                  have c6 : w1.cell? ⟨C, d, none⟩ = some (.int .i64 (y : Int)) := by
                    rw [HY.out]; exact HC6.out.cell (nats_at cu d (by have := HCL.out; omega))
                  have f6 := HC6.out.frozen d
                  have hyb : (y : Int) ≤ 65536 := by omega
                  clear dQ dC dq k0 k1 k2 HQ5 HC5 HF5 hB5 hWa
                  go_wp2_with fail
                  go_roundw
                  case rel =>
                    refine ⟨gg, cap1, cu.set d (y + 1), l' ++ [op], by rw [List.length_append, ← HM.out]; rfl, by rw [List.length_set]; exact HCL, fun e he => ?_, ?_, fun o ho => ?_, HQ6.out.other ⟨C, d, none⟩ _ (by simp; omega), ?_, ?_, ?_, hB6.setCell (p := ⟨C, d, none⟩) (by simp; omega) _⟩
                    · rw [getD_set _ _ _ _ _ (by have := HCL.out; omega)]
                      split
                      · rename_i e'; rw [← e', ← HXS.out, ← HLL.out]; omega
                      · exact HCU.out e he
                    · show _ = _
                      rw [HY.out, sum_set _ _ (by have := HCL.out; omega), HCS.out, List.length_append]; rfl
                    · rcases List.mem_append.1 ho with h | h
                      · exact HLM.out o h
                      · rw [List.mem_singleton.1 h]; exact HOP.out
                    · have hs := HC6.out.set d (.int .i64 ((y + 1 : Nat) : Int))
                      rw [nats_set] at hs
                      exact hs
                    · refine HF6.out.same fun e g0 he hg0 => Below.heap_setCell _ _ _ _ ?_
                      intro e'
                      exact (HC6.out.not_own (HF6.out.own e he) (by decide)) (by rw [hg0, e'])
                    · show World.ownsRow _ _ _ _ _ _ _
                      rw [List.length_append, ← HM.out, opCells_app]
                      refine owns_same (xs := opCells l' ++ opCells [op]) hown1 fun g0 hg0 => Below.heap_setCell _ _ _ _ ?_
                      intro e'
                      exact (HC6.out.not_own hown1 (by decide)) (by simp [Value.ownBlock] at hg0 e' ⊢; omega)
                  case measure => simp [lenOf]; omega
                · have hyl' : ¬ (y : Int) < (L : Int) := by omega
                  go_wp2_with fail
                  go_quiet (fail)
                  go_wp2_with fail
                  go_roundw
                  case rel =>
                    exact ⟨d + 1, g, c, cu, l', by omega, by go_num, by rw [← HM.out], HCL, HCU, HCS, HLM, HQ4.out.drewN _, HC4.out.drewN _, HF4.out.same fun _ _ _ _ => rfl, by rw [← HM.out]; exact HO4.out, below_drewN hB4 _⟩
                  case measure => simp [intOf]; omega
            · have hd5' : d = 5 := by omega
              subst hd5'
              go_wp2_with fail
              go_ret
              have hmk' : l'.length ≤ k := by
                rw [← HCS.out, ← HS.out]
                refine sum_le cu (qs.map List.length) (by rw [HCL.out, List.length_map, HF4.out.lq]) fun d hd => ?_
                rw [lens_at]
                exact HCU.out d (by rw [HCL.out] at hd; exact hd)
              exact ⟨g, l'.length, c, l', by simp, rfl, hmk', HLM.out, by rw [HBE.out]; exact HO4.out, by rw [HBE.out]; exact hB4⟩
end Go.Proofs.Ybulkebqk
