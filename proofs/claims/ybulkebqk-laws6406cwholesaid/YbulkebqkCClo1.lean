/-
  indexSchedule's function literal: an item gets the next number where it has none.
-/
import Derived.Test.YbulkebqkCItems
import Derived.Maps.AppendAt
import Derived.Deep.RegionHeld
import Derived.StringKeys
namespace Go.Proofs.Ybulkebqk
open Go.RowKit Go.Maps Go.WideMaps
set_option linter.unusedVariables false
set_option linter.unusedSimpArgs false

theorem plc_at {α : Type} [DecidableEq α] {xs : List α} {v : α} (h : v ∈ xs) (d : α) : xs.getD (plc xs v) d = v := by
  rw [List.getD_eq_getElem?_getD, List.getElem?_eq_getElem (plc_lt h)]
  exact List.getElem_idxOf (plc_lt h)
theorem plc_new {α : Type} [DecidableEq α] {xs : List α} {v : α} (h : v ∉ xs) : plc (xs ++ [v]) v = xs.length := by
  unfold plc
  rw [List.idxOf_append, if_neg h]; simp
theorem law9 : Keyed Yba.prog 9 := string_keyed Yba.underlying9

/-- What indexSchedule's literal keeps: the map, the items, its two captured variables. -/
def J1 (l : List OpV) (X N0 M mb xb : Nat) (q : Nat) (w : World) (v1 : Value) : Prop :=
  w.ownsRow N0 9 1 v1 (itemsUp l q).length (strs (itemsUp l q)) ∧ Blk w mb 106 [.map (some M)] ∧ Blk w xb 66 [.pointer (some ⟨X, 0, none⟩)] ∧ w.ownsMap Yba.prog 9 (plainElem Yba.prog 3) M (itemsUp l q).length (strMap (itemsUp l q) (itemsUp l q).length)

theorem ownsMap_same {w w' : World} {b n : Nat} {D : DataW Unit} (h : w.ownsMap Yba.prog 9 (plainElem Yba.prog 3) b n D) (e : w'.heap[b]? = w.heap[b]?) : w'.ownsMap Yba.prog 9 (plainElem Yba.prog 3) b n D := by
  obtain ⟨es, clock, h1, rest⟩ := h
  exact ⟨es, clock, e.trans h1, rest⟩
theorem ownsMap_blk {w : World} {b n : Nat} {D : DataW Unit} (h : w.ownsMap Yba.prog 9 (plainElem Yba.prog 3) b n D) : b < w.heap.size ∧ ∀ c t f, w.heap[b]? ≠ some (.cells c t f) := by
  obtain ⟨es, clock, h1, _⟩ := h
  refine ⟨(Array.getElem?_eq_some_iff.1 h1).1, fun c t f e => ?_⟩
  rw [h1] at e; cases e

theorem J1.calm {l : List OpV} {X N1 N N0 M mb xb q : Nat} {w w' : World} {v1 : Value} (h : J1 l X N0 M mb xb q w v1) (hMX : M ≠ X) (hmX : mb ≠ X) (hxX : xb ≠ X) (hX : ∀ g, v1.ownBlock = some g → g ≠ X) (hc : Calm X N1 N w w') : J1 l X N0 M mb xb q w' v1 := by
  obtain ⟨h1, h2, h3, h4⟩ := h
  refine ⟨owns_same h1 fun g hg => ?_, h2.same (hc.2 mb h2.lt hmX (.inr ?_)), h3.same (hc.2 xb h3.lt hxX (.inr ?_)), ownsMap_same h4 (hc.2 M (ownsMap_blk h4).1 hMX (.inr fun c t f e => absurd e ((ownsMap_blk h4).2 c t f)))⟩
  · refine hc.2 g (h1.lt g hg).2 (hX g hg) (.inr fun c t f e => ?_)
    rcases h1.2 with ⟨e1, _⟩ | ⟨g', cap, cur, e1, _, e2, _⟩
    · rw [e1] at hg; cases hg
    · rw [e1] at hg
      simp only [Value.ownBlock, Option.some.injEq] at hg
      subst hg
      rw [e2] at e; cases e
      exact ⟨by decide, by decide, fun h => absurd h (by decide)⟩
  · intro c t f e
    rw [Blk] at h2; rw [h2] at e; cases e
    exact ⟨by decide, by decide, fun h => absurd h (by decide)⟩
  · intro c t f e
    rw [Blk] at h3; rw [h3] at e; cases e
    exact ⟨by decide, by decide, fun h => absurd h (by decide)⟩

/-- An append to a row of one's own, at a step of a region that draws. -/
theorem step_append_own_at {P : Program} {ops : Array Oper} {o : Oper} {a : Act} {w : World} {K : Act → World → Prop} {Q : Exit → Act → World → Prop} {E : Prop} (hgd : o.guard = none) (s x : Operand) (t : TypeId) (ho : o.op = .call { callee := .builtin .append, args := #[s, x], argTypes := #[t, t] })
    (base : Nat) (e : TypeId) (i : TypeInfo) (z : Value) (size bytes : Nat) (ht : P.underlying t = some (.slice e)) (hi : P.info? e = some i) (hz : i.zero = some z) (hsize : i.size = size) (hby : i.bytes = bytes) (hzs : z.cells.size = size) (hsz : 0 < size)
    (v : Value) (n : Nat) (xs : List Value) (hs : a.eval s = v) (hown : w.ownsRow base e size v n xs) (ad : Addr) (m c : Nat) (news : List Value) (hx : a.eval x = .slice (some ad) m c) (hl : news.length = m * size) (hnews : ∀ j u, news[j]? = some u → w.cell? (ad.add j) = some u) (h1 : ∀ u ∈ news, u.oneCell' = true)
    (h63 : n + m ≤ maxLen) (hbytes : (n + m) * bytes ≤ 140737488355328) (hbase : base ≤ w.heap.size)
    (h : ∀ v' w', w'.ownsRow base e size v' (n + m) (xs ++ news) → w.grownBy w' v.ownBlock → (v' = .slice none 0 0 ↔ v = .slice none 0 0 ∧ m = 0) → (v'.ownBlock = v.ownBlock ∨ v'.ownBlock = some w.heap.size) → K (a.put o.dst v') w') :
    if Region.wanted o (yielded ops a.tmps) = true then Oper.wp P o a w K Q else E := by
  have hw : Region.wanted o (yielded ops a.tmps) = true := by simp [Region.wanted, hgd]
  rw [if_pos hw]
  obtain ⟨v', w', hr, h2, h3, h4, h5⟩ := run_append_own_at (P := P) w base t o.type e i z size bytes ht hi hz hsize hby hzs hsz v n xs hown ad m c news hl hnews h1 h63 hbytes hbase
  unfold Oper.wp
  simp [execOp, ho, resolve, invoke, builtin, hs, hx, hr, Result.andThen]
  exact h v' w' h2 h3 h4 h5

set_option maxRecDepth 20000 in
set_option maxHeartbeats 2000000 in
theorem clo41 (l : List OpV) (X N1 N N0 M mb xb q : Nat) (t : Int) (o : OpV) (v1 : Value) (vs : List Value) (w : World) (hq : q < l.length) (bq : q ≤ 65536) (hac : acc (l.getD q default).k = true) (ho : o = l.getD q default) (hsz : o.i.size ≤ 16)
    (hJ : J1 l X N0 M mb xb q w v1) (hX : Blk w X 75 vs) (hvl : vs.length = 12) (hv1 : vs[1]? = some v1) (h0 : N1 ≤ N0) (hM : N1 ≤ M) (h0w : N0 ≤ w.heap.size) :
    Calls Yba.prog 41 #[.agg #[.int .u8 o.k, .int .i64 o.t, .string o.i], .int .i64 t, .pointer (some ⟨mb, 0, none⟩), .pointer (some ⟨xb, 0, none⟩)] w fun e w' =>
      Only (fun b => b = X ∨ ¬ Keep N1 N w b) w w' ∧ ∃ v1', e = .returned (.tuple #[.int .i64 (plc (itemsUp l l.length) o.i : Nat), .bool true]) ∧ J1 l X N0 M mb xb (q + 1) w' v1' ∧ Blk w' X 75 (vs.set 1 v1') := by
  obtain ⟨i0, hi, hz0, hz1, hz2⟩ := info_parts Yba.inf9
  obtain ⟨hO, hmb, hxb, hMp⟩ := hJ
  have hlen := itemsUp_len l q
  have hnow : plc (itemsUp l l.length) o.i = plc (itemsUp l (q + 1)) o.i := by rw [ho]; exact idx_now l q hq hac
  have hstep : itemsUp l (q + 1) = nubB1 (itemsUp l q) o.i := by rw [ho]; exact itemsUp_yes l q hq hac
  obtain ⟨ys, hys⟩ : ∃ ys, ys = itemsUp l q := ⟨_, rfl⟩
  obtain ⟨L, hL⟩ : ∃ L, L = ys.length := ⟨_, rfl⟩
  rw [← hys, ← hL] at hO hMp
  rw [← hys] at hstep
  rw [← hys, ← hL] at hlen
  have hkey : keyOf Yba.prog 9 (.string o.i) = some (.string o.i.data.toList) := keyOf_string_mk Yba.underlying9 (by unfold maxLen; omega)
  have hnd : ys.Nodup := by rw [hys]; exact items_apart l q
  have hp : Blk (w.alloc (.cells #[.int .u8 o.k, .int .i64 o.t, .string o.i] 64)) w.heap.size 64 [.int .u8 o.k, .int .i64 o.t, .string o.i] := blk_new w _ 64
  have hm1 := hmb.alloc (.cells #[.int .u8 o.k, .int .i64 o.t, .string o.i] 64)
  have hx1 := hxb.alloc (.cells #[.int .u8 o.k, .int .i64 o.t, .string o.i] 64)
  have hX1 := hX.alloc (.cells #[.int .u8 o.k, .int .i64 o.t, .string o.i] 64)
  have hO1 := hO.alloc (.cells #[.int .u8 o.k, .int .i64 o.t, .string o.i] 64)
  have hM1 := hMp.alloc (.cells #[.int .u8 o.k, .int .i64 o.t, .string o.i] 64)
  have ho1 : Only (fun b => b = X ∨ ¬ Keep N1 N w b) w (w.alloc (.cells #[.int .u8 o.k, .int .i64 o.t, .string o.i] 64)) := (Only.refl _ w).alloc _
  have hs1 : (w.alloc (.cells #[.int .u8 o.k, .int .i64 o.t, .string o.i] 64)).heap.size = w.heap.size + 1 := by simp
  go_enter Yba.func41, Yba.ntmps41
  by_cases hin : o.i ∈ ys
  · have hnub : itemsUp l (q + 1) = ys := by rw [hstep, nubB1, if_pos hin]
    have hjl := plc_lt hin
    have hjat : ys.getD (plc ys o.i) default = o.i := plc_at hin default
    obtain ⟨hat, hhas⟩ := strMap_at ys (nodup_apart hnd) (.lit (.int .i64 0)) L (plc ys o.i) (by omega) (by omega)
    rw [hjat] at hat hhas
    obtain ⟨j, hj⟩ : ∃ j, j = plc ys o.i := ⟨_, rfl⟩
    rw [← hj] at hat
    have HAT : Hid ((strMap ys L).atKey (.string o.i.data.toList) (.lit (.int .i64 0)) = .lit (.int .i64 j)) := hat
    have HM1 : Hid ((w.alloc (.cells #[.int .u8 o.k, .int .i64 o.t, .string o.i] 64)).ownsMap Yba.prog 9 (plainElem Yba.prog 3) M L (strMap ys L)) := hM1
    have HJ1 : Hid (J1 l X N0 M mb xb (q + 1) (w.alloc (.cells #[.int .u8 o.k, .int .i64 o.t, .string o.i] 64)) v1) := by
      show J1 _ _ _ _ _ _ _ _ _
      unfold J1
      rw [hnub, ← hL]
      exact ⟨hO1, hm1, hx1, hM1⟩
    have HX1 : Hid (Blk (w.alloc (.cells #[.int .u8 o.k, .int .i64 o.t, .string o.i] 64)) X 75 vs) := hX1
    have HRES : Hid (plc (itemsUp l l.length) o.i = j) := by show _ = _; rw [hnow, hnub]; exact hj.symm
    have c0 : w.cell? ⟨mb, 0, none⟩ = some (.map (some M)) := hmb.cell rfl
    have lmb : mb < w.heap.size := hmb.lt
    clear hat hM1 hO1 hm1 hx1 hX1 hO hmb hxb hMp hp hX hnub hstep hnow hnd hin hjl hjat hj hys hL ho hac hq
    go_wp2_with (at_lookup; refine wpList_lookup_own_ok_int _ rfl _ _ 106 rfl 9 3 .i64 law9 Yba.underlying106 Yba.underlying3 (zero3 _) M L _ rfl HM1.out _ _ rfl hkey ?_; rw [hhas]; intro c hc hwc)
    have e : c = (j : Int) := by
      have := hc.symm.trans HAT.out
      simpa using this
    subst e
    refine bodyPost_ret (v := .tuple #[.int .i64 (j : Int), .bool true]) (by simp [results, Yba.results41, go_sem]) rfl ?_
    refine ⟨ho1, v1, by rw [HRES.out], HJ1.out, ?_⟩
    have e2 : vs.set 1 v1 = vs := by
      apply List.ext_getElem?
      intro i
      by_cases h : 1 = i
      · subst h; rw [List.getElem?_set_self (by omega)]; exact hv1.symm
      · rw [List.getElem?_set_ne h]
    rw [e2]; exact HX1.out
  · have hnub : itemsUp l (q + 1) = ys ++ [o.i] := by rw [hstep, nubB1, if_neg hin]
    have hhas : has (strMap ys L) (.string o.i.data.toList) = false := strMap_not ys o.i L fun j hj e => hin (by rw [← e, List.getD_eq_getElem?_getD, List.getElem?_eq_getElem (by omega)]; simp)
    have HRES : Hid (plc (itemsUp l l.length) o.i = L) := by
      show _ = _
      rw [hnow, hnub, hL]
      exact plc_new hin
    have hvf : ∃ a c, v1 = .slice a L c := by
      rcases hO.2 with ⟨e, h0⟩ | ⟨g0, cap0, cur0, e, _⟩
      · exact ⟨none, 0, by rw [e, h0]⟩
      · exact ⟨_, _, e⟩
    obtain ⟨av, cv, rfl⟩ := hvf
    have HM1 : Hid ((w.alloc (.cells #[.int .u8 o.k, .int .i64 o.t, .string o.i] 64)).ownsMap Yba.prog 9 (plainElem Yba.prog 3) M L (strMap ys L)) := hM1
    have HO1 : Hid ((w.alloc (.cells #[.int .u8 o.k, .int .i64 o.t, .string o.i] 64)).ownsRow N0 9 1 (.slice av L cv) L (strs ys)) := hO1
    have HX1 : Hid (Blk (w.alloc (.cells #[.int .u8 o.k, .int .i64 o.t, .string o.i] 64)) X 75 vs) := hX1
    have Hm1 : Hid (Blk (w.alloc (.cells #[.int .u8 o.k, .int .i64 o.t, .string o.i] 64)) mb 106 [.map (some M)]) := hm1
    have Hx1 : Hid (Blk (w.alloc (.cells #[.int .u8 o.k, .int .i64 o.t, .string o.i] 64)) xb 66 [.pointer (some ⟨X, 0, none⟩)]) := hx1
    have Hp1 : Hid (Blk (w.alloc (.cells #[.int .u8 o.k, .int .i64 o.t, .string o.i] 64)) w.heap.size 64 [.int .u8 o.k, .int .i64 o.t, .string o.i]) := hp
    have HNB : Hid (itemsUp l (q + 1) = ys ++ [o.i]) := hnub
    have HLL : Hid (L = ys.length) := hL
    have HWF : Hid ((Lit.int .i64 (L : Int)).wf = true) := WalkArith.wf_i64 (by omega)
    have HV1 : Hid (vs[1]? = some (.slice av L cv)) := hv1
    have hMc : ∀ b t us, Blk (w.alloc (.cells #[.int .u8 o.k, .int .i64 o.t, .string o.i] 64)) b t us → some b ≠ some M := fun b t us h e => by
      simp only [Option.some.injEq] at e
      subst e
      exact (ownsMap_blk hM1).2 _ _ _ h
    have c0 : w.cell? ⟨mb, 0, none⟩ = some (.map (some M)) := hmb.cell rfl
    have c1 : w.cell? ⟨xb, 0, none⟩ = some (.pointer (some ⟨X, 0, none⟩)) := hxb.cell rfl
    have c2 : w.cell? ⟨X, 1, none⟩ = some (.slice av L cv) := hX.cell hv1
    have lmb : mb < w.heap.size := hmb.lt
    have lxb : xb < w.heap.size := hxb.lt
    have lX : X < w.heap.size := hX.lt
    have HMC : Hid (∀ b t us, Blk (w.alloc (.cells #[.int .u8 o.k, .int .i64 o.t, .string o.i] 64)) b t us → some b ≠ some M) := hMc
    have HOM : Hid (∀ g, (Value.slice av L cv).ownBlock = some g → g ≠ M) := fun g hg e => by
      rcases hO1.2 with ⟨e1, _⟩ | ⟨g', cap, cur, e1, _, e2, _⟩
      · rw [e1] at hg; cases hg
      · rw [e1] at hg
        simp only [Value.ownBlock, Option.some.injEq] at hg
        subst hg; subst e
        exact (ownsMap_blk hM1).2 _ _ _ e2
    clear hM1 hO1 hm1 hx1 hX1 hO hmb hxb hMp hp hX hnub hstep hnow hnd hin hys hL ho hac hq hv1 hMc
    go_wp2_with (first
      | (at_lookup; refine wpList_lookup_own_ok_int _ rfl _ _ 106 rfl 9 3 .i64 law9 Yba.underlying106 Yba.underlying3 (zero3 _) M L _ rfl HM1.out _ _ rfl hkey ?_; rw [hhas]; intro c hc hwc)
      | (at_mapUpdate; refine wpList_mapUpdate_own _ rfl _ _ _ 106 rfl 9 3 law9 Yba.underlying106 _ M L _ rfl HM1.out (by unfold maxLen; omega) _ _ _ rfl rfl hkey _ [] (plainElem_int Yba.underlying3 HWF.out) ?_; intro w1 hown1 hgrow1))
    -- R5
    have hX2 := HX1.out.grown hgrow1 (HMC.out _ _ _ HX1.out)
    have hm2 := Hm1.out.grown hgrow1 (HMC.out _ _ _ Hm1.out)
    have hx2 := Hx1.out.grown hgrow1 (HMC.out _ _ _ Hx1.out)
    have hp2 := Hp1.out.grown hgrow1 (HMC.out _ _ _ Hp1.out)
    have hO2 : w1.ownsRow N0 9 1 (.slice av L cv) L (strs ys) := owns_same HO1.out fun g hg => hgrow1.block g (HO1.out.lt g hg).2 (fun e => HOM.out g hg (by simpa using e))
    have ho2 : Only (fun b => b = X ∨ ¬ Keep N1 N w b) w w1 := ho1.grown hgrow1 (fun k hk => by
      simp only [Option.some.injEq] at hk
      subst hk
      right; right
      intro hkp
      rcases hkp with h | ⟨c', t', f', e, _⟩
      · omega
      · have hlt : M < w.heap.size := (Array.getElem?_eq_some_iff.1 e).1
        have e2 := (Below.heap_alloc w (.cells #[.int .u8 o.k, .int .i64 o.t, .string o.i] 64) M hlt).trans e
        exact (ownsMap_blk HM1.out).2 _ _ _ e2)
    have hMe : w1.ownsMap Yba.prog 9 (plainElem Yba.prog 3) M (L + 1) (strMap (ys ++ [o.i]) (L + 1)) := by
      have e : strMap (ys ++ [o.i]) (L + 1) = (strMap ys L).put (.string o.i.data.toList) (.lit (.int .i64 L)) := by
        rw [strMap]
        have h1 : (ys ++ [o.i]).getD L default = o.i := by rw [HLL.out]; simp
        rw [h1]
        congr 1
        refine strMap_congr _ _ L fun j hj => ?_
        have hj' : j < ys.length := by rw [← HLL.out]; exact hj
        rw [List.getD_eq_getElem?_getD, List.getD_eq_getElem?_getD, List.getElem?_append_left hj']
      rw [e]; exact hown1
    have b1 : w1.cell? ⟨xb, 0, none⟩ = some (.pointer (some ⟨X, 0, none⟩)) := hx2.cell rfl
    have p1 : w1.cell? ⟨w.heap.size, 2, none⟩ = some (.string o.i) := hp2.cell rfl
    have x1 : w1.cell? ⟨X, 1, none⟩ = some (.slice av L cv) := hX2.cell HV1.out
    have lX1 : X < w1.heap.size := hX2.lt
    have nxX : xb ≠ X := hx2.ne hX2 (by decide)
    have npX : w.heap.size ≠ X := hp2.ne hX2 (by decide)
    have HX2 : Hid (Blk w1 X 75 vs) := hX2
    have Hm2 : Hid (Blk w1 mb 106 [.map (some M)]) := hm2
    have Hx2 : Hid (Blk w1 xb 66 [.pointer (some ⟨X, 0, none⟩)]) := hx2
    have Hp2 : Hid (Blk w1 w.heap.size 64 [.int .u8 o.k, .int .i64 o.t, .string o.i]) := hp2
    have HO2 : Hid (w1.ownsRow N0 9 1 (.slice av L cv) L (strs ys)) := hO2
    have HME : Hid (w1.ownsMap Yba.prog 9 (plainElem Yba.prog 3) M (L + 1) (strMap (ys ++ [o.i]) (L + 1))) := hMe
    have HOT : Hid (∀ k, (Value.slice av L cv).ownBlock = some k → k < w.heap.size → ∃ cc ff, w.heap[k]? = some (.cells cc 9 ff)) := fun k hk hkw => by
      rcases HO1.out.2 with ⟨e1, _⟩ | ⟨g', cap', cur', e1, _, e2, _⟩
      · rw [e1] at hk; cases hk
      · rw [e1] at hk
        simp only [Value.ownBlock, Option.some.injEq] at hk
        subst hk
        exact ⟨_, _, (Below.heap_alloc w (.cells #[.int .u8 o.k, .int .i64 o.t, .string o.i] 64) g' hkw).symm.trans e2⟩
    have h0w1 : N0 ≤ w1.heap.size := by have := hgrow1.size; rw [hs1] at this; omega
    obtain ⟨P, hP⟩ : ∃ P, w.heap.size = P := ⟨_, rfl⟩
    rw [hP] at p1 npX Hp2
    rw [hP]
    clear hX2 hm2 hx2 hp2 hO2 hMe hown1 hgrow1 HM1 HO1 HX1 Hm1 Hx1 Hp1 HMC HOM c0 c1 c2 hc hwc ho1 hhas hkey hP
    refine wp_region_held_drew (S := fun w' => w'.cell? ⟨xb, 0, none⟩ = some (.pointer (some ⟨X, 0, none⟩)) ∧ w'.cell? ⟨P, 2, none⟩ = some (.string o.i)) (by kernel_rfl) ⟨b1, p1⟩ (fun hHeld => ?_)
    refine wpAnyH_take (i := 0) (v := ?_) rfl (by kernel_rfl) (by kernel_rfl) (by kernel_rfl) (fun _ _ _ h => h) (Or.inl ⟨by rfl, ?_⟩) (by assumption) ?_
    rotate_left
    · intro w hSw; (try dsimp only at hSw); go_simp; with_reducible rfl
    try simp only [Act.put, List.setIfInBounds_toArray, List.set_cons_zero, List.set_cons_succ]
    refine wpAnyH_take (i := 1) (v := ?_) rfl (by kernel_rfl) (by kernel_rfl) (by kernel_rfl) (fun _ _ _ h => h) (Or.inl ⟨by rfl, ?_⟩) (by assumption) ?_
    rotate_left
    · intro w hSw; (try dsimp only at hSw); go_simp; with_reducible rfl
    try simp only [Act.put, List.setIfInBounds_toArray, List.set_cons_zero, List.set_cons_succ]
    refine wpAnyH_take (i := 2) (v := ?_) rfl (by kernel_rfl) (by kernel_rfl) (by kernel_rfl) (fun _ _ _ h => h) (Or.inl ⟨by rfl, ?_⟩) (by assumption) ?_
    rotate_left
    · intro w hSw; (try dsimp only at hSw); go_simp; with_reducible rfl
    try simp only [Act.put, List.setIfInBounds_toArray, List.set_cons_zero, List.set_cons_succ]
    refine wpAnyH_take (i := 3) (v := ?_) rfl (by kernel_rfl) (by kernel_rfl) (by kernel_rfl) (fun _ _ _ h => h) (Or.inl ⟨by rfl, ?_⟩) (by assumption) ?_
    rotate_left
    · intro w hSw; (try dsimp only at hSw); go_simp; with_reducible rfl
    try simp only [Act.put, List.setIfInBounds_toArray, List.set_cons_zero, List.set_cons_succ]
    refine wpAnyH_take (i := 5) (v := ?_) rfl (by kernel_rfl) (by kernel_rfl) (by kernel_rfl) (fun _ _ _ h => h) (Or.inl ⟨by rfl, ?_⟩) (by assumption) ?_
    rotate_left
    · intro w hSw; (try dsimp only at hSw); go_simp; with_reducible rfl
    try simp only [Act.put, List.setIfInBounds_toArray, List.set_cons_zero, List.set_cons_succ]
    refine wpAnyH_take (i := 6) (v := ?_) rfl (by kernel_rfl) (by kernel_rfl) (by kernel_rfl) (fun _ _ _ h => h) (Or.inl ⟨by rfl, ?_⟩) (by assumption) ?_
    rotate_left
    · intro w hSw; (try dsimp only at hSw); go_simp; with_reducible rfl
    try simp only [Act.put, List.setIfInBounds_toArray, List.set_cons_zero, List.set_cons_succ]
    refine wpAnyH_ready (rs := [4, 7]) (by kernel_rfl) (by simp) ?_
    refine AllReadyH.cons rfl (fun K hK => ?_) ?_
    · go_simp
      refine hK.out _ _ (⟨b1, p1⟩) (fun hHeld => ?_)
      clear hK K
      try simp only [Act.put, List.setIfInBounds_toArray, List.set_cons_zero, List.set_cons_succ]
      refine wpAnyH_ready (rs := [7]) (by kernel_rfl) (by simp) ?_
      refine AllReadyH.cons rfl (fun K hK => ?_) ?_
      · go_simp
        refine hK.out _ _ (⟨(show Blk ((w1.alloc (.cells #[.string o.i] 9)).drew) xb 66 _ from (Hx2.out.alloc _).drew).cell rfl, (show Blk ((w1.alloc (.cells #[.string o.i] 9)).drew) P 64 _ from (Hp2.out.alloc _).drew).cell rfl⟩) (fun hHeld => ?_)
        clear hK K
        try simp only [Act.put, List.setIfInBounds_toArray, List.set_cons_zero, List.set_cons_succ]
        refine wpAnyH_ready (rs := [8]) (by kernel_rfl) (by simp) ?_
        refine AllReadyH.cons rfl (fun K hK => ?_) ?_
        · refine step_append_own_at (by rfl) _ _ _ (by rfl) N0 9 i0 (.string { data := #[] }) 1 16 Yba.underlying69 hi hz0 hz1 hz2 rfl (by decide) (.slice av L cv) L (strs ys) (by rfl) (World.ownsRow.drew (HO2.out.alloc (.cells #[.string o.i] 9))) ⟨w1.heap.size, 0, none⟩ 1 1 [.string o.i] (by rfl) rfl (World.news_of_block (cs := #[.string o.i]) (t := 9) (fr := (0, 0)) (heap_alloc_new w1 _)) (by intro u hu; simp at hu; subst hu; rfl) (by unfold maxLen; omega) (by omega) (by simp; omega) ?_
          intro v9 w9 hown9 hgr9 hnil9 hat9
          obtain ⟨g9, c9, rfl, hgb9⟩ := owns_form hown9 (by omega)
          have hX9 := (HX2.out.alloc (.cells #[.string o.i] 9)).drew.grown hgr9 (HX2.out.not_own HO2.out (by decide))
          have hB9 := (Hx2.out.alloc (.cells #[.string o.i] 9)).drew.grown hgr9 (Hx2.out.not_own HO2.out (by decide))
          have hP9 := (Hp2.out.alloc (.cells #[.string o.i] 9)).drew.grown hgr9 (Hp2.out.not_own HO2.out (by decide))
          have hm9 := (Hm2.out.alloc (.cells #[.string o.i] 9)).drew.grown hgr9 (Hm2.out.not_own HO2.out (by decide))
          have x9 : w9.cell? ⟨X, 1, none⟩ = some (.slice av L cv) := hX9.cell HV1.out
          have f9 := hX9.frozen 1
          have b9 : w9.cell? ⟨xb, 0, none⟩ = some (.pointer (some ⟨X, 0, none⟩)) := hB9.cell rfl
          have p9 : w9.cell? ⟨P, 2, none⟩ = some (.string o.i) := hP9.cell rfl
          refine hK.out _ _ (⟨b9, p9⟩) (fun hHeld => ?_)
          clear hK K
          try simp only [Act.put, List.setIfInBounds_toArray, List.set_cons_zero, List.set_cons_succ]
          refine wpAnyH_take (i := 9) (v := ?_) rfl (by kernel_rfl) (by kernel_rfl) (by kernel_rfl) (fun _ _ _ h => h) (Or.inl ⟨by rfl, ?_⟩) (by assumption) ?_
          rotate_left
          · intro w hSw; (try dsimp only at hSw); go_simp; with_reducible rfl
          try simp only [Act.put, List.setIfInBounds_toArray, List.set_cons_zero, List.set_cons_succ]
          refine wpAnyH_take (i := 10) (v := ?_) rfl (by kernel_rfl) (by kernel_rfl) (by kernel_rfl) (fun _ _ _ h => h) (Or.inl ⟨by rfl, ?_⟩) (by assumption) ?_
          rotate_left
          · intro w hSw; (try dsimp only at hSw); go_simp; with_reducible rfl
          try simp only [Act.put, List.setIfInBounds_toArray, List.set_cons_zero, List.set_cons_succ]
          refine wpAnyH_ready (rs := [11]) (by kernel_rfl) (by simp) ?_
          refine AllReadyH.cons rfl (fun K hK => ?_) ?_
          · go_simp
            refine hK.out _ _ (⟨(hB9.other ⟨X, 1, none⟩ _ nxX).cell rfl, (hP9.other ⟨X, 1, none⟩ _ npX).cell rfl⟩) (fun hHeld => ?_)
            clear hK K
            try simp only [Act.put, List.setIfInBounds_toArray, List.set_cons_zero, List.set_cons_succ]
            refine wpAnyH_done (by kernel_rfl) ?_ _
            go_wp2_with fail
            refine bodyPost_ret (v := .tuple #[.int .i64 (L : Int), .bool true]) (by simp [results, Yba.results41, go_sem]) rfl ?_
            refine ⟨?_, .slice (some ⟨g9, 0, none⟩) (L + 1) c9, by rw [HRES.out], ?_, ?_⟩
            · refine (((ho2.alloc (.cells #[.string o.i] 9)).drew).grown hgr9 (fun k hk => ?_)).setCell (p := ⟨X, 1, none⟩) (.inr (.inl rfl)) _
              have hkb := HO2.out.lt k hk
              rcases Nat.lt_or_ge k w.heap.size with hkw | hkw
              · right; right
                intro hkp
                rcases hkp with h | ⟨c', t', f', e, ht⟩
                · omega
                · have e1 := HOT.out k hk hkw
                  obtain ⟨cc, ff, e2⟩ := e1
                  rw [e2] at e
                  cases e
                  rcases ht with h | h | h | h | ⟨h, _⟩ <;> exact absurd h (by decide)
              · exact .inl hkw
            · show J1 _ _ _ _ _ _ _ _ _
              unfold J1
              rw [HNB.out]
              have el : (ys ++ [o.i]).length = L + 1 := by rw [List.length_append, ← HLL.out]; rfl
              rw [el]
              refine ⟨?_, hm9.other ⟨X, 1, none⟩ _ (hm9.ne hX9 (by decide)), hB9.other ⟨X, 1, none⟩ _ nxX, ?_⟩
              · have es : strs (ys ++ [o.i]) = strs ys ++ [.string o.i] := by simp [strs]
                rw [es]
                exact owns_same hown9 fun g hg => Below.heap_setCell _ _ _ _ (fun e => hX9.not_own hown9 (by decide) (by rw [hg, e]))
              · refine ownsMap_same (ownsMap_same HME.out ?_) (Below.heap_setCell _ _ _ _ ?_)
                · refine (hgr9.block M (by have := (ownsMap_blk HME.out).1; simp; omega) ?_).trans (Below.heap_alloc w1 (.cells #[.string o.i] 9) M (ownsMap_blk HME.out).1)
                  intro e
                  rcases HO2.out.2 with ⟨e1, _⟩ | ⟨g', cap', cur', e1, _, e2, _⟩
                  · rw [e1] at e; cases e
                  · rw [e1] at e
                    simp only [Value.ownBlock, Option.some.injEq] at e
                    subst e
                    exact (ownsMap_blk HME.out).2 _ _ _ e2
                · intro e
                  exact (ownsMap_blk HME.out).2 _ _ _ (by rw [e]; exact HX2.out)
            · exact hX9.set 1 _
          exact AllReadyH.nil
        exact AllReadyH.nil
      exact AllReadyH.nil
    refine AllReadyH.cons rfl (fun K hK => ?_) ?_
    · go_simp
      refine hK.out _ _ (⟨(show Blk ((w1.alloc (.cells #[.string o.i] 9)).drew) xb 66 _ from (Hx2.out.alloc _).drew).cell rfl, (show Blk ((w1.alloc (.cells #[.string o.i] 9)).drew) P 64 _ from (Hp2.out.alloc _).drew).cell rfl⟩) (fun hHeld => ?_)
      clear hK K
      try simp only [Act.put, List.setIfInBounds_toArray, List.set_cons_zero, List.set_cons_succ]
      refine wpAnyH_ready (rs := [4]) (by kernel_rfl) (by simp) ?_
      refine AllReadyH.cons rfl (fun K hK => ?_) ?_
      · go_simp
        refine hK.out _ _ (⟨(show Blk ((w1.alloc (.cells #[.string o.i] 9)).drew) xb 66 _ from (Hx2.out.alloc _).drew).cell rfl, (show Blk ((w1.alloc (.cells #[.string o.i] 9)).drew) P 64 _ from (Hp2.out.alloc _).drew).cell rfl⟩) (fun hHeld => ?_)
        clear hK K
        try simp only [Act.put, List.setIfInBounds_toArray, List.set_cons_zero, List.set_cons_succ]
        refine wpAnyH_ready (rs := [8]) (by kernel_rfl) (by simp) ?_
        refine AllReadyH.cons rfl (fun K hK => ?_) ?_
        · refine step_append_own_at (by rfl) _ _ _ (by rfl) N0 9 i0 (.string { data := #[] }) 1 16 Yba.underlying69 hi hz0 hz1 hz2 rfl (by decide) (.slice av L cv) L (strs ys) (by rfl) (World.ownsRow.drew (HO2.out.alloc (.cells #[.string o.i] 9))) ⟨w1.heap.size, 0, none⟩ 1 1 [.string o.i] (by rfl) rfl (World.news_of_block (cs := #[.string o.i]) (t := 9) (fr := (0, 0)) (heap_alloc_new w1 _)) (by intro u hu; simp at hu; subst hu; rfl) (by unfold maxLen; omega) (by omega) (by simp; omega) ?_
          intro v9 w9 hown9 hgr9 hnil9 hat9
          obtain ⟨g9, c9, rfl, hgb9⟩ := owns_form hown9 (by omega)
          have hX9 := (HX2.out.alloc (.cells #[.string o.i] 9)).drew.grown hgr9 (HX2.out.not_own HO2.out (by decide))
          have hB9 := (Hx2.out.alloc (.cells #[.string o.i] 9)).drew.grown hgr9 (Hx2.out.not_own HO2.out (by decide))
          have hP9 := (Hp2.out.alloc (.cells #[.string o.i] 9)).drew.grown hgr9 (Hp2.out.not_own HO2.out (by decide))
          have hm9 := (Hm2.out.alloc (.cells #[.string o.i] 9)).drew.grown hgr9 (Hm2.out.not_own HO2.out (by decide))
          have x9 : w9.cell? ⟨X, 1, none⟩ = some (.slice av L cv) := hX9.cell HV1.out
          have f9 := hX9.frozen 1
          have b9 : w9.cell? ⟨xb, 0, none⟩ = some (.pointer (some ⟨X, 0, none⟩)) := hB9.cell rfl
          have p9 : w9.cell? ⟨P, 2, none⟩ = some (.string o.i) := hP9.cell rfl
          refine hK.out _ _ (⟨b9, p9⟩) (fun hHeld => ?_)
          clear hK K
          try simp only [Act.put, List.setIfInBounds_toArray, List.set_cons_zero, List.set_cons_succ]
          refine wpAnyH_take (i := 9) (v := ?_) rfl (by kernel_rfl) (by kernel_rfl) (by kernel_rfl) (fun _ _ _ h => h) (Or.inl ⟨by rfl, ?_⟩) (by assumption) ?_
          rotate_left
          · intro w hSw; (try dsimp only at hSw); go_simp; with_reducible rfl
          try simp only [Act.put, List.setIfInBounds_toArray, List.set_cons_zero, List.set_cons_succ]
          refine wpAnyH_take (i := 10) (v := ?_) rfl (by kernel_rfl) (by kernel_rfl) (by kernel_rfl) (fun _ _ _ h => h) (Or.inl ⟨by rfl, ?_⟩) (by assumption) ?_
          rotate_left
          · intro w hSw; (try dsimp only at hSw); go_simp; with_reducible rfl
          try simp only [Act.put, List.setIfInBounds_toArray, List.set_cons_zero, List.set_cons_succ]
          refine wpAnyH_ready (rs := [11]) (by kernel_rfl) (by simp) ?_
          refine AllReadyH.cons rfl (fun K hK => ?_) ?_
          · go_simp
            refine hK.out _ _ (⟨(hB9.other ⟨X, 1, none⟩ _ nxX).cell rfl, (hP9.other ⟨X, 1, none⟩ _ npX).cell rfl⟩) (fun hHeld => ?_)
            clear hK K
            try simp only [Act.put, List.setIfInBounds_toArray, List.set_cons_zero, List.set_cons_succ]
            refine wpAnyH_done (by kernel_rfl) ?_ _
            go_wp2_with fail
            refine bodyPost_ret (v := .tuple #[.int .i64 (L : Int), .bool true]) (by simp [results, Yba.results41, go_sem]) rfl ?_
            refine ⟨?_, .slice (some ⟨g9, 0, none⟩) (L + 1) c9, by rw [HRES.out], ?_, ?_⟩
            · refine (((ho2.alloc (.cells #[.string o.i] 9)).drew).grown hgr9 (fun k hk => ?_)).setCell (p := ⟨X, 1, none⟩) (.inr (.inl rfl)) _
              have hkb := HO2.out.lt k hk
              rcases Nat.lt_or_ge k w.heap.size with hkw | hkw
              · right; right
                intro hkp
                rcases hkp with h | ⟨c', t', f', e, ht⟩
                · omega
                · have e1 := HOT.out k hk hkw
                  obtain ⟨cc, ff, e2⟩ := e1
                  rw [e2] at e
                  cases e
                  rcases ht with h | h | h | h | ⟨h, _⟩ <;> exact absurd h (by decide)
              · exact .inl hkw
            · show J1 _ _ _ _ _ _ _ _ _
              unfold J1
              rw [HNB.out]
              have el : (ys ++ [o.i]).length = L + 1 := by rw [List.length_append, ← HLL.out]; rfl
              rw [el]
              refine ⟨?_, hm9.other ⟨X, 1, none⟩ _ (hm9.ne hX9 (by decide)), hB9.other ⟨X, 1, none⟩ _ nxX, ?_⟩
              · have es : strs (ys ++ [o.i]) = strs ys ++ [.string o.i] := by simp [strs]
                rw [es]
                exact owns_same hown9 fun g hg => Below.heap_setCell _ _ _ _ (fun e => hX9.not_own hown9 (by decide) (by rw [hg, e]))
              · refine ownsMap_same (ownsMap_same HME.out ?_) (Below.heap_setCell _ _ _ _ ?_)
                · refine (hgr9.block M (by have := (ownsMap_blk HME.out).1; simp; omega) ?_).trans (Below.heap_alloc w1 (.cells #[.string o.i] 9) M (ownsMap_blk HME.out).1)
                  intro e
                  rcases HO2.out.2 with ⟨e1, _⟩ | ⟨g', cap', cur', e1, _, e2, _⟩
                  · rw [e1] at e; cases e
                  · rw [e1] at e
                    simp only [Value.ownBlock, Option.some.injEq] at e
                    subst e
                    exact (ownsMap_blk HME.out).2 _ _ _ e2
                · intro e
                  exact (ownsMap_blk HME.out).2 _ _ _ (by rw [e]; exact HX2.out)
            · exact hX9.set 1 _
          exact AllReadyH.nil
        exact AllReadyH.nil
      exact AllReadyH.nil
    exact AllReadyH.nil
end Go.Proofs.Ybulkebqk
