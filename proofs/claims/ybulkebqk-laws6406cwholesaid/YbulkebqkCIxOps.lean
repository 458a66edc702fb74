/-
  indexOps.
-/
import Derived.Test.YbulkebqkCCalm
import Derived.Laws.MakeOwn
import Derived.Deep.DeepCutAuto
import Derived.Deep.RegionHeld
namespace Go.Proofs.Ybulkebqk
open Go.RowKit
set_option linter.unusedVariables false
set_option linter.unusedSimpArgs false

/-- An append that finds room, at a step of a region that draws. -/
theorem step_append_fits {P : Program} {ops : Array Oper} {o : Oper} {a : Act} {w : World} {K : Act → World → Prop} {Q : Exit → Act → World → Prop} {E : Prop} (hgd : o.guard = none) (s x : Operand) (t : TypeId) (ho : o.op = .call { callee := .builtin .append, args := #[s, x], argTypes := #[t, t] })
    (base : Nat) (e : TypeId) (i : TypeInfo) (size : Nat) (h1 : P.underlying t = some (.slice e)) (h2 : P.info? e = some i) (h4 : i.size = size) (g k cap : Nat) (xs : List Value) (hs : a.eval s = .slice (some ⟨g, 0, none⟩) k cap) (hown : w.ownsRow base e size (.slice (some ⟨g, 0, none⟩) k cap) k xs)
    (ad : Addr) (m c : Nat) (news : List Value) (hx : a.eval x = .slice (some ad) m c) (hn : news.length = m * size) (hc : ∀ j u, news[j]? = some u → w.cell? (ad.add j) = some u) (h1c : ∀ u ∈ news, u.oneCell' = true) (b1 : k + m ≤ cap)
    (h : ∀ w', w'.ownsRow base e size (.slice (some ⟨g, 0, none⟩) (k + m) cap) (k + m) (xs ++ news) → w.grownBy w' (some g) → K (a.put o.dst (.slice (some ⟨g, 0, none⟩) (k + m) cap)) w') :
    if Region.wanted o (yielded ops a.tmps) = true then Oper.wp P o a w K Q else E := by
  have hw : Region.wanted o (yielded ops a.tmps) = true := by simp [Region.wanted, hgd]
  rw [if_pos hw]
  obtain ⟨w', hrun, r1, r2⟩ := run_append_fits (P := P) w base t o.type e i size h1 h2 h4 g k cap xs hown ad m c news hn hc h1c b1
  unfold Oper.wp
  simp [execOp, ho, resolve, invoke, builtin, hs, hx, hrun, Result.andThen]
  exact h w' r1 r2

set_option maxRecDepth 20000 in
set_option maxHeartbeats 3200000 in
theorem ops40 (X N1 gs n cap nt n1 fid c0 c1 ct : Nat) (l : List OpV) (xs : List Int) (ys : List ByteArray) (t9 t10 t11 v1 : Value) (a0 : Option Addr) (J : Nat → World → Value → Prop) (Bad : Prop) (os : List IOp) (T I : List Nat) (w : World)
    (hn : l.length = n) (bn : n ≤ 65536) (hnt : xs.length = nt) (bnt : nt ≤ 65536) (hn1 : n1 = nt + 1) (bys : ys.length ≤ 65536) (hos : os = iops xs ys l) (hT : T = os.map (·.t)) (hI : I = os.map (·.x))
    (hX : Blk w X 75 (ixCells (.slice a0 nt ct) v1 (.slice none 0 0) (.slice none 0 0) (.slice none 0 0) (.int .i64 0) (.slice none 0 0) (.slice none 0 0) (.slice none 0 0) t9 t10 t11))
    (hR : Row w gs (opCells l)) (hgs : gs < N1) (hgX : gs ≠ X) (hN1 : N1 ≤ w.heap.size) (hNum : ∀ w', (∀ b, b < N1 → b ≠ X → w'.heap[b]? = w.heap[b]?) → NumAt 0 w' l xs (.agg #[t9, t10, t11])) (hTx : Tx l xs) (hS : Small l)
    (hJ : J 0 w v1) (hclo : CloOk l xs ys X N1 w.heap.size fid c0 c1 J Bad) :
    Calls Yba.prog 40 #[.pointer (some ⟨X, 0, none⟩), .slice (some ⟨gs, 0, none⟩) n cap, .func (.func fid) #[] #[.pointer (some ⟨c0, 0, none⟩), .pointer (some ⟨c1, 0, none⟩)]] w fun e w' =>
      Only (fun b => b = X ∨ N1 ≤ b) w w' ∧
      ((e = .returned (.bool true) ∧ ∃ (v1' : Value) (G cO Sg Lg ml Pg E : Nat) (abv : Value), J n w' v1' ∧
          Blk w' X 75 (ixCells (.slice a0 nt ct) v1' (.slice (some ⟨G, 0, none⟩) os.length cO) (.slice (some ⟨Sg, 0, none⟩) n1 n1) (.slice (some ⟨Lg, 0, none⟩) ml ml) (.int .i64 (cnt T I nt : Nat)) (.slice (some ⟨Pg, 0, none⟩) n1 n1) (.slice (some ⟨E, 0, none⟩) nt nt) abv t9 t10 t11) ∧
          Row w' G (ioCells (paired T I os)) ∧ ml = start T nt ∧ Row w' Sg (nats (starts T nt)) ∧ Row w' Lg (nats (flat (pos T) nt)) ∧ Row w' Pg (nats (pairStarts T I nt)) ∧ Row w' E (nats (endsUp xs l n)) ∧ AbAt w' nt N1 abv (absUp xs l n)) ∨
       (e = .returned (.bool false) ∧ Bad)) := by
  obtain ⟨i0, hi, hz0, hz1, hz2⟩ := info_parts Yba.inf79
  have HL : Hid (l.length = n) := hn
  have HNT : Hid (xs.length = nt) := hnt
  have HN1 : Hid (n1 = nt + 1) := hn1
  have HOS : Hid (os = iops xs ys l) := hos
  have HTT : Hid (T = os.map (·.t)) := hT
  have HII : Hid (I = os.map (·.x)) := hI
  have HX : Hid (Blk w X 75 (ixCells (.slice a0 nt ct) v1 (.slice none 0 0) (.slice none 0 0) (.slice none 0 0) (.int .i64 0) (.slice none 0 0) (.slice none 0 0) (.slice none 0 0) t9 t10 t11)) := hX
  have HR : Hid (Row w gs (opCells l)) := hR
  have HNUM : Hid (∀ w', (∀ b, b < N1 → b ≠ X → w'.heap[b]? = w.heap[b]?) → NumAt 0 w' l xs (.agg #[t9, t10, t11])) := hNum
  have HTX : Hid (Tx l xs) := hTx
  have HSM : Hid (Small l) := hS
  have HJ : Hid (J 0 w v1) := hJ
  have HCLO : Hid (CloOk l xs ys X N1 w.heap.size fid c0 c1 J Bad) := hclo
  have lX := hX.lt
  obtain ⟨w2, hmk, hown2, hgrow2⟩ := run_make_own (P := Yba.prog) (w.alloc (.cells #[.pointer (some ⟨X, 0, none⟩)] 66)).drew w.heap.size 70 79 i0 _ 4 Yba.underlying70 hi hz0 hz1 .i64 .i64 n (by rw [hz2]; omega) (by unfold maxLen; omega) (by simp)
  have hB1 := blk_new w [.pointer (some ⟨X, 0, none⟩)] 66
  have hX2 := ((hX.alloc (.cells #[.pointer (some ⟨X, 0, none⟩)] 66)).drew).grown hgrow2 (by simp)
  have hB2 := (hB1.drew).grown hgrow2 (by simp)
  have b0 : w2.cell? ⟨w.heap.size, 0, none⟩ = some (.pointer (some ⟨X, 0, none⟩)) := hB2.cell rfl
  have b1 : (w.alloc (.cells #[.pointer (some ⟨X, 0, none⟩)] 66)).cell? ⟨w.heap.size, 0, none⟩ = some (.pointer (some ⟨X, 0, none⟩)) := hB1.cell rfl
  have x2 : w2.cell? ⟨X, 2, none⟩ = some (.slice none 0 0) := hX2.cell rfl
  have f2 := hX2.frozen 2
  have hw2 : w.heap.size < w2.heap.size := hB2.lt
  clear hn hnt hn1 hos hT hI hX hR hNum hTx hS hJ hclo
  go_enter Yba.func40, Yba.ntmps40
  go_wp2_with fail
  go_region
  -- P1
  have hX3 := hX2.set 2 (.slice (some ⟨w.heap.size + 1, 0, none⟩) 0 n)
  have hB3 := hB2.other ⟨X, 2, none⟩ (.slice (some ⟨w.heap.size + 1, 0, none⟩) 0 n) (by simp; omega)
  have hO3 : (w2.setCell ⟨X, 2, none⟩ (.slice (some ⟨w.heap.size + 1, 0, none⟩) 0 n)).ownsRow w.heap.size 79 4 (.slice (some ⟨w.heap.size + 1, 0, none⟩) 0 n) 0 (ioCells []) := by
    have := owns_other hown2 ⟨X, 2, none⟩ (.slice (some ⟨w.heap.size + 1, 0, none⟩) 0 n) (by simp; exact lX)
    have e : (w.alloc (.cells #[.pointer (some ⟨X, 0, none⟩)] 66)).drew.heap.size = w.heap.size + 1 := by simp
    rw [e] at this
    exact this
  have hc3 : Calm X N1 w.heap.size w (w2.setCell ⟨X, 2, none⟩ (.slice (some ⟨w.heap.size + 1, 0, none⟩) 0 n)) :=
    (((Calm.alloc w (.cells #[.pointer (some ⟨X, 0, none⟩)] 66)).trans (Calm.drew _)).trans (show Calm X N1 w.heap.size _ w2 from ⟨hgrow2.size, fun b hb _ _ => hgrow2.block b hb (by simp)⟩)).trans (Calm.setX _ _ _)
  have ho3 : Only (fun b => b = X ∨ N1 ≤ b) w (w2.setCell ⟨X, 2, none⟩ (.slice (some ⟨w.heap.size + 1, 0, none⟩) 0 n)) :=
    ((((Only.refl _ w).alloc (.cells #[.pointer (some ⟨X, 0, none⟩)] 66)).drew).grown hgrow2 (fun k hk => by cases hk)).setCell (p := ⟨X, 2, none⟩) (.inr (.inl rfl)) _
  obtain ⟨N, hN⟩ : ∃ N, w.heap.size = N := ⟨_, rfl⟩
  have HN : Hid (w.heap.size = N) := hN
  rw [hN] at hX3 hB3 hO3 hc3 ho3 hN1 lX hw2 HCLO ⊢
  obtain ⟨W3, hW3⟩ : ∃ W3, w2.setCell ⟨X, 2, none⟩ (.slice (some ⟨N + 1, 0, none⟩) 0 n) = W3 := ⟨_, rfl⟩
  rw [hW3] at hX3 hB3 hO3 hc3 ho3 ⊢
  obtain ⟨G, hG⟩ : ∃ G, N + 1 = G := ⟨_, rfl⟩
  rw [hG] at hX3 hO3 ⊢
  have hNG : N < G := by omega
  have HX3 : Hid (Blk W3 X 75 (ixCells (.slice a0 nt ct) v1 (.slice (some ⟨G, 0, none⟩) 0 n) (.slice none 0 0) (.slice none 0 0) (.int .i64 0) (.slice none 0 0) (.slice none 0 0) (.slice none 0 0) t9 t10 t11)) := hX3
  have HB3 : Hid (Blk W3 N 66 [.pointer (some ⟨X, 0, none⟩)]) := hB3
  have HO3 : Hid (W3.ownsRow N 79 4 (.slice (some ⟨G, 0, none⟩) 0 n) 0 (ioCells [])) := hO3
  have b3 : W3.cell? ⟨N, 0, none⟩ = some (.pointer (some ⟨X, 0, none⟩)) := hB3.cell rfl
  have x0 : W3.cell? ⟨X, 0, none⟩ = some (.slice a0 nt ct) := hX3.cell rfl
  have x7 : W3.cell? ⟨X, 7, none⟩ = some (.slice none 0 0) := hX3.cell rfl
  have f7 := hX3.frozen 7
  have lX3 : X < W3.heap.size := hX3.lt
  have lG3 : G < W3.heap.size := (row_owned hO3).lt
  have lN3 : N < W3.heap.size := hB3.lt
  have HJ3 : Hid (J 0 W3 v1) := HCLO.out.calm 0 w W3 v1 HJ.out hc3
  have hmk2 : ∀ wx : World, (Instr.makeSlice 41 (.int .i64 (nt : Int)) (.int .i64 (nt : Int))).run Yba.prog wx = .ok (.slice (some ⟨wx.heap.size, 0, none⟩) nt nt) (wx.alloc (.cells (madeCells #[.int .i64 0] nt) 3)) := fun wx => run_make_row' (P := Yba.prog) 41 3 (.int .i64 0) 8 Yba.underlying41 Yba.inf3 rfl .i64 .i64 nt (by omega) (by omega) wx
  clear hX3 hB3 hO3 hW3 hG hmk hown2 hgrow2 hX2 hB2 hB1 b0 b1 x2 f2 hN hw2 hc3 HJ
  clear w2
  go_wp2_with fail
  go_region
  have hsz : (W3.setCell ⟨X, 7, none⟩ (.slice (some ⟨W3.heap.size, 0, none⟩) nt nt)).heap.size = W3.heap.size := by simp
  have hX4 := ((HX3.out.set 7 (.slice (some ⟨W3.heap.size, 0, none⟩) nt nt)).alloc (.cells (madeCells #[.int .i64 0] nt) 3)).drew
  have hB4 := ((HB3.out.other ⟨X, 7, none⟩ (.slice (some ⟨W3.heap.size, 0, none⟩) nt nt) (by simp; omega)).alloc (.cells (madeCells #[.int .i64 0] nt) 3)).drew
  have hE4 := (blk_made (W3.setCell ⟨X, 7, none⟩ (.slice (some ⟨W3.heap.size, 0, none⟩) nt nt)) (.int .i64 0) nt 3).drew
  rw [hsz] at hE4
  have hO4 := World.ownsRow.drew (World.ownsRow.alloc (owns_other HO3.out ⟨X, 7, none⟩ (.slice (some ⟨W3.heap.size, 0, none⟩) nt nt) (by simp; exact lX)) (.cells (madeCells #[.int .i64 0] nt) 3))
  have hc4 : Calm X N1 N W3 ((W3.setCell ⟨X, 7, none⟩ (.slice (some ⟨W3.heap.size, 0, none⟩) nt nt)).alloc (.cells (madeCells #[.int .i64 0] nt) 3)).drew := ((Calm.setX _ _ _).trans (Calm.alloc _ _)).trans (Calm.drew _)
  have ho4 := ((ho3.setCell (p := ⟨X, 7, none⟩) (.inr (.inl rfl)) (.slice (some ⟨W3.heap.size, 0, none⟩) nt nt)).alloc (.cells (madeCells #[.int .i64 0] nt) 3)).drew
  obtain ⟨E, hE⟩ : ∃ E, W3.heap.size = E := ⟨_, rfl⟩
  rw [hE] at hX4 hB4 hE4 hO4 hc4 ho4 lX3 lG3 lN3 ⊢
  obtain ⟨W4, hW4⟩ : ∃ W4, ((W3.setCell ⟨X, 7, none⟩ (.slice (some ⟨E, 0, none⟩) nt nt)).alloc (.cells (madeCells #[.int .i64 0] nt) 3)).drew = W4 := ⟨_, rfl⟩
  rw [hW4] at hX4 hB4 hE4 hO4 hc4 ho4 ⊢
  have HJ4 : Hid (J 0 W4 v1) := HCLO.out.calm 0 W3 W4 v1 HJ3.out hc4
  have HX4 : Hid (Blk W4 X 75 (ixCells (.slice a0 nt ct) v1 (.slice (some ⟨G, 0, none⟩) 0 n) (.slice none 0 0) (.slice none 0 0) (.int .i64 0) (.slice none 0 0) (.slice (some ⟨E, 0, none⟩) nt nt) (.slice none 0 0) t9 t10 t11)) := hX4
  have HB4 : Hid (Blk W4 N 66 [.pointer (some ⟨X, 0, none⟩)]) := hB4
  have HO4 : Hid (W4.ownsRow N 79 4 (.slice (some ⟨G, 0, none⟩) (iops xs ys (l.take 0)).length n) (iops xs ys (l.take 0)).length (ioCells (iops xs ys (l.take 0)))) := hO4
  have HE4 : Hid (Blk W4 E 3 (nats (endsUp xs l 0))) := by show Blk _ _ _ _; rw [endsUp, HNT.out, nats_zero]; exact hE4
  have HA4 : Hid (AbAt W4 nt N1 (.slice none 0 0) (absUp xs l 0)) := rfl
  clear hX4 hB4 hE4 hO4 hc4 hW4 hE HX3 HB3 HO3 HJ3 hmk2 b3 x0 x7 f7 hsz ho3
  clear W3
  go_wp2_with fail
  go_loopw [9, 10, 11, 29] (fun _ _ _ i wr => ∃ (q m : Nat) (v1 ab : Value), q ≤ n ∧ i = .int .i64 q ∧ Hid (m = (iops xs ys (l.take q)).length) ∧ Hid (J q wr v1) ∧ Hid (Blk wr X 75 (ixCells (.slice a0 nt ct) v1 (.slice (some ⟨G, 0, none⟩) m n) (.slice none 0 0) (.slice none 0 0) (.int .i64 0) (.slice none 0 0) (.slice (some ⟨E, 0, none⟩) nt nt) ab t9 t10 t11)) ∧ Hid (Blk wr N 66 [.pointer (some ⟨X, 0, none⟩)]) ∧ Hid (wr.ownsRow N 79 4 (.slice (some ⟨G, 0, none⟩) m n) m (ioCells (iops xs ys (l.take q)))) ∧ Hid (Blk wr E 3 (nats (endsUp xs l q))) ∧ Hid (AbAt wr nt N1 ab (absUp xs l q)) ∧ Only (fun b => b = X ∨ N1 ≤ b) w wr) (fun _ _ _ i _ => n - (intOf i).toNat)
  case atStart => exact ⟨0, 0, v1, _, Nat.zero_le _, rfl, rfl, HJ4, HX4, HB4, HO4, HE4, HA4, ho4⟩
  case round =>
    clear HJ4 HX4 HB4 HO4 HE4 HA4 ho4
    obtain ⟨q, m, v1, ab, hq, rfl, HM, HJq, HXq, HBq, HOq, HEq, HAq, hoq⟩ := hrel
    by_cases hlt : q < n
    · have hql : q < l.length := by rw [HL.out]; exact hlt
      obtain ⟨s0, s1, s2⟩ := opCells_at l q hql
      have hRr := HR.out.only hoq (by omega)
      have d0 := hRr.cell s0
      have d1 := hRr.cell s1
      have d2 := hRr.cell s2
      obtain ⟨o, ho⟩ : ∃ o, o = l.getD q default := ⟨_, rfl⟩
      rw [← ho] at d0 d1 d2
      have HOo : Hid (o = l.getD q default) := ho
      have hmem : o.t ∈ xs := (HTX.out.2 _).2 ⟨o, by rw [ho, List.getD_eq_getElem?_getD, List.getElem?_eq_getElem hql]; simp, rfl⟩
      have hidx : idx0 xs o.t = ((xs.idxOf o.t : Nat) : Int) := by simp [idx0, hmem]
      obtain ⟨t, htt⟩ : ∃ t, t = xs.idxOf o.t := ⟨_, rfl⟩
      have htn : t < nt := by rw [htt, ← HNT.out]; exact List.idxOf_lt_length_iff.2 hmem
      have HT : Hid (t = xs.idxOf o.t) := htt
      have h48 := fun wx => fun hb => index48 (HNUM.out wx hb) HTX.out HSM.out q hql
      rw [← ho, hidx, ← htt] at h48
      have H48 : Hid (∀ wx : World, (∀ b, b < N1 → b ≠ X → wx.heap[b]? = w.heap[b]?) → Calls Yba.prog 48 #[.agg #[t9, t10, t11], .int .i64 o.t] wx fun e w' => e = .returned (.int .i64 (t : Int)) ∧ Below wx.heap.size wx w') := h48
      have hmq : m ≤ q := by rw [HM.out, iops_len]; exact accs_len l q
      have qn : (q : Int) < (n : Int) := by omega
      have hwN : N ≤ wr.heap.size := by have := hoq.size; rw [HN.out] at this; exact this
      clear s0 s1 s2 hRr ho hidx htt h48
      go_wp2_with fail
      have hP5 : Blk (wr.alloc (.cells #[.int .u8 o.k, .int .i64 o.t, .string o.i] 64)) wr.heap.size 64 [.int .u8 o.k, .int .i64 o.t, .string o.i] := blk_new wr _ 64
      have hX5 := HXq.out.alloc (.cells #[.int .u8 o.k, .int .i64 o.t, .string o.i] 64)
      have hB5 := HBq.out.alloc (.cells #[.int .u8 o.k, .int .i64 o.t, .string o.i] 64)
      have hO5 := HOq.out.alloc (.cells #[.int .u8 o.k, .int .i64 o.t, .string o.i] 64)
      have hE5 := HEq.out.alloc (.cells #[.int .u8 o.k, .int .i64 o.t, .string o.i] 64)
      have hA5 : AbAt (wr.alloc (.cells #[.int .u8 o.k, .int .i64 o.t, .string o.i] 64)) nt N1 ab (absUp xs l q) := by
        have := HAq.out
        cases hb : absUp xs l q with
        | none => rw [hb] at this; exact this
        | some bs => rw [hb] at this; obtain ⟨g, e, h1, h2⟩ := this; exact ⟨g, e, h1, h2.alloc _⟩
      have ho5 := hoq.alloc (.cells #[.int .u8 o.k, .int .i64 o.t, .string o.i] 64)
      have hJ5 := HCLO.out.calm q wr _ v1 HJq.out (Calm.alloc wr (.cells #[.int .u8 o.k, .int .i64 o.t, .string o.i] 64))
      have hs5 : (wr.alloc (.cells #[.int .u8 o.k, .int .i64 o.t, .string o.i] 64)).heap.size = wr.heap.size + 1 := by simp
      obtain ⟨W5, hW5⟩ : ∃ W5, wr.alloc (.cells #[.int .u8 o.k, .int .i64 o.t, .string o.i] 64) = W5 := ⟨_, rfl⟩
      obtain ⟨P, hP⟩ : ∃ P, wr.heap.size = P := ⟨_, rfl⟩
      rw [hW5] at hP5 hX5 hB5 hO5 hE5 hA5 ho5 hJ5 hs5 ⊢
      rw [hP] at hP5 hs5 hwN ⊢
      have HP5 : Hid (Blk W5 P 64 [.int .u8 o.k, .int .i64 o.t, .string o.i]) := hP5
      have HX5 : Hid (Blk W5 X 75 (ixCells (.slice a0 nt ct) v1 (.slice (some ⟨G, 0, none⟩) m n) (.slice none 0 0) (.slice none 0 0) (.int .i64 0) (.slice none 0 0) (.slice (some ⟨E, 0, none⟩) nt nt) ab t9 t10 t11)) := hX5
      have HB5 : Hid (Blk W5 N 66 [.pointer (some ⟨X, 0, none⟩)]) := hB5
      have HO5 : Hid (W5.ownsRow N 79 4 (.slice (some ⟨G, 0, none⟩) m n) m (ioCells (iops xs ys (l.take q)))) := hO5
      have HE5 : Hid (Blk W5 E 3 (nats (endsUp xs l q))) := hE5
      have HA5 : Hid (AbAt W5 nt N1 ab (absUp xs l q)) := hA5
      have HJ5 : Hid (J q W5 v1) := hJ5
      have hc48 := H48.out W5.drew (fun b hb hx => ho5.block b (by rw [HN.out]; omega) (by omega))
      have b0 : W5.cell? ⟨N, 0, none⟩ = some (.pointer (some ⟨X, 0, none⟩)) := hB5.cell rfl
      have y9 : W5.cell? ⟨X, 9, none⟩ = some t9 := hX5.cell rfl
      have y10 : W5.cell? ⟨X, 10, none⟩ = some t10 := hX5.cell rfl
      have y11 : W5.cell? ⟨X, 11, none⟩ = some t11 := hX5.cell rfl
      have p1 : W5.cell? ⟨P, 1, none⟩ = some (.int .i64 o.t) := hP5.cell rfl
      have lX5 : X < W5.heap.size := hX5.lt
      have lN5 : N < W5.heap.size := hB5.lt
      have lP5 : P < W5.heap.size := hP5.lt
      clear hP5 hX5 hB5 hO5 hE5 hA5 hJ5 hW5 hP HXq HBq HOq HEq HAq HJq hoq d0 d1 d2
      clear wr
      go_region_held3 (fun w' => w'.cell? ⟨N, 0, none⟩ = some (.pointer (some ⟨X, 0, none⟩)) ∧ w'.cell? ⟨X, 9, none⟩ = some t9 ∧ w'.cell? ⟨X, 10, none⟩ = some t10 ∧ w'.cell? ⟨X, 11, none⟩ = some t11 ∧ w'.cell? ⟨P, 1, none⟩ = some (.int .i64 o.t))
        (first
          | go_keep
          | (go_split_ands
             refine ⟨?_, ?_, ?_, ?_, ?_⟩
             · exact (hB6.cell (p := ⟨N, 0, none⟩) lN5).trans b0
             · exact (hB6.cell (p := ⟨X, 9, none⟩) lX5).trans y9
             · exact (hB6.cell (p := ⟨X, 10, none⟩) lX5).trans y10
             · exact (hB6.cell (p := ⟨X, 11, none⟩) lX5).trans y11
             · exact (hB6.cell (p := ⟨P, 1, none⟩) lP5).trans p1))
        ((go_at_call 48; refine hc48.mono ?_; rintro e w6 ⟨rfl, hB6⟩))
      have hsd : W5.drew.heap.size = W5.heap.size := rfl
      rw [hsd] at hB6
      have hX6 := HX5.out.drew.below hB6 lX5
      have hP6 := HP5.out.drew.below hB6 lP5
      have hE6 := HE5.out.drew.below hB6 HE5.out.lt
      have hBn6 := HB5.out.drew.below hB6 lN5
      have hO6 := owns_below (B := 0) (World.ownsRow.drew HO5.out) hB6
      have hJ6 := HCLO.out.calm q W5 w6 v1 HJ5.out ((Calm.drew W5).trans (Calm.below hB6))
      have hA6 : AbAt w6 nt N1 ab (absUp xs l q) := by
        have := HA5.out
        cases hb : absUp xs l q with
        | none => rw [hb] at this; exact this
        | some bs => rw [hb] at this; obtain ⟨g, e, h1, h2⟩ := this; exact ⟨g, e, h1, h2.drew.below hB6 h2.lt⟩
      have ho6 := ho5.drew.below hB6
      have HX6 : Hid (Blk w6 X 75 (ixCells (.slice a0 nt ct) v1 (.slice (some ⟨G, 0, none⟩) m n) (.slice none 0 0) (.slice none 0 0) (.int .i64 0) (.slice none 0 0) (.slice (some ⟨E, 0, none⟩) nt nt) ab t9 t10 t11)) := hX6
      have HP6 : Hid (Blk w6 P 64 [.int .u8 o.k, .int .i64 o.t, .string o.i]) := hP6
      have HE6 : Hid (Blk w6 E 3 (nats (endsUp xs l q))) := hE6
      have HB6 : Hid (Blk w6 N 66 [.pointer (some ⟨X, 0, none⟩)]) := hBn6
      have HO6 : Hid (w6.ownsRow N 79 4 (.slice (some ⟨G, 0, none⟩) m n) m (ioCells (iops xs ys (l.take q)))) := hO6
      have HJ6 : Hid (J q w6 v1) := hJ6
      have HA6 : Hid (AbAt w6 nt N1 ab (absUp xs l q)) := hA6
      have hN6 : N ≤ w6.heap.size := by have := hB6.size; omega
      clear hX6 hP6 hE6 hBn6 hO6 hJ6 hA6 hB6 hsd HP5 HX5 HB5 HO5 HE5 HA5 HJ5 hc48 b0 y9 y10 y11 p1 ho5 lX5 lN5 lP5 hs5
      clear W5
      have p0 : w6.cell? ⟨P, 0, none⟩ = some (.int .u8 o.k) := HP6.out.cell rfl
      go_upto_if 42 with (fail)
      go_cut [] from 30 to 112 (fun w' => ∃ ab', Hid (J q w' v1) ∧ Hid (Blk w' X 75 (ixCells (.slice a0 nt ct) v1 (.slice (some ⟨G, 0, none⟩) m n) (.slice none 0 0) (.slice none 0 0) (.int .i64 0) (.slice none 0 0) (.slice (some ⟨E, 0, none⟩) nt nt) ab' t9 t10 t11)) ∧ Hid (Blk w' P 64 [.int .u8 o.k, .int .i64 o.t, .string o.i]) ∧ Hid (Blk w' E 3 (nats (endsUp xs l q))) ∧ Hid (Blk w' N 66 [.pointer (some ⟨X, 0, none⟩)]) ∧ Hid (w'.ownsRow N 79 4 (.slice (some ⟨G, 0, none⟩) m n) m (ioCells (iops xs ys (l.take q)))) ∧ Hid (AbAt w' nt N1 ab' (absUp xs l (q + 1))) ∧ Only (fun b => b = X ∨ N1 ≤ b) w w')
      case first =>
        by_cases hk : o.k = 3
        · have hkb : (o.k == 3) = true := by simpa using hk
          have hA := HA6.out
          have b0 : w6.cell? ⟨N, 0, none⟩ = some (.pointer (some ⟨X, 0, none⟩)) := HB6.out.cell rfl
          have x0 : w6.cell? ⟨X, 0, none⟩ = some (.slice a0 nt ct) := HX6.out.cell rfl
          have x8 : w6.cell? ⟨X, 8, none⟩ = some ab := HX6.out.cell rfl
          have f8 := HX6.out.frozen 8
          have lX6 : X < w6.heap.size := HX6.out.lt
          have lN6' : N < w6.heap.size := HB6.out.lt
          have tn : (t : Int) < (nt : Int) := by omega
          cases hb : absUp xs l q with
          | none =>
            rw [hb] at hA
            obtain rfl : ab = .slice none 0 0 := hA
            have HAB : Hid (absUp xs l (q + 1) = some ((List.replicate nt false).set t true)) := by
              show _ = _
              rw [absUp, ← HOo.out, if_pos hk, hb, HNT.out, ← HT.out]; rfl
            have q8 : ∀ w : World, (binOp .eql 25 (.slice none 0 0) (.slice none 0 0)).run Yba.prog w = .ok (.bool true) w := fun w => Lib.run_eql_slice_nil w _ _ _ _ _ _ _ Yba.underlying25
            have hmk : ∀ wx : World, (Instr.makeSlice 25 (.int .i64 (nt : Int)) (.int .i64 (nt : Int))).run Yba.prog wx = .ok (.slice (some ⟨wx.heap.size, 0, none⟩) nt nt) (wx.alloc (.cells (madeCells #[.bool false] nt) 4)) := fun wx => run_make_row' (P := Yba.prog) 25 4 (.bool false) 1 Yba.underlying25 Yba.info4 rfl .i64 .i64 nt (by omega) (by omega) wx
            have hmc : (madeCells #[Value.bool false] nt)[t]? = some (.bool false) := by
              rw [← Array.getElem?_toList, toList_madeCells_one, List.getElem?_replicate, if_pos htn]
            have HMC : Hid ((madeCells #[Value.bool false] nt).setIfInBounds t (.bool true) = (bools ((List.replicate nt false).set t true)).toArray) := by
              show _ = _
              apply Array.toList_inj.1
              rw [Array.toList_setIfInBounds, toList_madeCells_one]
              simp [bools, List.map_set]
            clear hb
            go_wp2_with fail
            go_region
            go_wp2_with fail
            rw [HMC.out]
            go_meet
            case rel =>
              have hsz : (w6.setCell ⟨X, 8, none⟩ (.slice (some ⟨w6.heap.size, 0, none⟩) nt nt)).heap.size = w6.heap.size := by simp
              have hnew := blk_new (w6.setCell ⟨X, 8, none⟩ (.slice (some ⟨w6.heap.size, 0, none⟩) nt nt)) (bools ((List.replicate nt false).set t true)) 4
              rw [hsz] at hnew
              refine ⟨.slice (some ⟨w6.heap.size, 0, none⟩) nt nt, HCLO.out.calm q w6 _ v1 HJ6.out (((Calm.setX _ _ _).trans (Calm.alloc _ _)).trans (Calm.drew _)), ((HX6.out.set 8 _).alloc _).drew, ((HP6.out.other ⟨X, 8, none⟩ _ (HP6.out.ne HX6.out (by decide))).alloc _).drew, ((HE6.out.other ⟨X, 8, none⟩ _ (HE6.out.ne HX6.out (by decide))).alloc _).drew, ((HB6.out.other ⟨X, 8, none⟩ _ (HB6.out.ne HX6.out (by decide))).alloc _).drew, ?_, ?_, ((ho6.setCell (p := ⟨X, 8, none⟩) (.inr (.inl rfl)) _).alloc _).drew⟩
              · exact World.ownsRow.drew (World.ownsRow.alloc (owns_same HO6.out fun g hg => Below.heap_setCell _ _ _ _ (fun e => HX6.out.not_own HO6.out (by decide) (by rw [hg, e]))) _)
              · show AbAt _ _ _ _ _
                rw [HAB.out]
                exact ⟨w6.heap.size, rfl, by omega, hnew.drew⟩
          | some bs =>
            rw [hb] at hA
            obtain ⟨gA, rfl, hgA, hBA⟩ := hA
            have HAB : Hid (absUp xs l (q + 1) = some (bs.set t true)) := by
              show _ = _
              rw [absUp, ← HOo.out, if_pos hk, hb, ← HT.out]; rfl
            have q8 : ∀ w : World, (binOp .eql 25 (.slice (some ⟨gA, 0, none⟩) nt nt) (.slice none 0 0)).run Yba.prog w = .ok (.bool false) w := fun w => Lib.run_eql_slice_nil w _ _ _ _ _ _ _ Yba.underlying25
            have hbl : bs.length = nt := by rw [absUp_len xs l q bs hb, HNT.out]
            have cA : w6.cell? ⟨gA, t, none⟩ = some (.bool (bs.getD t false)) := hBA.cell (by rw [bools, List.getElem?_map, List.getElem?_eq_getElem (by omega), List.getD_eq_getElem?_getD, List.getElem?_eq_getElem (by omega)]; rfl)
            have fA := hBA.frozen t
            have HBA : Hid (Blk w6 gA 4 (bools bs)) := hBA
            have hAX : gA ≠ X := hBA.ne HX6.out (by decide)
            clear hb hBA
            go_wp2_with fail
            go_meet
            case rel =>
              refine ⟨_, HCLO.out.calm q w6 _ v1 HJ6.out (Calm.set HBA.out hgA (.inr (.inl rfl)) t _), HX6.out.other ⟨gA, t, none⟩ _ (Ne.symm hAX), HP6.out.other ⟨gA, t, none⟩ _ (HP6.out.ne HBA.out (by decide)), HE6.out.other ⟨gA, t, none⟩ _ (HE6.out.ne HBA.out (by decide)), HB6.out.other ⟨gA, t, none⟩ _ (HB6.out.ne HBA.out (by decide)), ?_, ?_, ho6.setCell (p := ⟨gA, t, none⟩) (.inr (.inr hgA)) _⟩
              · exact owns_same HO6.out fun g hg => Below.heap_setCell _ _ _ _ (fun e => HBA.out.not_own HO6.out (by decide) (by rw [hg, e]))
              · show AbAt _ _ _ _ _
                rw [HAB.out]
                refine ⟨gA, rfl, hgA, ?_⟩
                have := HBA.out.set t (.bool true)
                have e : (bools bs).set t (.bool true) = bools (bs.set t true) := by simp [bools, List.map_set]
                rw [e] at this
                exact this
        · have hkb : (o.k == 3) = false := by simpa using hk
          have HAB : Hid (absUp xs l (q + 1) = absUp xs l q) := by
            show _ = _
            rw [absUp, ← HOo.out, if_neg hk]
          go_wp2_with fail
          go_meet
          case rel => exact ⟨ab, HJ6, HX6, HP6, HE6, HB6, HO6, by rw [HAB.out]; exact HA6, ho6⟩
      case rest =>
        obtain ⟨ab', HJ7, HX7, HP7, HE7, HB7, HO7, HA7, ho7⟩ := hcut
        clear HX6 HP6 HE6 HB6 HO6 HJ6 HA6 hN6 p0 ho6
        have p0 : wc.cell? ⟨P, 0, none⟩ = some (.int .u8 o.k) := HP7.out.cell rfl
        have p1 : wc.cell? ⟨P, 1, none⟩ = some (.int .i64 o.t) := HP7.out.cell rfl
        have p2 : wc.cell? ⟨P, 2, none⟩ = some (.string o.i) := HP7.out.cell rfl
        have b0 : wc.cell? ⟨N, 0, none⟩ = some (.pointer (some ⟨X, 0, none⟩)) := HB7.out.cell rfl
        have x2 : wc.cell? ⟨X, 2, none⟩ = some (.slice (some ⟨G, 0, none⟩) m n) := HX7.out.cell rfl
        have x7 : wc.cell? ⟨X, 7, none⟩ = some (.slice (some ⟨E, 0, none⟩) nt nt) := HX7.out.cell rfl
        have hel : (endsUp xs l q).length = nt := by rw [endsUp_len, HNT.out]
        have cE := HE7.out.cell (nats_at (endsUp xs l q) t (by omega))
        obtain ⟨ze, hze⟩ : ∃ ze, ze = (endsUp xs l q).getD t 0 := ⟨_, rfl⟩
        rw [← hze] at cE
        have fE := HE7.out.frozen t
        have tn : (t : Int) < (nt : Int) := by omega
        have hXE : X ≠ E := (HX7.out.ne HE7.out (by decide))
        have hNE : N ≠ E := (HB7.out.ne HE7.out (by decide))
        have hEN : N ≤ E := by omega
        have hEN1 : N1 ≤ E := by omega
        clear hze
        cases hac : acc o.k with
        | false =>
          have HEN : Hid (endsUp xs l (q + 1) = (endsUp xs l q).set t m) := by
            show _ = _
            rw [endsUp, ← HOo.out, ← HT.out, accs_no l q hql (by rw [← HOo.out]; exact hac), HM.out, iops_len]
          have HIO : Hid (iops xs ys (l.take (q + 1)) = iops xs ys (l.take q)) := iops_no xs ys l q hql (by rw [← HOo.out]; exact hac)
          go_wp2_with (go_at_call 49; refine (acc49 o.k _).mono ?_; rw [hac]; rintro e w' ⟨rfl, rfl⟩)
          go_region
          go_wp2_with fail
          go_roundw
          case rel =>
            refine ⟨q + 1, m, v1, ab', by omega, by go_num, by rw [HIO.out]; exact HM, HCLO.out.skip q _ v1 hql (by rw [← HOo.out]; exact hac) (HCLO.out.calm q w' _ v1 HJ7.out ((Calm.set HE7.out hEN1 (.inr (.inr ⟨rfl, hEN⟩)) t _).trans (Calm.drew _))), (HX7.out.other ⟨E, t, none⟩ _ hXE).drew, (HB7.out.other ⟨E, t, none⟩ _ hNE).drew, ?_, ?_, ?_, (ho7.setCell (p := ⟨E, t, none⟩) (.inr (.inr hEN1)) _).drew⟩
            · show World.ownsRow _ _ _ _ _ _ _
              rw [HIO.out]
              exact World.ownsRow.drew (owns_same HO7.out fun g hg => Below.heap_setCell _ _ _ _ (fun e => HE7.out.not_own HO7.out (by decide) (by rw [hg, e])))
            · show Blk _ _ _ _
              have hs := HE7.out.set t (.int .i64 (m : Int))
              rw [nats_set, ← HEN.out] at hs
              exact hs.drew
            · have hA := HA7.out
              show AbAt _ _ _ _ _
              cases hb : absUp xs l (q + 1) with
              | none => rw [hb] at hA; exact hA
              | some bs => rw [hb] at hA; obtain ⟨g, e, h1, h2⟩ := hA; exact ⟨g, e, h1, (h2.other ⟨E, t, none⟩ _ (h2.ne HE7.out (by decide))).drew⟩
          case measure => simp [intOf]; omega
        | true =>
          have hcl := HCLO.out.call q wc v1 _ hql (by rw [← HOo.out]; exact hac) HJ7.out HX7.out rfl rfl (by have := ho7.size; rw [HN.out] at this; exact this)
          rw [← HOo.out, ← HT.out] at hcl
          have hent := HCLO.out.enter
          go_wp2_with (go_at_call 49; refine (acc49 o.k _).mono ?_; rw [hac]; rintro e w' ⟨rfl, rfl⟩)
          refine hcl.mono ?_
          clear hcl hent
          rintro e w8 ⟨hO8, (⟨v1', rfl, hJ8, hX8⟩ | ⟨z, rfl, hbad⟩)⟩
          · have keep : ∀ b, b < w'.heap.size → b ≠ X → Keep N1 N w' b → w8.heap[b]? = w'.heap[b]? := fun b hb hx hk => hO8.block b hb (fun h => h.elim hx (fun h => h hk))
            have hP8 := HP7.out.same (keep P HP7.out.lt (HP7.out.ne HX7.out (by decide)) (keep_blk HP7.out (.inr (.inr (.inr (.inl rfl))))))
            have hB8 := HB7.out.same (keep N HB7.out.lt (HB7.out.ne HX7.out (by decide)) (keep_blk HB7.out (.inr (.inr (.inl rfl)))))
            have hE8 := HE7.out.same (keep E HE7.out.lt (Ne.symm hXE) (keep_blk HE7.out (.inr (.inr (.inr (.inr ⟨rfl, hEN⟩))))))
            have hO8' : w8.ownsRow N 79 4 (.slice (some ⟨G, 0, none⟩) m n) m (ioCells (iops xs ys (l.take q))) := by
              refine owns_same HO7.out fun g hg => keep g (HO7.out.lt g hg).2 (fun e => HX7.out.not_own HO7.out (by decide) (by rw [hg, e])) ?_
              rcases HO7.out.2 with ⟨h, _⟩ | ⟨g', cap', cur, hv, _, hgg, _⟩
              · cases h
              · rw [hv] at hg
                simp only [Value.ownBlock, Option.some.injEq] at hg
                subst hg
                exact .inr ⟨_, _, _, hgg, .inl rfl⟩
            have hA8 : AbAt w8 nt N1 ab' (absUp xs l (q + 1)) := by
              have hA := HA7.out
              cases hb : absUp xs l (q + 1) with
              | none => rw [hb] at hA; exact hA
              | some bs => rw [hb] at hA; obtain ⟨g, e, h1, h2⟩ := hA; exact ⟨g, e, h1, h2.same (keep g h2.lt (h2.ne HX7.out (by decide)) (keep_blk h2 (.inr (.inl rfl))))⟩
            have ho8 : Only (fun b => b = X ∨ N1 ≤ b) w w8 := ho7.trans (hO8.mono fun b hb hd => by
              rcases hd with h | h
              · exact .inl h
              · rcases Nat.lt_or_ge b N1 with h' | h'
                · exact absurd (.inl h') h
                · exact .inr h')
            obtain ⟨x, hx⟩ : ∃ x, x = plc ys o.i := ⟨_, rfl⟩
            rw [← hx]
            have HXI : Hid (x = plc ys o.i) := hx
            have p0 : w8.cell? ⟨P, 0, none⟩ = some (.int .u8 o.k) := hP8.cell rfl
            have b8 : w8.cell? ⟨N, 0, none⟩ = some (.pointer (some ⟨X, 0, none⟩)) := hB8.cell rfl
            have x8 : w8.cell? ⟨X, 2, none⟩ = some (.slice (some ⟨G, 0, none⟩) m n) := hX8.cell rfl
            have l8 : X < w8.heap.size := hX8.lt
            have l8P : P < w8.heap.size := hP8.lt
            have l8N : N < w8.heap.size := hB8.lt
            have HX8 : Hid (Blk w8 X 75 (ixCells (.slice a0 nt ct) v1' (.slice (some ⟨G, 0, none⟩) m n) (.slice none 0 0) (.slice none 0 0) (.int .i64 0) (.slice none 0 0) (.slice (some ⟨E, 0, none⟩) nt nt) ab' t9 t10 t11)) := hX8
            have HJ8 : Hid (J (q + 1) w8 v1') := hJ8
            have HA8 : Hid (AbAt w8 nt N1 ab' (absUp xs l (q + 1))) := hA8
            have HO8 : Hid (w8.ownsRow N 79 4 (.slice (some ⟨G, 0, none⟩) m n) m (ioCells (iops xs ys (l.take q)))) := hO8'
            have HB8 : Hid (Blk w8 N 66 [.pointer (some ⟨X, 0, none⟩)]) := hB8
            have HE8 : Hid (Blk w8 E 3 (nats (endsUp xs l q))) := hE8
            have HP8 : Hid (Blk w8 P 64 [.int .u8 o.k, .int .i64 o.t, .string o.i]) := hP8
            have nNX : N ≠ X := hB8.ne HX8.out (by decide)
            have nPX : P ≠ X := hP8.ne HX8.out (by decide)
            have HIO : Hid (ioCells (iops xs ys (l.take (q + 1))) = ioCells (iops xs ys (l.take q)) ++ [.int .u8 o.k, .int .i64 (t : Int), .int .i64 (x : Int), .int .i64 0]) := by
              show _ = _
              rw [iops_yes xs ys l q hql (by rw [← HOo.out]; exact hac), ioCells_app, ← HOo.out]
              simp [ioCells, IOp.cells, iop, ← HT.out, ← HXI.out]
            have HMN : Hid (m + 1 = (iops xs ys (l.take (q + 1))).length) := by
              show _ = _
              rw [iops_yes xs ys l q hql (by rw [← HOo.out]; exact hac), List.length_append, ← HM.out]; rfl
            clear keep hx hJ8 hX8 hA8 hO8' hO8 hB8 hE8 hP8
            go_upto_region 16 with (fail)
            go_cut [] from 30 to 112 (fun w' => Hid (J (q + 1) w' v1') ∧ Hid (Blk w' X 75 (ixCells (.slice a0 nt ct) v1' (.slice (some ⟨G, 0, none⟩) (m + 1) n) (.slice none 0 0) (.slice none 0 0) (.int .i64 0) (.slice none 0 0) (.slice (some ⟨E, 0, none⟩) nt nt) ab' t9 t10 t11)) ∧ Hid (Blk w' N 66 [.pointer (some ⟨X, 0, none⟩)]) ∧ Hid (w'.ownsRow N 79 4 (.slice (some ⟨G, 0, none⟩) (m + 1) n) (m + 1) (ioCells (iops xs ys (l.take (q + 1))))) ∧ Hid (Blk w' E 3 (nats (endsUp xs l q))) ∧ Hid (AbAt w' nt N1 ab' (absUp xs l (q + 1))) ∧ Only (fun b => b = X ∨ N1 ≤ b) w w')
            case first =>
              refine wp_region_held_drew (S := fun w' => w'.cell? ⟨N, 0, none⟩ = some (.pointer (some ⟨X, 0, none⟩)) ∧ w'.cell? ⟨P, 0, none⟩ = some (.int .u8 o.k)) (by kernel_rfl) ⟨b8, p0⟩ (fun hHeld => ?_)
              refine wpAnyH_take (i := 0) (v := ?_) rfl (by kernel_rfl) (by kernel_rfl) (by kernel_rfl) (fun _ _ _ h => h) (Or.inl ⟨by rfl, ?_⟩) (by assumption) ?_
              rotate_left
              · intro w hSw; (try dsimp only at hSw); go_simp; with_reducible rfl
              try simp only [Act.put, List.setIfInBounds_toArray, List.set_cons_zero, List.set_cons_succ]
              refine wpAnyH_take (i := 1) (v := ?_) rfl (by kernel_rfl) (by kernel_rfl) (by kernel_rfl) (fun _ _ _ h => h) (Or.inl ⟨by rfl, ?_⟩) (by assumption) ?_
              rotate_left
              · intro w hSw; (try dsimp only at hSw); go_simp; with_reducible rfl
              try simp only [Act.put, List.setIfInBounds_toArray, List.set_cons_zero, List.set_cons_succ]
              refine wpAnyH_take (i := 2) (v := ?_) rfl (by kernel_rfl) (by kernel_rfl) (by kernel_rfl) (fun _ _ _ h => h) (Or.inl ⟨by rfl, ?_⟩) (by assumption) ?_
              rotate_left
              · intro w hSw; (try dsimp only at hSw); go_simp; with_reducible rfl
              try simp only [Act.put, List.setIfInBounds_toArray, List.set_cons_zero, List.set_cons_succ]
              refine wpAnyH_take (i := 3) (v := ?_) rfl (by kernel_rfl) (by kernel_rfl) (by kernel_rfl) (fun _ _ _ h => h) (Or.inl ⟨by rfl, ?_⟩) (by assumption) ?_
              rotate_left
              · intro w hSw; (try dsimp only at hSw); go_simp; with_reducible rfl
              try simp only [Act.put, List.setIfInBounds_toArray, List.set_cons_zero, List.set_cons_succ]
              refine wpAnyH_take (i := 5) (v := ?_) rfl (by kernel_rfl) (by kernel_rfl) (by kernel_rfl) (fun _ _ _ h => h) (Or.inl ⟨by rfl, ?_⟩) (by assumption) ?_
              rotate_left
              · intro w hSw; (try dsimp only at hSw); go_simp; with_reducible rfl
              try simp only [Act.put, List.setIfInBounds_toArray, List.set_cons_zero, List.set_cons_succ]
              refine wpAnyH_take (i := 6) (v := ?_) rfl (by kernel_rfl) (by kernel_rfl) (by kernel_rfl) (fun _ _ _ h => h) (Or.inl ⟨by rfl, ?_⟩) (by assumption) ?_
              rotate_left
              · intro w hSw; (try dsimp only at hSw); go_simp; with_reducible rfl
              try simp only [Act.put, List.setIfInBounds_toArray, List.set_cons_zero, List.set_cons_succ]
              refine wpAnyH_take (i := 7) (v := ?_) rfl (by kernel_rfl) (by kernel_rfl) (by kernel_rfl) (fun _ _ _ h => h) (Or.inl ⟨by rfl, ?_⟩) (by assumption) ?_
              rotate_left
              · intro w hSw; (try dsimp only at hSw); go_simp; with_reducible rfl
              try simp only [Act.put, List.setIfInBounds_toArray, List.set_cons_zero, List.set_cons_succ]
              refine wpAnyH_take (i := 8) (v := ?_) rfl (by kernel_rfl) (by kernel_rfl) (by kernel_rfl) (fun _ _ _ h => h) (Or.inl ⟨by rfl, ?_⟩) (by assumption) ?_
              rotate_left
              · intro w hSw; (try dsimp only at hSw); go_simp; with_reducible rfl
              try simp only [Act.put, List.setIfInBounds_toArray, List.set_cons_zero, List.set_cons_succ]
              refine wpAnyH_take (i := 9) (v := ?_) rfl (by kernel_rfl) (by kernel_rfl) (by kernel_rfl) (fun _ _ _ h => h) (Or.inl ⟨by rfl, ?_⟩) (by assumption) ?_
              rotate_left
              · intro w hSw; (try dsimp only at hSw); go_simp; with_reducible rfl
              try simp only [Act.put, List.setIfInBounds_toArray, List.set_cons_zero, List.set_cons_succ]
              refine wpAnyH_ready (rs := [4, 10]) (by kernel_rfl) (by simp) ?_
              refine AllReadyH.cons rfl (fun K hK => ?_) ?_
              · go_simp
                refine hK.out _ _ (⟨b8, p0⟩) (fun hHeld => ?_)
                clear hK K
                try simp only [Act.put, List.setIfInBounds_toArray, List.set_cons_zero, List.set_cons_succ]
                refine wpAnyH_ready (rs := [10]) (by kernel_rfl) (by simp) ?_
                refine AllReadyH.cons rfl (fun K hK => ?_) ?_
                · go_simp
                  refine hK.out _ _ (⟨(show Blk ((w8.alloc (.cells #[.int .u8 o.k, .int .i64 (t : Int), .int .i64 (x : Int), .int .i64 0] 79)).drew) N 66 _ from (HB8.out.alloc _).drew).cell rfl, (show Blk ((w8.alloc (.cells #[.int .u8 o.k, .int .i64 (t : Int), .int .i64 (x : Int), .int .i64 0] 79)).drew) P 64 _ from (HP8.out.alloc _).drew).cell rfl⟩) (fun hHeld => ?_)
                  clear hK K
                  try simp only [Act.put, List.setIfInBounds_toArray, List.set_cons_zero, List.set_cons_succ]
                  refine wpAnyH_ready (rs := [11]) (by kernel_rfl) (by simp) ?_
                  refine AllReadyH.cons rfl (fun K hK => ?_) ?_
                  · refine step_append_fits (by rfl) _ _ _ (by rfl) N 79 i0 4 Yba.underlying70 hi hz1 G m n (ioCells (iops xs ys (l.take q))) (by rfl) (World.ownsRow.drew (HO8.out.alloc _)) ⟨w8.heap.size, 0, none⟩ 1 1 [.int .u8 o.k, .int .i64 (t : Int), .int .i64 (x : Int), .int .i64 0] (by rfl) rfl (World.news_of_block (cs := #[.int .u8 o.k, .int .i64 (t : Int), .int .i64 (x : Int), .int .i64 0]) (t := 79) (fr := (0, 0)) (heap_alloc_new w8 _)) (by intro u hu; simp at hu; rcases hu with rfl | rfl | rfl | rfl <;> rfl) (by omega) ?_
                    intro w9 hown9 hgr9
                    have hX9 := (HX8.out.alloc (.cells #[.int .u8 o.k, .int .i64 (t : Int), .int .i64 (x : Int), .int .i64 0] 79)).drew.grown hgr9 (HX8.out.not_own HO8.out (by decide))
                    have hB9 := (HB8.out.alloc (.cells #[.int .u8 o.k, .int .i64 (t : Int), .int .i64 (x : Int), .int .i64 0] 79)).drew.grown hgr9 (HB8.out.not_own HO8.out (by decide))
                    have hP9 := (HP8.out.alloc (.cells #[.int .u8 o.k, .int .i64 (t : Int), .int .i64 (x : Int), .int .i64 0] 79)).drew.grown hgr9 (HP8.out.not_own HO8.out (by decide))
                    have hE9 := (HE8.out.alloc (.cells #[.int .u8 o.k, .int .i64 (t : Int), .int .i64 (x : Int), .int .i64 0] 79)).drew.grown hgr9 (HE8.out.not_own HO8.out (by decide))
                    have x9 : w9.cell? ⟨X, 2, none⟩ = some (.slice (some ⟨G, 0, none⟩) m n) := hX9.cell rfl
                    have f9 := hX9.frozen 2
                    have b9 : w9.cell? ⟨N, 0, none⟩ = some (.pointer (some ⟨X, 0, none⟩)) := hB9.cell rfl
                    have p9 : w9.cell? ⟨P, 0, none⟩ = some (.int .u8 o.k) := hP9.cell rfl
                    refine hK.out _ _ (⟨b9, p9⟩) (fun hHeld => ?_)
                    clear hK K
                    try simp only [Act.put, List.setIfInBounds_toArray, List.set_cons_zero, List.set_cons_succ]
                    refine wpAnyH_take (i := 12) (v := ?_) rfl (by kernel_rfl) (by kernel_rfl) (by kernel_rfl) (fun _ _ _ h => h) (Or.inl ⟨by rfl, ?_⟩) (by assumption) ?_
                    rotate_left
                    · intro w hSw; (try dsimp only at hSw); go_simp; with_reducible rfl
                    try simp only [Act.put, List.setIfInBounds_toArray, List.set_cons_zero, List.set_cons_succ]
                    refine wpAnyH_take (i := 13) (v := ?_) rfl (by kernel_rfl) (by kernel_rfl) (by kernel_rfl) (fun _ _ _ h => h) (Or.inl ⟨by rfl, ?_⟩) (by assumption) ?_
                    rotate_left
                    · intro w hSw; (try dsimp only at hSw); go_simp; with_reducible rfl
                    try simp only [Act.put, List.setIfInBounds_toArray, List.set_cons_zero, List.set_cons_succ]
                    refine wpAnyH_ready (rs := [14]) (by kernel_rfl) (by simp) ?_
                    refine AllReadyH.cons rfl (fun K hK => ?_) ?_
                    · go_simp
                      refine hK.out _ _ (⟨(hB9.other ⟨X, 2, none⟩ _ nNX).cell rfl, (hP9.other ⟨X, 2, none⟩ _ nPX).cell rfl⟩) (fun hHeld => ?_)
                      clear hK K
                      try simp only [Act.put, List.setIfInBounds_toArray, List.set_cons_zero, List.set_cons_succ]
                      refine wpAnyH_done (by kernel_rfl) ?_ _
                      go_wp2_with fail
                      go_meet
                      case rel =>
                        refine ⟨HCLO.out.calm (q + 1) w8 _ v1' HJ8.out ((((Calm.alloc w8 (.cells #[.int .u8 o.k, .int .i64 (t : Int), .int .i64 (x : Int), .int .i64 0] 79)).trans (Calm.drew _)).trans (Calm.grown (World.ownsRow.drew (HO8.out.alloc (.cells #[.int .u8 o.k, .int .i64 (t : Int), .int .i64 (x : Int), .int .i64 0] 79))) hN1 rfl hgr9)).trans (Calm.setX _ _ _)), hX9.set 2 _, hB9.other ⟨X, 2, none⟩ _ nNX, ?_, hE9.other ⟨X, 2, none⟩ _ (hE9.ne hX9 (by decide)), ?_, (((ho8.alloc (.cells #[.int .u8 o.k, .int .i64 (t : Int), .int .i64 (x : Int), .int .i64 0] 79)).drew).grown hgr9 (fun k hk => by cases hk; exact .inr (.inr (by omega)))).setCell (p := ⟨X, 2, none⟩) (.inr (.inl rfl)) _⟩
                        · show World.ownsRow _ _ _ _ _ _ _
                          rw [HIO.out]
                          exact owns_same hown9 fun g hg => Below.heap_setCell _ _ _ _ (fun e => hX9.not_own hown9 (by decide) (by rw [hg, e]))
                        · have hA := HA8.out
                          show AbAt _ _ _ _ _
                          cases hb : absUp xs l (q + 1) with
                          | none => rw [hb] at hA; exact hA
                          | some bs =>
                            rw [hb] at hA
                            obtain ⟨g, e, h1, h2⟩ := hA
                            have h9 := (h2.alloc (.cells #[.int .u8 o.k, .int .i64 (t : Int), .int .i64 (x : Int), .int .i64 0] 79)).drew.grown hgr9 (h2.not_own HO8.out (by decide))
                            exact ⟨g, e, h1, h9.other ⟨X, 2, none⟩ _ (h9.ne hX9 (by decide))⟩
                    exact AllReadyH.nil
                  exact AllReadyH.nil
                exact AllReadyH.nil
              refine AllReadyH.cons rfl (fun K hK => ?_) ?_
              · go_simp
                refine hK.out _ _ (⟨(show Blk ((w8.alloc (.cells #[.int .u8 o.k, .int .i64 (t : Int), .int .i64 (x : Int), .int .i64 0] 79)).drew) N 66 _ from (HB8.out.alloc _).drew).cell rfl, (show Blk ((w8.alloc (.cells #[.int .u8 o.k, .int .i64 (t : Int), .int .i64 (x : Int), .int .i64 0] 79)).drew) P 64 _ from (HP8.out.alloc _).drew).cell rfl⟩) (fun hHeld => ?_)
                clear hK K
                try simp only [Act.put, List.setIfInBounds_toArray, List.set_cons_zero, List.set_cons_succ]
                refine wpAnyH_ready (rs := [4]) (by kernel_rfl) (by simp) ?_
                refine AllReadyH.cons rfl (fun K hK => ?_) ?_
                · go_simp
                  refine hK.out _ _ (⟨(show Blk ((w8.alloc (.cells #[.int .u8 o.k, .int .i64 (t : Int), .int .i64 (x : Int), .int .i64 0] 79)).drew) N 66 _ from (HB8.out.alloc _).drew).cell rfl, (show Blk ((w8.alloc (.cells #[.int .u8 o.k, .int .i64 (t : Int), .int .i64 (x : Int), .int .i64 0] 79)).drew) P 64 _ from (HP8.out.alloc _).drew).cell rfl⟩) (fun hHeld => ?_)
                  clear hK K
                  try simp only [Act.put, List.setIfInBounds_toArray, List.set_cons_zero, List.set_cons_succ]
                  refine wpAnyH_ready (rs := [11]) (by kernel_rfl) (by simp) ?_
                  refine AllReadyH.cons rfl (fun K hK => ?_) ?_
                  · refine step_append_fits (by rfl) _ _ _ (by rfl) N 79 i0 4 Yba.underlying70 hi hz1 G m n (ioCells (iops xs ys (l.take q))) (by rfl) (World.ownsRow.drew (HO8.out.alloc _)) ⟨w8.heap.size, 0, none⟩ 1 1 [.int .u8 o.k, .int .i64 (t : Int), .int .i64 (x : Int), .int .i64 0] (by rfl) rfl (World.news_of_block (cs := #[.int .u8 o.k, .int .i64 (t : Int), .int .i64 (x : Int), .int .i64 0]) (t := 79) (fr := (0, 0)) (heap_alloc_new w8 _)) (by intro u hu; simp at hu; rcases hu with rfl | rfl | rfl | rfl <;> rfl) (by omega) ?_
                    intro w9 hown9 hgr9
                    have hX9 := (HX8.out.alloc (.cells #[.int .u8 o.k, .int .i64 (t : Int), .int .i64 (x : Int), .int .i64 0] 79)).drew.grown hgr9 (HX8.out.not_own HO8.out (by decide))
                    have hB9 := (HB8.out.alloc (.cells #[.int .u8 o.k, .int .i64 (t : Int), .int .i64 (x : Int), .int .i64 0] 79)).drew.grown hgr9 (HB8.out.not_own HO8.out (by decide))
                    have hP9 := (HP8.out.alloc (.cells #[.int .u8 o.k, .int .i64 (t : Int), .int .i64 (x : Int), .int .i64 0] 79)).drew.grown hgr9 (HP8.out.not_own HO8.out (by decide))
                    have hE9 := (HE8.out.alloc (.cells #[.int .u8 o.k, .int .i64 (t : Int), .int .i64 (x : Int), .int .i64 0] 79)).drew.grown hgr9 (HE8.out.not_own HO8.out (by decide))
                    have x9 : w9.cell? ⟨X, 2, none⟩ = some (.slice (some ⟨G, 0, none⟩) m n) := hX9.cell rfl
                    have f9 := hX9.frozen 2
                    have b9 : w9.cell? ⟨N, 0, none⟩ = some (.pointer (some ⟨X, 0, none⟩)) := hB9.cell rfl
                    have p9 : w9.cell? ⟨P, 0, none⟩ = some (.int .u8 o.k) := hP9.cell rfl
                    refine hK.out _ _ (⟨b9, p9⟩) (fun hHeld => ?_)
                    clear hK K
                    try simp only [Act.put, List.setIfInBounds_toArray, List.set_cons_zero, List.set_cons_succ]
                    refine wpAnyH_take (i := 12) (v := ?_) rfl (by kernel_rfl) (by kernel_rfl) (by kernel_rfl) (fun _ _ _ h => h) (Or.inl ⟨by rfl, ?_⟩) (by assumption) ?_
                    rotate_left
                    · intro w hSw; (try dsimp only at hSw); go_simp; with_reducible rfl
                    try simp only [Act.put, List.setIfInBounds_toArray, List.set_cons_zero, List.set_cons_succ]
                    refine wpAnyH_take (i := 13) (v := ?_) rfl (by kernel_rfl) (by kernel_rfl) (by kernel_rfl) (fun _ _ _ h => h) (Or.inl ⟨by rfl, ?_⟩) (by assumption) ?_
                    rotate_left
                    · intro w hSw; (try dsimp only at hSw); go_simp; with_reducible rfl
                    try simp only [Act.put, List.setIfInBounds_toArray, List.set_cons_zero, List.set_cons_succ]
                    refine wpAnyH_ready (rs := [14]) (by kernel_rfl) (by simp) ?_
                    refine AllReadyH.cons rfl (fun K hK => ?_) ?_
                    · go_simp
                      refine hK.out _ _ (⟨(hB9.other ⟨X, 2, none⟩ _ nNX).cell rfl, (hP9.other ⟨X, 2, none⟩ _ nPX).cell rfl⟩) (fun hHeld => ?_)
                      clear hK K
                      try simp only [Act.put, List.setIfInBounds_toArray, List.set_cons_zero, List.set_cons_succ]
                      refine wpAnyH_done (by kernel_rfl) ?_ _
                      go_wp2_with fail
                      go_meet
                      case rel =>
                        refine ⟨HCLO.out.calm (q + 1) w8 _ v1' HJ8.out ((((Calm.alloc w8 (.cells #[.int .u8 o.k, .int .i64 (t : Int), .int .i64 (x : Int), .int .i64 0] 79)).trans (Calm.drew _)).trans (Calm.grown (World.ownsRow.drew (HO8.out.alloc (.cells #[.int .u8 o.k, .int .i64 (t : Int), .int .i64 (x : Int), .int .i64 0] 79))) hN1 rfl hgr9)).trans (Calm.setX _ _ _)), hX9.set 2 _, hB9.other ⟨X, 2, none⟩ _ nNX, ?_, hE9.other ⟨X, 2, none⟩ _ (hE9.ne hX9 (by decide)), ?_, (((ho8.alloc (.cells #[.int .u8 o.k, .int .i64 (t : Int), .int .i64 (x : Int), .int .i64 0] 79)).drew).grown hgr9 (fun k hk => by cases hk; exact .inr (.inr (by omega)))).setCell (p := ⟨X, 2, none⟩) (.inr (.inl rfl)) _⟩
                        · show World.ownsRow _ _ _ _ _ _ _
                          rw [HIO.out]
                          exact owns_same hown9 fun g hg => Below.heap_setCell _ _ _ _ (fun e => hX9.not_own hown9 (by decide) (by rw [hg, e]))
                        · have hA := HA8.out
                          show AbAt _ _ _ _ _
                          cases hb : absUp xs l (q + 1) with
                          | none => rw [hb] at hA; exact hA
                          | some bs =>
                            rw [hb] at hA
                            obtain ⟨g, e, h1, h2⟩ := hA
                            have h9 := (h2.alloc (.cells #[.int .u8 o.k, .int .i64 (t : Int), .int .i64 (x : Int), .int .i64 0] 79)).drew.grown hgr9 (h2.not_own HO8.out (by decide))
                            exact ⟨g, e, h1, h9.other ⟨X, 2, none⟩ _ (h9.ne hX9 (by decide))⟩
                    exact AllReadyH.nil
                  exact AllReadyH.nil
                exact AllReadyH.nil
              exact AllReadyH.nil
            case rest =>
              obtain ⟨HJ9, HX9, HB9, HO9, HE9, HA9, ho9⟩ := hcut
              clear HX8 HJ8 HA8 HO8 HB8 HE8 HP8 p0 b8 x8 l8 l8P l8N ho8 nNX nPX
              have b9 : wc.cell? ⟨N, 0, none⟩ = some (.pointer (some ⟨X, 0, none⟩)) := HB9.out.cell rfl
              have y2 : wc.cell? ⟨X, 2, none⟩ = some (.slice (some ⟨G, 0, none⟩) (m + 1) n) := HX9.out.cell rfl
              have y7 : wc.cell? ⟨X, 7, none⟩ = some (.slice (some ⟨E, 0, none⟩) nt nt) := HX9.out.cell rfl
              have cE9 := HE9.out.cell (nats_at (endsUp xs l q) t (by omega))
              obtain ⟨ze, hze⟩ : ∃ ze, ze = (endsUp xs l q).getD t 0 := ⟨_, rfl⟩
              rw [← hze] at cE9
              have fE9 := HE9.out.frozen t
              have HEN : Hid (endsUp xs l (q + 1) = (endsUp xs l q).set t (m + 1)) := by
                show _ = _
                rw [endsUp, ← HOo.out, ← HT.out, HMN.out, iops_len]
              clear hze
              go_wp2_with fail
              go_region
              go_wp2_with fail
              go_roundw
              case rel =>
                refine ⟨q + 1, m + 1, v1', ab', by omega, by go_num, HMN, HCLO.out.calm (q + 1) wc _ v1' HJ9.out ((Calm.set HE9.out hEN1 (.inr (.inr ⟨rfl, hEN⟩)) t _).trans (Calm.drew _)), (HX9.out.other ⟨E, t, none⟩ _ hXE).drew, (HB9.out.other ⟨E, t, none⟩ _ hNE).drew, ?_, ?_, ?_, (ho9.setCell (p := ⟨E, t, none⟩) (.inr (.inr hEN1)) _).drew⟩
                · exact World.ownsRow.drew (owns_same HO9.out fun g hg => Below.heap_setCell _ _ _ _ (fun e => HE9.out.not_own HO9.out (by decide) (by rw [hg, e])))
                · show Blk _ _ _ _
                  have hs := HE9.out.set t (.int .i64 ((m + 1 : Nat) : Int))
                  rw [nats_set, ← HEN.out] at hs
                  exact hs.drew
                · have hA := HA9.out
                  show AbAt _ _ _ _ _
                  cases hb : absUp xs l (q + 1) with
                  | none => rw [hb] at hA; exact hA
                  | some bs => rw [hb] at hA; obtain ⟨g, e, h1, h2⟩ := hA; exact ⟨g, e, h1, (h2.other ⟨E, t, none⟩ _ (h2.ne HE9.out (by decide))).drew⟩
              case measure => simp [intOf]; omega
          · have ho8 : Only (fun b => b = X ∨ N1 ≤ b) w w8 := ho7.trans (hO8.mono fun b hb hd => by
              rcases hd with h | h
              · exact .inl h
              · rcases Nat.lt_or_ge b N1 with h' | h'
                · exact absurd (.inl h') h
                · exact .inr h')
            clear hO8
            go_wp2_with fail
            go_ret
            exact ⟨ho8, .inr ⟨by simp, hbad⟩⟩
    · obtain rfl : q = n := by omega
      have qn : ¬ (q : Int) < (q : Int) := by omega
      have htk : l.take q = l := by rw [← HL.out, List.take_length]
      have hO' := HOq.out
      rw [htk, ← HOS.out] at hO'
      have hmo : m = os.length := by rw [HM.out, htk, HOS.out]
      subst hmo
      obtain ⟨⟨a1, cc1, hv1⟩, hys⟩ := HCLO.out.form wr v1 (by rw [HL.out]; exact HJq.out)
      subst hv1
      have hol : os.length ≤ q := by rw [HOS.out, iops_len]; have := accs_len l q; rw [htk] at this; exact this
      have hgetT : ∀ j, j < os.length → T.getD j 0 = (os.getD j default).t := fun j hj => by
        rw [HTT.out, List.getD_eq_getElem?_getD, List.getD_eq_getElem?_getD, List.getElem?_map, List.getElem?_eq_getElem hj]; simp
      have hgetI : ∀ j, j < os.length → I.getD j 0 = (os.getD j default).x := fun j hj => by
        rw [HII.out, List.getD_eq_getElem?_getD, List.getD_eq_getElem?_getD, List.getElem?_map, List.getElem?_eq_getElem hj]; simp
      have hosm : ∀ j, j < os.length → ∃ o, o ∈ accs l ∧ os.getD j default = iop xs ys o := fun j hj => by
        have h1 : os.getD j default ∈ os := by rw [List.getD_eq_getElem?_getD, List.getElem?_eq_getElem hj]; simp
        rw [HOS.out] at h1
        obtain ⟨o, ho, e⟩ := List.mem_map.1 h1
        rw [HOS.out]
        exact ⟨o, ho, e.symm⟩
      have hTn : ∀ j, j < os.length → T.getD j 0 < nt := fun j hj => by
        obtain ⟨o, ho, e⟩ := hosm j hj
        rw [hgetT j hj, e, ← HNT.out]
        exact List.idxOf_lt_length_iff.2 ((HTX.out.2 _).2 ⟨o, (List.mem_filter.1 ho).1, rfl⟩)
      have hIn : ∀ j, j < os.length → I.getD j 0 < ys.length := fun j hj => by
        obtain ⟨o, ho, e⟩ := hosm j hj
        rw [hgetI j hj, e]
        exact plc_lt (hys o ho)
      have b0 : wr.cell? ⟨N, 0, none⟩ = some (.pointer (some ⟨X, 0, none⟩)) := HBq.out.cell rfl
      have x0 : wr.cell? ⟨X, 0, none⟩ = some (.slice a0 nt ct) := HXq.out.cell rfl
      have x2 : wr.cell? ⟨X, 2, none⟩ = some (.slice (some ⟨G, 0, none⟩) os.length q) := HXq.out.cell rfl
      have hGr : Row wr.drew G (ioCells os) := row_owned hO'
      have lX := HXq.out.lt
      have lN := HBq.out.lt
      have hgt := gather50 nt n1 os.length N X G q os T wr.drew HN1.out bnt (by omega) rfl HTT.out hTn b0 x2 hGr lN lX
      have nXG : X ≠ G := fun e => HXq.out.not_own hO' (by decide) (by rw [e]; rfl)
      have nNX : N ≠ X := HBq.out.ne HXq.out (by decide)
      have HO' : Hid (wr.ownsRow N 79 4 (.slice (some ⟨G, 0, none⟩) os.length q) os.length (ioCells os)) := hO'
      have HTN : Hid (∀ j, j < os.length → T.getD j 0 < nt) := hTn
      have HIN : Hid (∀ j, j < os.length → I.getD j 0 < ys.length) := hIn
      clear hO' hTn hIn hosm hgetT hgetI hys hGr x2
      go_wp2_with fail
      go_region_held3 (fun w' => w'.cell? ⟨N, 0, none⟩ = some (.pointer (some ⟨X, 0, none⟩)) ∧ w'.cell? ⟨X, 0, none⟩ = some (.slice a0 nt ct))
        (first
          | go_keep
          | (go_split_ands
             refine ⟨?_, ?_⟩
             · first
               | exact b10
               | exact z10
             · first
               | exact x10
               | exact y10))
        ((go_at_call 50
          refine hgt.mono ?_
          rintro e w10 ⟨Sg, Lg, ml, rfl, hSg, hLg, hml, hRS, hRL, hB10⟩
          have HML : Hid (ml = start T nt) := hml
          clear hml
          have hX10 := HXq.out.drew.below hB10 lX
          have b10 : w10.cell? ⟨N, 0, none⟩ = some (.pointer (some ⟨X, 0, none⟩)) := (HBq.out.drew.below hB10 lN).cell rfl
          have x10 : w10.cell? ⟨X, 0, none⟩ = some (.slice a0 nt ct) := hX10.cell rfl
          have x103 : w10.cell? ⟨X, 3, none⟩ = some (.slice none 0 0) := hX10.cell rfl
          have x104 : w10.cell? ⟨X, 4, none⟩ = some (.slice none 0 0) := hX10.cell rfl
          have f103 := hX10.frozen 3
          have f104 := hX10.frozen 4
          have z10 : ((w10.setCell ⟨X, 3, none⟩ (.slice (some ⟨Sg, 0, none⟩) n1 n1)).setCell ⟨X, 4, none⟩ (.slice (some ⟨Lg, 0, none⟩) ml ml)).cell? ⟨N, 0, none⟩ = some (.pointer (some ⟨X, 0, none⟩)) := (((HBq.out.drew.below hB10 lN).other ⟨X, 3, none⟩ _ nNX).other ⟨X, 4, none⟩ _ nNX).cell rfl
          have y10 : ((w10.setCell ⟨X, 3, none⟩ (.slice (some ⟨Sg, 0, none⟩) n1 n1)).setCell ⟨X, 4, none⟩ (.slice (some ⟨Lg, 0, none⟩) ml ml)).cell? ⟨X, 0, none⟩ = some (.slice a0 nt ct) := ((hX10.set 3 _).set 4 _).cell rfl))
      have hsd : wr.drew.heap.size = wr.heap.size := rfl
      rw [hsd] at hB10 hSg hLg
      have hX11 := (hX10.set 3 (.slice (some ⟨Sg, 0, none⟩) n1 n1)).set 4 (.slice (some ⟨Lg, 0, none⟩) ml ml)
      have hB11 := ((HBq.out.drew.below hB10 lN).other ⟨X, 3, none⟩ (.slice (some ⟨Sg, 0, none⟩) n1 n1) nNX).other ⟨X, 4, none⟩ (.slice (some ⟨Lg, 0, none⟩) ml ml) nNX
      have hE10 := HEq.out.drew.below hB10 HEq.out.lt
      have nEX : E ≠ X := hE10.ne hX10 (by decide)
      have hE11 := (hE10.other ⟨X, 3, none⟩ (.slice (some ⟨Sg, 0, none⟩) n1 n1) nEX).other ⟨X, 4, none⟩ (.slice (some ⟨Lg, 0, none⟩) ml ml) nEX
      have hO10 := owns_below (B := 0) (World.ownsRow.drew HO'.out) hB10
      have hO11 : ((w10.setCell ⟨X, 3, none⟩ (.slice (some ⟨Sg, 0, none⟩) n1 n1)).setCell ⟨X, 4, none⟩ (.slice (some ⟨Lg, 0, none⟩) ml ml)).ownsRow N 79 4 (.slice (some ⟨G, 0, none⟩) os.length q) os.length (ioCells os) := owns_same (owns_same hO10 fun g hg => Below.heap_setCell _ _ _ _ (fun e => hX10.not_own hO10 (by decide) (by rw [hg, e]))) fun g hg => Below.heap_setCell _ _ _ _ (fun e => hX10.not_own hO10 (by decide) (by rw [hg, e]))
      have nSX : Sg ≠ X := by omega
      have nLX : Lg ≠ X := by omega
      have hRS11 := (hRS.other ⟨X, 3, none⟩ (.slice (some ⟨Sg, 0, none⟩) n1 n1) nSX).other ⟨X, 4, none⟩ (.slice (some ⟨Lg, 0, none⟩) ml ml) nSX
      have hRL11 := (hRL.other ⟨X, 3, none⟩ (.slice (some ⟨Sg, 0, none⟩) n1 n1) nLX).other ⟨X, 4, none⟩ (.slice (some ⟨Lg, 0, none⟩) ml ml) nLX
      have hc11 : Calm X N1 N wr ((w10.setCell ⟨X, 3, none⟩ (.slice (some ⟨Sg, 0, none⟩) n1 n1)).setCell ⟨X, 4, none⟩ (.slice (some ⟨Lg, 0, none⟩) ml ml)) := (((Calm.drew wr).trans (Calm.below (by rw [hsd]; exact hB10))).trans (Calm.setX _ _ _)).trans (Calm.setX _ _ _)
      have ho11 := ((hoq.drew.below (by rw [hsd]; exact hB10)).setCell (p := ⟨X, 3, none⟩) (.inr (.inl rfl)) (.slice (some ⟨Sg, 0, none⟩) n1 n1)).setCell (p := ⟨X, 4, none⟩) (.inr (.inl rfl)) (.slice (some ⟨Lg, 0, none⟩) ml ml)
      have hA11 : AbAt ((w10.setCell ⟨X, 3, none⟩ (.slice (some ⟨Sg, 0, none⟩) n1 n1)).setCell ⟨X, 4, none⟩ (.slice (some ⟨Lg, 0, none⟩) ml ml)) nt N1 ab (absUp xs l q) := by
        have hA := HAq.out
        cases hb : absUp xs l q with
        | none => rw [hb] at hA; exact hA
        | some bs =>
          rw [hb] at hA
          obtain ⟨g, e, h1, h2⟩ := hA
          have h10 := h2.drew.below hB10 h2.lt
          exact ⟨g, e, h1, (h10.other ⟨X, 3, none⟩ _ (h10.ne hX10 (by decide))).other ⟨X, 4, none⟩ _ (h10.ne hX10 (by decide))⟩
      have b11 : ((w10.setCell ⟨X, 3, none⟩ (.slice (some ⟨Sg, 0, none⟩) n1 n1)).setCell ⟨X, 4, none⟩ (.slice (some ⟨Lg, 0, none⟩) ml ml)).cell? ⟨N, 0, none⟩ = some (.pointer (some ⟨X, 0, none⟩)) := hB11.cell rfl
      have hlG : G < wr.heap.size := (row_owned HO'.out).lt
      obtain ⟨W11, hW11⟩ : ∃ W11, ((w10.setCell ⟨X, 3, none⟩ (.slice (some ⟨Sg, 0, none⟩) n1 n1)).setCell ⟨X, 4, none⟩ (.slice (some ⟨Lg, 0, none⟩) ml ml)) = W11 := ⟨_, rfl⟩
      rw [hW11] at hX11 hB11 hE11 hO11 hRS11 hRL11 hc11 ho11 hA11 b11 ⊢
      have hpr := pairs52 X G Sg Lg nt n1 os.length ys.length ml q n1 ml ct cc1 a0 a1 (.slice none 0 0) (.slice (some ⟨E, 0, none⟩) nt nt) ab t9 t10 t11 os T I W11 HTT.out HII.out HN1.out rfl (by omega) bnt bys HML.out (Nat.le_refl _) (by rw [HML.out]; have := start_le T nt; rw [HTT.out, List.length_map] at this; rw [← HTT.out] at this; omega) HIN.out HTN.out hX11 (row_owned hO11) hRS11 hRL11 nXG nSX (by omega) nLX (by omega)
      have HE11 : Hid (Blk W11 E 3 (nats (endsUp xs l q))) := hE11
      have HO11 : Hid (W11.ownsRow N 79 4 (.slice (some ⟨G, 0, none⟩) os.length q) os.length (ioCells os)) := hO11
      have HRS11 : Hid (Row W11 Sg (nats (starts T nt))) := hRS11
      have HRL11 : Hid (Row W11 Lg (nats (flat (pos T) nt))) := hRL11
      have HA11 : Hid (AbAt W11 nt N1 ab (absUp xs l q)) := hA11
      have HJ11 : Hid (J q W11 (.slice a1 ys.length cc1)) := HCLO.out.calm q wr W11 _ HJq.out hc11
      have HX11 : Hid (Blk W11 X 75 (ixCells (.slice a0 nt ct) (.slice a1 ys.length cc1) (.slice (some ⟨G, 0, none⟩) os.length q) (.slice (some ⟨Sg, 0, none⟩) n1 n1) (.slice (some ⟨Lg, 0, none⟩) ml ml) (.int .i64 0) (.slice none 0 0) (.slice (some ⟨E, 0, none⟩) nt nt) ab t9 t10 t11)) := hX11
      clear hE11 hO11 hRS11 hRL11 hA11 hX11 hB11 hW11 hE10 hO10 hRS hRL hX10 b10 x10 x103 x104 f103 f104 y10 z10 hc11 hB10 hgt b0 x0
      go_wp2_with fail
      refine hpr.mono ?_
      clear hpr
      rintro e w12 ⟨rfl, Pg, hPg, hX12, hRP, hRG, hO12⟩
      go_wp2_with fail
      go_ret
      have nEG : E ≠ G := fun e => HE11.out.not_own HO11.out (by decide) (by rw [e]; rfl)
      refine ⟨ho11.trans (hO12.mono fun b hb hd => ?_), .inl ⟨by simp, .slice a1 ys.length cc1, G, q, Sg, Lg, ml, Pg, E, ab, ?_, hX12, hRG, HML.out, HRS11.out.only hO12 (by omega), HRL11.out.only hO12 (by omega), hRP, (HE11.out.only hO12 (by omega)).row, ?_⟩⟩
      · rcases hd with h | h
        · exact .inl h
        · right; have := (HO11.out.lt G rfl).1; omega
      · refine HCLO.out.calm q W11 w12 _ HJ11.out (Calm.of_only hO12 fun b hb hd => ?_)
        rcases hd with h | h
        · exact .inl h
        · right
          subst h
          rcases HO11.out.2 with ⟨h, _⟩ | ⟨g', cap', cur, hv, hbg, hgg, _⟩
          · cases h
          · simp only [Value.slice.injEq, Option.some.injEq, Addr.mk.injEq] at hv
            obtain ⟨⟨rfl, _⟩, _, rfl⟩ := hv
            exact ⟨by omega, _, _, _, hgg, .inl rfl⟩
      · have hA := HA11.out
        cases hb : absUp xs l q with
        | none => rw [hb] at hA; exact hA
        | some bs =>
          rw [hb] at hA
          obtain ⟨g, e, h1, h2⟩ := hA
          refine ⟨g, e, h1, h2.only hO12 ?_⟩
          have n1 : g ≠ X := h2.ne HX11.out (by decide)
          have n2 : g ≠ G := fun e => h2.not_own HO11.out (by decide) (by rw [e]; rfl)
          omega
end Go.Proofs.Ybulkebqk
