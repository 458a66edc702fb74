/-
  The contract of (*forcedOrder).unite.
-/
import Derived.Test.YbulkebqkStep
namespace Go.Proofs.Ybulkebqk
open Go.RowKit
set_option linter.unusedVariables false

/-- The low words behind unite. -/
def lowOf (lw : List Int) (fv : Int) (u lo : Nat) : List Int := if 0 ≤ fv ∧ (lo : Int) + fv < lw.getD u 0 then lw.set u ((lo : Int) + fv) else lw

/-- The blocks that unite may write. -/
def Wr (H0 F G1 G2 G3 G4 B H : Nat) (c : Option Nat) (k : Nat) : Prop := k = F ∨ k = G1 ∨ k = G2 ∨ k = G3 ∨ k = G4 ∨ some k = c ∨ (B ≤ k ∧ k < H) ∨ H0 ≤ k

/-- What unite leaves. -/
structure United (H0 base F G1 G2 G3 G4 N m B H : Nat) (c : Option Nat) (words u lo p nf qb : Nat) (tr : Bool) (ts : Int) (rs ls lw : List Int) (st : List Bool) (f : Nat → Int) (nc : Nat) (cs : List Value) (v : Value) (w w' : World) : Prop where
  ob : Ob H0 base F G1 G2 N c words (.slice (some ⟨G3, 0, none⟩) m m) (.slice (some ⟨G4, 0, none⟩) m m) qb tr ts (R rs f p nf) (Lg rs ls f p tr ts nf) (nc + nC rs ls f p tr ts nf) (cs ++ Cg rs ls f p tr ts nf) w'
  low : Row w' G3 (ints .i32 (lowOf lw (fs f nf) u lo))
  stale : Row w' G4 (bools (if gw rs f p nf then st.set u true else st))
  queue : QAt w' B H v (if gw rs f p nf then st.set u true else st) m
  kept : KB (Wr H0 F G1 G2 G3 G4 B H c) w w'

theorem Frame.kb {H0 F G1 G2 G3 G4 B H : Nat} {c : Option Nat} {w w' : World} (h : Frame H0 F G1 G2 c w w') : KB (Wr H0 F G1 G2 G3 G4 B H c) w w' :=
  ⟨h.os, h.tape, h.output, h.size, fun k _ hk => by
    simp only [Wr, not_or] at hk
    exact h.block k (by omega) hk.1 hk.2.1 hk.2.2.1 hk.2.2.2.2.2.1⟩

theorem Ob.other {H0 base F G1 G2 N : Nat} {c : Option Nat} {wd : Int} {vl vs : Value} {qb : Nat} {tr : Bool} {ts : Int} {rs ls : List Int} {nc : Nat} {cs : List Value} {w w' : World} (h : Ob H0 base F G1 G2 N c wd vl vs qb tr ts rs ls nc cs w)
    (hs : w.heap.size ≤ w'.heap.size) (e : ∀ k, (k = F ∨ k = G1 ∨ k = G2 ∨ some k = c ∨ H0 ≤ k) → k < w.heap.size → w'.heap[k]? = w.heap[k]?) : Ob H0 base F G1 G2 N c wd vl vs qb tr ts rs ls nc cs w' := by
  obtain ⟨big, rl, ll, re, lo, vc, hF, ho, hw⟩ := h
  refine ⟨Nat.le_trans big hs, rl, ll, re.same (e _ (by simp) re.lt), lo.same (e _ (by simp) lo.lt), vc, hF.same (e _ (by simp) hF.lt), owns_same ho (fun g hg => e g ?_ (ho.lt g hg).2), hw⟩
  rcases hw with hw | ⟨k, hk, hk'⟩
  · rw [hg] at hw; simp [hw]
  · rw [hk] at hg; cases hg; simp [hk']

theorem ob_start {H0 base F G1 G2 N : Nat} {c : Option Nat} {wd : Int} {vl vs : Value} {qb : Nat} {tr : Bool} {ts : Int} {rs ls : List Int} {nc : Nat} {cs : List Value} {w : World} {f : Nat → Int} {p : Nat} (h : Ob H0 base F G1 G2 N c wd vl vs qb tr ts rs ls nc cs w) : Ob H0 base F G1 G2 N c wd vl vs qb tr ts (R rs f p 0) (Lg rs ls f p tr ts 0) (nc + nC rs ls f p tr ts 0) (cs ++ Cg rs ls f p tr ts 0) w := by
  simpa [R, Lg, nC, Cg] using h

theorem bools_set (bs : List Bool) (i : Nat) (b : Bool) : (bools bs).set i (.bool b) = bools (bs.set i b) := by simp [bools, List.map_set]
theorem set_same {α : Type} (l : List α) (i : Nat) (x : α) (h : l[i]? = some x) : l.set i x = l := by
  apply List.ext_getElem?
  intro j
  by_cases hj : i = j
  · subst hj; rw [List.getElem?_set_self (by rcases Nat.lt_or_ge i l.length with h' | h'; exact h'; rw [List.getElem?_eq_none h'] at h; cases h), h]
  · rw [List.getElem?_set_ne hj]

/-- Where all lies, once for all. -/
structure Places (H0 base F G1 G2 G3 G4 B H qb : Nat) (c : Option Nat) : Prop where
  A : Apart H0 base F G1 G2 c
  l3 : G3 < H0
  l4 : G4 < H0
  lq : qb < H0
  lH : H ≤ H0
  n3 : G3 ≠ F ∧ G3 ≠ G1 ∧ G3 ≠ G2 ∧ some G3 ≠ c
  n4 : G4 ≠ F ∧ G4 ≠ G1 ∧ G4 ≠ G2 ∧ some G4 ≠ c ∧ G4 ≠ G3
  nq : qb ≠ F ∧ qb ≠ G1 ∧ qb ≠ G2 ∧ some qb ≠ c ∧ qb ≠ G3 ∧ qb ≠ G4 ∧ ¬ (B ≤ qb ∧ qb < H)
  q : ∀ k, B ≤ k → k < H → k ≠ F ∧ k ≠ G1 ∧ k ≠ G2 ∧ some k ≠ c ∧ k ≠ G3 ∧ k ≠ G4

/-- The last call of unite: grown, whatever the row did. -/
theorem grown_any {H0 base F G1 G2 G3 G4 N m B H : Nat} {c : Option Nat} {words u lo p nf qb : Nat} {tr : Bool} {ts : Int} {rs ls lw : List Int} {st : List Bool} {f : Nat → Int} {nc : Nat} {cs : List Value} {v : Value} {w W : World} (P : Places H0 base F G1 G2 G3 G4 B H qb c)
    (ho : Ob H0 base F G1 G2 N c words (.slice (some ⟨G3, 0, none⟩) m m) (.slice (some ⟨G4, 0, none⟩) m m) qb tr ts (R rs f p nf) (Lg rs ls f p tr ts nf) (nc + nC rs ls f p tr ts nf) (cs ++ Cg rs ls f p tr ts nf) W)
    (hlow : Row W G3 (ints .i32 (lowOf lw (fs f nf) u lo))) (hst : Row W G4 (bools st)) (hq : QAt W B H v st m) (hqb : W.cell? ⟨qb, 0, none⟩ = some v) (hk : KB (Wr H0 F G1 G2 G3 G4 B H c) w W) (hm : (m : Int) ≤ 1000) (hu : u < m) (hsl : st.length = m) (g : Bool) (hg : g = gw rs f p nf) :
    Calls Yba.prog 35 #[.pointer (some ⟨F, 0, none⟩), .int .i64 u, .bool g] W fun e w' => e = .returned (.tuple #[]) ∧ United H0 base F G1 G2 G3 G4 N m B H c words u lo p nf qb tr ts rs ls lw st f nc cs v w w' := by
  obtain ⟨vc, hF, _⟩ := ho.obj
  have hb := hst.cell (bools_at st u (by omega))
  cases hgb : (g && !(st.getD u false)) with
  | false =>
    refine (grown_no F G4 m u g _ words _ _ vc _ qb tr ts W hm (by omega) hF hb hgb).mono ?_
    rintro e w' ⟨rfl, rfl⟩
    have hsame : (if gw rs f p nf then st.set u true else st) = st := by
      rw [← hg]
      cases g with
      | false => rfl
      | true =>
        have h1 : st.getD u false = true := by simpa using hgb
        rw [if_pos rfl]
        apply set_same
        rw [List.getElem?_eq_getElem (by omega)]
        rw [List.getD_eq_getElem?_getD, List.getElem?_eq_getElem (by omega)] at h1
        simpa using h1
    exact ⟨rfl, ho, hlow, by rw [hsame]; exact hst, by rw [hsame]; exact hq, hk⟩
  | true =>
    rw [Bool.and_eq_true] at hgb
    obtain ⟨rfl, h1⟩ := hgb
    have h1' : st.getD u false = false := by simpa using h1
    rw [h1'] at hb
    have r4 := hst.set u (.bool true)
    rw [bools_set] at r4
    have hq2 : QAt (W.setCell ⟨G4, u, none⟩ (.bool true)) B H v st m := hq.same (fun k h1 h2 => Below.heap_setCell _ _ _ _ (P.q k h1 h2).2.2.2.2.2)
    have hpush := push_q hq2 qb u ((World.cell?_of_block (Below.heap_setCell _ _ _ _ P.nq.2.2.2.2.2.1)).trans hqb) hu hsl h1'
    refine (grown_yes F G4 m u words _ _ vc _ qb tr ts W (fun w' => United H0 base F G1 G2 G3 G4 N m B H c words u lo p nf qb tr ts rs ls lw st f nc cs v w w') hm (by omega) hF hb (hst.frozen u) P.n4.1 (hpush.mono ?_))
    rintro e w' ⟨rfl, hq3, hkb⟩
    have hno : ∀ k, (k = F ∨ k = G1 ∨ k = G2 ∨ some k = c ∨ H0 ≤ k) → ¬ (B ≤ k ∧ k < H) ∧ k ≠ G4 := by
      intro k hk
      have hqk := P.q k
      have h4 := P.n4
      have l4 := P.l4
      have lH := P.lH
      refine ⟨fun hh => ?_, ?_⟩
      · have := hqk hh.1 hh.2
        rcases hk with h | h | h | h | h
        · exact this.1 h
        · exact this.2.1 h
        · exact this.2.2.1 h
        · exact this.2.2.2.1 h
        · omega
      · rcases hk with h | h | h | h | h
        · exact fun e => h4.1 (e ▸ h)
        · exact fun e => h4.2.1 (e ▸ h)
        · exact fun e => h4.2.2.1 (e ▸ h)
        · exact fun e => h4.2.2.2.1 (e ▸ h)
        · omega
    refine ⟨rfl, ho.other (by have := hkb.size; simpa using this) (fun k hk hlt => ?_), ?_, ?_, ?_, ?_⟩
    · exact (hkb.block k (by simpa using hlt) (hno k hk).1).trans (Below.heap_setCell _ _ _ _ (hno k hk).2)
    · exact hkb.row (hlow.other _ _ (fun h => P.n4.2.2.2.2 h.symm)) (fun h => (P.q _ h.1 h.2).2.2.2.2.1 rfl)
    · rw [← hg, if_pos rfl]
      exact hkb.row r4 (fun h => (P.q _ h.1 h.2).2.2.2.2.2 rfl)
    · rw [← hg, if_pos rfl]; exact hq3
    · exact (hk.setCell _ _ (by simp [Wr])).trans (hkb.mono (fun k hk => by simp [Wr, hk]))

/-- The same behind the store into low. -/
theorem grown_low {H0 base F G1 G2 G3 G4 N m B H : Nat} {c : Option Nat} {words u lo p nf qb : Nat} {tr : Bool} {ts : Int} {rs ls lw : List Int} {st : List Bool} {f : Nat → Int} {nc : Nat} {cs : List Value} {v : Value} {w W : World} (P : Places H0 base F G1 G2 G3 G4 B H qb c)
    (ho : Ob H0 base F G1 G2 N c words (.slice (some ⟨G3, 0, none⟩) m m) (.slice (some ⟨G4, 0, none⟩) m m) qb tr ts (R rs f p nf) (Lg rs ls f p tr ts nf) (nc + nC rs ls f p tr ts nf) (cs ++ Cg rs ls f p tr ts nf) W)
    (hlow : Row W G3 (ints .i32 lw)) (hst : Row W G4 (bools st)) (hq : QAt W B H v st m) (hqb : W.cell? ⟨qb, 0, none⟩ = some v) (hk : KB (Wr H0 F G1 G2 G3 G4 B H c) w W) (hm : (m : Int) ≤ 1000) (hu : u < m) (hsl : st.length = m) (g : Bool) (hg : g = gw rs f p nf) (z : Int) (hz : lowOf lw (fs f nf) u lo = lw.set u z) :
    Calls Yba.prog 35 #[.pointer (some ⟨F, 0, none⟩), .int .i64 u, .bool g] (W.setCell ⟨G3, u, none⟩ (.int .i32 z)).drew fun e w' => e = .returned (.tuple #[]) ∧ United H0 base F G1 G2 G3 G4 N m B H c words u lo p nf qb tr ts rs ls lw st f nc cs v w w' := by
  have hr := hlow.set u (.int .i32 z)
  rw [ints_set, ← hz] at hr
  have hno : ∀ k, (k = F ∨ k = G1 ∨ k = G2 ∨ some k = c ∨ H0 ≤ k) → k ≠ G3 := by
    intro k hk
    have h3 := P.n3
    have l3 := P.l3
    rcases hk with h | h | h | h | h
    · exact fun e => h3.1 (e ▸ h)
    · exact fun e => h3.2.1 (e ▸ h)
    · exact fun e => h3.2.2.1 (e ▸ h)
    · exact fun e => h3.2.2.2 (e ▸ h)
    · omega
  refine grown_any (W := (W.setCell ⟨G3, u, none⟩ (.int .i32 z)).drew) P (ho.other (by simp) (fun k hk _ => Below.heap_setCell _ _ _ _ (hno k hk))) hr (hst.other ⟨G3, u, none⟩ _ P.n4.2.2.2.2) (hq.same (fun k h1 h2 => Below.heap_setCell _ _ _ _ (P.q k h1 h2).2.2.2.2.1)) ?_ ((hk.setCell ⟨G3, u, none⟩ (.int .i32 z) (by simp [Wr])).drewN 1) hm hu hsl g hg
  exact (World.cell?_of_block (Below.heap_setCell _ _ _ _ P.nq.2.2.2.2.1)).trans hqb

set_option maxHeartbeats 4000000 in
set_option maxRecDepth 10000 in
theorem unite_some (H0 base F G1 G2 G3 G4 N m B H : Nat) (c : Option Nat) (words u lo p nf qb : Nat) (bf of cf : Nat) (tr : Bool) (ts : Int) (rs ls lw : List Int) (st : List Bool) (f : Nat → Int) (nc : Nat) (cs : List Value) (v : Value) (w : World)
    (P : Places H0 base F G1 G2 G3 G4 B H qb c) (h : Ob H0 base F G1 G2 N c words (.slice (some ⟨G3, 0, none⟩) m m) (.slice (some ⟨G4, 0, none⟩) m m) qb tr ts rs ls nc cs w) (hlow : Row w G3 (ints .i32 lw)) (hst : Row w G4 (bools st)) (hq : QAt w B H v st m) (hqb : w.cell? ⟨qb, 0, none⟩ = some v)
    (hN : (N : Int) ≤ 1000000) (hrs : rs.length = N) (hlw : lw.length = m) (hsl : st.length = m) (hm : (m : Int) ≤ 1000) (hu : u < m)
    (hp : (u : Int) * (words : Int) + (lo : Int) = (p : Int)) (hu0 : (0 : Int) ≤ (u : Int) * (words : Int)) (hu1 : (u : Int) * (words : Int) ≤ 1000000) (hpn : p + nf ≤ N) (hlo : (lo : Int) ≤ 1000000) (hnf : (nf : Int) ≤ 4096) (hnc : nc + nf ≤ 100000)
    (hr : ∀ i, W64 (rs.getD i 0)) (hf : ∀ i, i < nf → W64 (f i)) (hc : ∀ i, i < nf → w.cell? ⟨bf, of + i, none⟩ = some (.int .u64 (f i))) (hb : bf < H0) (hbF : bf ≠ F) (hb1 : bf ≠ G1) (hb2 : bf ≠ G2) (hbc : some bf ≠ c) :
    Calls Yba.prog 10 #[.pointer (some ⟨F, 0, none⟩), .int .i64 u, .slice (some ⟨bf, of, none⟩) nf cf, .int .i64 lo] w fun e w' => e = .returned (.tuple #[]) ∧ United H0 base F G1 G2 G3 G4 N m B H c words u lo p nf qb tr ts rs ls lw st f nc cs v w w' := by
  obtain ⟨vc0, hF0, _⟩ := h.obj
  have c13 := hF0.c13
  have HOb0 : Hid (Ob H0 base F G1 G2 N c words (.slice (some ⟨G3, 0, none⟩) m m) (.slice (some ⟨G4, 0, none⟩) m m) qb tr ts rs ls nc cs w) := h
  have HLow : Hid (Row w G3 (ints .i32 lw)) := hlow
  have HSt : Hid (Row w G4 (bools st)) := hst
  have HQ : Hid (QAt w B H v st m) := hq
  have HQb : Hid (w.cell? ⟨qb, 0, none⟩ = some v) := hqb
  clear hF0 h hlow hst hq hqb
  go_enter Yba.func10, Yba.ntmps10
  go_wp2
  go_loopw [9, 10, 23] (fun b t k wr => ∃ (i : Nat) (gB : Bool) (fV : Int), i ≤ nf ∧ k = .int .i64 i ∧ b = .bool gB ∧ t = .int .i64 fV ∧ Hid (gB = gw rs f p i) ∧ Hid (fV = fs f i) ∧ Hid (Ob H0 base F G1 G2 N c words (.slice (some ⟨G3, 0, none⟩) m m) (.slice (some ⟨G4, 0, none⟩) m m) qb tr ts (R rs f p i) (Lg rs ls f p tr ts i) (nc + nC rs ls f p tr ts i) (cs ++ Cg rs ls f p tr ts i) wr) ∧ Hid (Frame H0 F G1 G2 c w wr))
    (fun _ _ k _ => nf - (intOf k).toNat)
  case atStart => exact ⟨0, false, -1, Nat.zero_le _, rfl, rfl, rfl, rfl, rfl, ob_start HOb0.out, Frame.refl _ _ _ _ _ _⟩
  case round =>
    clear c13 hp hu0 hu1 HOb0
    obtain ⟨i, gB, fV, hi, rfl, rfl, rfl, HgB, HfV, HOb, HFr⟩ := hrel
    have hbd := fs_bd (f := f) i
    rw [← HfV.out] at hbd
    obtain ⟨hb1', hb2'⟩ := hbd
    by_cases hlt : i < nf
    · have hcx : wr.cell? ⟨bf, of + i, none⟩ = some (.int .u64 (f i)) := (World.cell?_of_block (HFr.out.block bf hb hbF hb1 hb2 hbc)).trans (hc i hlt)
      have hstep := or_step P.A HOb.out hN (by omega) hrs (hr _) (hf i hlt) (by omega)
      have HS : Hid _ := hstep
      obtain ⟨x, hx⟩ : ∃ x, x = f i := ⟨_, rfl⟩
      have HX : Hid (x = f i) := hx
      rw [← hx] at hcx
      obtain ⟨nb, hnb⟩ : ∃ nb, nb = newB rs f p i := ⟨_, rfl⟩
      have HNB : Hid (nb = newB rs f p i) := hnb
      have hcall : Calls Yba.prog 34 #[.pointer (some ⟨F, 0, none⟩), .int .i64 ((p : Int) + (i : Int)), .int .u64 x] wr fun e w' => e = .returned (.bool nb) ∧
          Ob H0 base F G1 G2 N c words (.slice (some ⟨G3, 0, none⟩) m m) (.slice (some ⟨G4, 0, none⟩) m m) qb tr ts (R rs f p (i + 1)) (Lg rs ls f p tr ts (i + 1)) (nc + nC rs ls f p tr ts (i + 1)) (cs ++ Cg rs ls f p tr ts (i + 1)) w' ∧ Frame H0 F G1 G2 c wr w' := by
        rw [hx, hnb]
        have e : ((p + i : Nat) : Int) = (p : Int) + (i : Int) := by omega
        rw [← e]; exact hstep
      have HCall : Hid _ := hcall
      clear hstep HS hx hnb hcall
      have hfs : ∀ (b1 b2 : Bool), (x != 0) = b1 → decide (fV < 0) = b2 → fs f (i + 1) = if b1 && b2 then (i : Int) else fV := by
        intro b1 b2 h1 h2
        rw [fs, ← HX.out, ← HfV.out, h1, h2]
      have HFS : Hid _ := hfs
      have hgw : ∀ (b : Bool), nb = b → gw rs f p (i + 1) = (b || gB) := by
        intro b hb
        rw [gw, ← HNB.out, ← HgB.out, hb]
      have HGW : Hid _ := hgw
      clear hfs hgw
      cases hx0 : (x != 0) <;> cases hf0 : decide (fV < 0) <;> cases hnbv : nb
      all_goals
        have HK : Hid _ := HFS.out _ _ hx0 hf0
        have HK2 : Hid _ := HGW.out _ hnbv
        have HC := HCall.out
        rw [hnbv] at HC
        have HC2 : Hid _ := HC
        clear HFS HGW HC HCall
        go_wp2_with fail
        refine Calls.mono HC2.out ?_
        rintro e w' ⟨rfl, hOb', hFr'⟩
        have HOb' : Hid _ := hOb'
        have HFr' : Hid _ := Frame.trans HFr.out hFr'
        clear hOb' hFr'
        go_wp2_with fail
        go_roundw
        case rel => exact ⟨i + 1, _, _, by omega, by go_num, rfl, rfl, HK2.out.symm, HK.out.symm, HOb'.out, HFr'.out⟩
        case measure => simp [intOf]; omega
    · obtain rfl : i = nf := by omega
      obtain ⟨vc, hF, _⟩ := HOb.out.obj
      have hlow1 : Row wr G3 (ints .i32 lw) := HLow.out.same (HFr.out.block G3 P.l3 P.n3.1 P.n3.2.1 P.n3.2.2.1 P.n3.2.2.2)
      have hst1 : Row wr G4 (bools st) := HSt.out.same (HFr.out.block G4 P.l4 P.n4.1 P.n4.2.1 P.n4.2.2.1 P.n4.2.2.2.1)
      have hq1 : QAt wr B H v st m := HQ.out.same (fun k h1 h2 => by have := P.q k h1 h2; exact HFr.out.block k (Nat.lt_of_lt_of_le h2 P.lH) this.1 this.2.1 this.2.2.1 this.2.2.2.1)
      have hqb1 : wr.cell? ⟨qb, 0, none⟩ = some v := (World.cell?_of_block (HFr.out.block qb P.lq P.nq.1 P.nq.2.1 P.nq.2.2.1 P.nq.2.2.2.1)).trans HQb.out
      have hkb1 : KB (Wr H0 F G1 G2 G3 G4 B H c) w wr := HFr.out.kb
      have c15 := hF.c15
      have hl := hlow1.cell (ints_at .i32 lw u (by omega))
      have hfl := hlow1.frozen u
      have HLow1 : Hid (Row wr G3 (ints .i32 lw)) := hlow1
      have HSt1 : Hid (Row wr G4 (bools st)) := hst1
      have HQ1 : Hid (QAt wr B H v st m) := hq1
      have HQb1 : Hid (wr.cell? ⟨qb, 0, none⟩ = some v) := hqb1
      have HKb : Hid (KB (Wr H0 F G1 G2 G3 G4 B H c) w wr) := hkb1
      obtain ⟨y, hy⟩ : ∃ y, y = lw.getD u 0 := ⟨_, rfl⟩
      have HY : Hid (y = lw.getD u 0) := hy
      rw [← hy] at hl
      clear hF hlow1 hst1 hq1 hqb1 hkb1 hy
      have huI : (u : Int) < (m : Int) := by omega
      by_cases hneg : fV < 0
      · have hlo' : lowOf lw (fs f i) u lo = lw := by rw [lowOf, if_neg (by rw [← HfV.out]; omega)]
        have hga := grown_any (lo := lo) (lw := lw) P HOb.out (by rw [hlo']; exact HLow1.out) HSt1.out HQ1.out HQb1.out HKb.out hm hu hsl gB HgB.out
        have HGA : Hid _ := hga
        clear hga hlo'
        go_wp2_with fail
        refine Calls.mono HGA.out ?_
        rintro e w' ⟨rfl, hU⟩
        have HU : Hid _ := hU
        clear hU
        go_wp2_with fail
        go_end0
        exact ⟨rfl, HU.out⟩
      · by_cases hless : (lo : Int) + fV < y
        · have hlo' : lowOf lw (fs f i) u lo = lw.set u ((lo : Int) + fV) := by rw [lowOf, ← HfV.out, ← HY.out, if_pos ⟨by omega, hless⟩]
          have hga := grown_low (lo := lo) (lw := lw) P HOb.out HLow1.out HSt1.out HQ1.out HQb1.out HKb.out hm hu hsl gB HgB.out _ hlo'
          have HGA : Hid _ := hga
          clear hga hlo'
          go_wp2_with fail
          go_region
          go_wp2_with fail
          refine Calls.mono HGA.out ?_
          rintro e w' ⟨rfl, hU⟩
          have HU : Hid _ := hU
          clear hU
          go_wp2_with fail
          go_end0
          exact ⟨rfl, HU.out⟩
        · have hlo' : lowOf lw (fs f i) u lo = lw.set u y := by
            rw [lowOf, ← HfV.out, ← HY.out, if_neg (by omega), HY.out]
            rw [set_same lw u _ (by rw [List.getD_eq_getElem?_getD, List.getElem?_eq_getElem (by omega)]; rfl)]
          have hga := grown_low (lo := lo) (lw := lw) P HOb.out HLow1.out HSt1.out HQ1.out HQb1.out HKb.out hm hu hsl gB HgB.out _ hlo'
          have HGA : Hid _ := hga
          clear hga hlo'
          go_wp2_with fail
          go_region
          go_wp2_with fail
          refine Calls.mono HGA.out ?_
          rintro e w' ⟨rfl, hU⟩
          have HU : Hid _ := hU
          clear hU
          go_wp2_with fail
          go_end0
          exact ⟨rfl, HU.out⟩

set_option maxHeartbeats 4000000 in
set_option maxRecDepth 10000 in
theorem unite_nil (H0 base F G1 G2 G3 G4 N m B H : Nat) (c : Option Nat) (words u lo p nf qb : Nat) (a : Option Addr) (cf : Nat) (tr : Bool) (ts : Int) (rs ls lw : List Int) (st : List Bool) (f : Nat → Int) (nc : Nat) (cs : List Value) (v : Value) (w : World)
    (P : Places H0 base F G1 G2 G3 G4 B H qb c) (h : Ob H0 base F G1 G2 N c words (.slice (some ⟨G3, 0, none⟩) m m) (.slice (some ⟨G4, 0, none⟩) m m) qb tr ts rs ls nc cs w) (hlow : Row w G3 (ints .i32 lw)) (hst : Row w G4 (bools st)) (hq : QAt w B H v st m) (hqb : w.cell? ⟨qb, 0, none⟩ = some v)
    (hN : (N : Int) ≤ 1000000) (hrs : rs.length = N) (hlw : lw.length = m) (hsl : st.length = m) (hm : (m : Int) ≤ 1000) (hu : u < m)
    (hp : (u : Int) * (words : Int) + (lo : Int) = (p : Int)) (hu0 : (0 : Int) ≤ (u : Int) * (words : Int)) (hu1 : (u : Int) * (words : Int) ≤ 1000000) (hpn : p + nf ≤ N) (hlo : (lo : Int) ≤ 1000000) (hnf : (nf : Int) ≤ 4096) (hnc : nc + nf ≤ 100000)
    (hr : ∀ i, W64 (rs.getD i 0)) (hf : ∀ i, i < nf → W64 (f i)) (hz : nf = 0) :
    Calls Yba.prog 10 #[.pointer (some ⟨F, 0, none⟩), .int .i64 u, .slice a nf cf, .int .i64 lo] w fun e w' => e = .returned (.tuple #[]) ∧ United H0 base F G1 G2 G3 G4 N m B H c words u lo p nf qb tr ts rs ls lw st f nc cs v w w' := by
  obtain ⟨vc0, hF0, _⟩ := h.obj
  have c13 := hF0.c13
  have HOb0 : Hid (Ob H0 base F G1 G2 N c words (.slice (some ⟨G3, 0, none⟩) m m) (.slice (some ⟨G4, 0, none⟩) m m) qb tr ts rs ls nc cs w) := h
  have HLow : Hid (Row w G3 (ints .i32 lw)) := hlow
  have HSt : Hid (Row w G4 (bools st)) := hst
  have HQ : Hid (QAt w B H v st m) := hq
  have HQb : Hid (w.cell? ⟨qb, 0, none⟩ = some v) := hqb
  clear hF0 h hlow hst hq hqb
  go_enter Yba.func10, Yba.ntmps10
  go_wp2
  go_loopw [9, 10, 23] (fun b t k wr => ∃ (i : Nat) (gB : Bool) (fV : Int), i ≤ nf ∧ k = .int .i64 i ∧ b = .bool gB ∧ t = .int .i64 fV ∧ Hid (gB = gw rs f p i) ∧ Hid (fV = fs f i) ∧ Hid (Ob H0 base F G1 G2 N c words (.slice (some ⟨G3, 0, none⟩) m m) (.slice (some ⟨G4, 0, none⟩) m m) qb tr ts (R rs f p i) (Lg rs ls f p tr ts i) (nc + nC rs ls f p tr ts i) (cs ++ Cg rs ls f p tr ts i) wr) ∧ Hid (Frame H0 F G1 G2 c w wr))
    (fun _ _ k _ => nf - (intOf k).toNat)
  case atStart => exact ⟨0, false, -1, Nat.zero_le _, rfl, rfl, rfl, rfl, rfl, ob_start HOb0.out, Frame.refl _ _ _ _ _ _⟩
  case round =>
    clear c13 hp hu0 hu1 HOb0
    obtain ⟨i, gB, fV, hi, rfl, rfl, rfl, HgB, HfV, HOb, HFr⟩ := hrel
    have hbd := fs_bd (f := f) i
    rw [← HfV.out] at hbd
    obtain ⟨hb1', hb2'⟩ := hbd
    by_cases hlt : i < nf
    · omega
    · obtain rfl : i = nf := by omega
      obtain ⟨vc, hF, _⟩ := HOb.out.obj
      have hlow1 : Row wr G3 (ints .i32 lw) := HLow.out.same (HFr.out.block G3 P.l3 P.n3.1 P.n3.2.1 P.n3.2.2.1 P.n3.2.2.2)
      have hst1 : Row wr G4 (bools st) := HSt.out.same (HFr.out.block G4 P.l4 P.n4.1 P.n4.2.1 P.n4.2.2.1 P.n4.2.2.2.1)
      have hq1 : QAt wr B H v st m := HQ.out.same (fun k h1 h2 => by have := P.q k h1 h2; exact HFr.out.block k (Nat.lt_of_lt_of_le h2 P.lH) this.1 this.2.1 this.2.2.1 this.2.2.2.1)
      have hqb1 : wr.cell? ⟨qb, 0, none⟩ = some v := (World.cell?_of_block (HFr.out.block qb P.lq P.nq.1 P.nq.2.1 P.nq.2.2.1 P.nq.2.2.2.1)).trans HQb.out
      have hkb1 : KB (Wr H0 F G1 G2 G3 G4 B H c) w wr := HFr.out.kb
      have c15 := hF.c15
      have hl := hlow1.cell (ints_at .i32 lw u (by omega))
      have hfl := hlow1.frozen u
      have HLow1 : Hid (Row wr G3 (ints .i32 lw)) := hlow1
      have HSt1 : Hid (Row wr G4 (bools st)) := hst1
      have HQ1 : Hid (QAt wr B H v st m) := hq1
      have HQb1 : Hid (wr.cell? ⟨qb, 0, none⟩ = some v) := hqb1
      have HKb : Hid (KB (Wr H0 F G1 G2 G3 G4 B H c) w wr) := hkb1
      obtain ⟨y, hy⟩ : ∃ y, y = lw.getD u 0 := ⟨_, rfl⟩
      have HY : Hid (y = lw.getD u 0) := hy
      rw [← hy] at hl
      clear hF hlow1 hst1 hq1 hqb1 hkb1 hy
      have huI : (u : Int) < (m : Int) := by omega
      by_cases hneg : fV < 0
      · have hlo' : lowOf lw (fs f i) u lo = lw := by rw [lowOf, if_neg (by rw [← HfV.out]; omega)]
        have hga := grown_any (lo := lo) (lw := lw) P HOb.out (by rw [hlo']; exact HLow1.out) HSt1.out HQ1.out HQb1.out HKb.out hm hu hsl gB HgB.out
        have HGA : Hid _ := hga
        clear hga hlo'
        go_wp2_with fail
        refine Calls.mono HGA.out ?_
        rintro e w' ⟨rfl, hU⟩
        have HU : Hid _ := hU
        clear hU
        go_wp2_with fail
        go_end0
        exact ⟨rfl, HU.out⟩
      · by_cases hless : (lo : Int) + fV < y
        · have hlo' : lowOf lw (fs f i) u lo = lw.set u ((lo : Int) + fV) := by rw [lowOf, ← HfV.out, ← HY.out, if_pos ⟨by omega, hless⟩]
          have hga := grown_low (lo := lo) (lw := lw) P HOb.out HLow1.out HSt1.out HQ1.out HQb1.out HKb.out hm hu hsl gB HgB.out _ hlo'
          have HGA : Hid _ := hga
          clear hga hlo'
          go_wp2_with fail
          go_region
          go_wp2_with fail
          refine Calls.mono HGA.out ?_
          rintro e w' ⟨rfl, hU⟩
          have HU : Hid _ := hU
          clear hU
          go_wp2_with fail
          go_end0
          exact ⟨rfl, HU.out⟩
        · have hlo' : lowOf lw (fs f i) u lo = lw.set u y := by
            rw [lowOf, ← HfV.out, ← HY.out, if_neg (by omega), HY.out]
            rw [set_same lw u _ (by rw [List.getD_eq_getElem?_getD, List.getElem?_eq_getElem (by omega)]; rfl)]
          have hga := grown_low (lo := lo) (lw := lw) P HOb.out HLow1.out HSt1.out HQ1.out HQb1.out HKb.out hm hu hsl gB HgB.out _ hlo'
          have HGA : Hid _ := hga
          clear hga hlo'
          go_wp2_with fail
          go_region
          go_wp2_with fail
          refine Calls.mono HGA.out ?_
          rintro e w' ⟨rfl, hU⟩
          have HU : Hid _ := hU
          clear hU
          go_wp2_with fail
          go_end0
          exact ⟨rfl, HU.out⟩

end Go.Proofs.Ybulkebqk
