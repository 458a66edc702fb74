/-
  The end of the law, outside the walk: unite is called, and what is then held against what was expected.
-/
import Derived.Test.YbulkebqkQany
namespace Go.Proofs.Ybulkebqk
open Go.RowKit
set_option linter.unusedVariables false

/-- The cells of the forcedOrder that the law lays. -/
def foCells (G1 N G3 m qb lenC cv words : Nat) (av : Option Addr) (tr : Bool) (ts : Int) : Array Value :=
  #[.pointer none, .int .i64 0, .int .i64 0, .slice none 0 0, .slice none 0 0, .slice none 0 0, .slice none 0 0, .slice none 0 0, .slice none 0 0, .slice none 0 0, .slice none 0 0, .slice none 0 0, .slice none 0 0,
    .int .i64 words, .slice (some ⟨G1, 0, none⟩) N N, .slice (some ⟨G3, 0, none⟩) m m, .slice none 0 0, .slice none 0 0, .slice none 0 0, .int .i64 0, .slice none 0 0, .slice none 0 0, .pointer (some ⟨qb, 0, none⟩),
    .slice (some ⟨G3 + 1, 0, none⟩) m m, .slice none 0 0, .int .i32 0, .slice none 0 0, .slice none 0 0, .bool tr, .int .i64 0, .slice av lenC cv, .slice (some ⟨G1 + 1, 0, none⟩) N N, .int .i32 ts, .slice none 0 0]

theorem fo_new (W : World) (G1 N G3 m qb lenC cv words : Nat) (av : Option Addr) (tr : Bool) (ts : Int) :
    FO (W.alloc (.cells (foCells G1 N G3 m qb lenC cv words av tr ts) 48)) W.heap.size words (.slice (some ⟨G1, 0, none⟩) N N) (.slice (some ⟨G3, 0, none⟩) m m) (.slice (some ⟨G3 + 1, 0, none⟩) m m) (.slice av lenC cv) (.slice (some ⟨G1 + 1, 0, none⟩) N N) qb tr ts := by
  have hc : ∀ o, (W.alloc (.cells (foCells G1 N G3 m qb lenC cv words av tr ts) 48)).cell? ⟨W.heap.size, o, none⟩ = (foCells G1 N G3 m qb lenC cv words av tr ts)[o]? := fun o => World.cell?_alloc_at _ _ _ _ rfl
  exact ⟨(hc 13).trans rfl, (hc 14).trans rfl, (hc 15).trans rfl, (hc 22).trans rfl, (hc 23).trans rfl, (hc 28).trans rfl, (hc 30).trans rfl, (hc 31).trans rfl, (hc 32).trans rfl, fun o => World.frozen?_alloc_at _ _ _ _ rfl, by simp⟩

/-- All that the last expression looks at, in the world w'. -/
structure Done (w : World) (F G1 G3 N m qb xb words nf gE1 gE2 gE3 gE4 : Nat) (v2 vqa vqb v50 : Value) (tr : Bool) (ts : Int) (rr ll lw' : List Int) (st2 : List Bool) (n : Nat) (l : List (Int × Int)) (a4 : Option Addr) (f : Nat → Int) (w' : World) : Prop where
  fo : ∃ vc b1, FO w' F words (.slice (some ⟨G1, 0, none⟩) N N) (.slice (some ⟨G3, 0, none⟩) m m) (.slice (some ⟨G3 + 1, 0, none⟩) m m) vc (.slice (some ⟨G1 + 1, 0, none⟩) N N) qb tr ts ∧ w'.ownsRow b1 29 2 vc n (prs l)
  oE : ∃ b2, w'.ownsRow b2 29 2 v2 n (prs l)
  r1 : Row w' G1 (ints .u64 rr)
  e1 : Row w' gE1 (ints .u64 rr)
  r2 : Row w' (G1 + 1) (ints .i32 ll)
  e2 : Row w' gE2 (ints .i32 ll)
  r3 : Row w' G3 (ints .i32 lw')
  e3 : Row w' gE3 (ints .i32 lw')
  r4 : Row w' (G3 + 1) (bools st2)
  e4 : Row w' gE4 (bools st2)
  q1 : ∃ B H, QAt w' B H vqa st2 m
  q2 : ∃ B H, QAt w' B H vqb st2 m
  cq : w'.cell? ⟨qb, 0, none⟩ = some vqb
  cx : w'.cell? ⟨xb, 0, none⟩ = some vqa
  cp : ∃ wc wd, Copied wc wd nf f v50 ∧ ∀ g, wc.heap.size ≤ g → g < wd.heap.size → w'.heap[g]? = wd.heap[g]?
  arg : ArgI .u64 w a4 nf f
  below : Below w.heap.size w w'
  lens : rr.length = N ∧ ll.length = N ∧ lw'.length = m ∧ st2.length = m

theorem lowOf_len (lw : List Int) (fv : Int) (u lo : Nat) : (lowOf lw fv u lo).length = lw.length := by unfold lowOf; split <;> simp

theorem fin_unite (w W3 W7 W10 W11 W12 W13 : World) (G3 N m words u lo p nf cf lenC cv B3 ga na ca gb nb cb gE1 gE2 gE3 gE4 b5 : Nat) (av a4 : Option Addr) (v2 v50 : Value) (tr : Bool) (ts : Int) (rs ls lw : List Int) (st : List Bool) (f : Nat → Int) (l0 : List (Int × Int))
    (z1 : w.heap.size + 1 < G3) (z2 : G3 + 1 < B3) (z3 : B3 ≤ W3.heap.size) (z7 : W3.heap.size ≤ W7.heap.size) (z10 : W7.heap.size ≤ W10.heap.size) (z11 : W10.heap.size ≤ W11.heap.size) (z12 : W11.heap.size + 1 ≤ W12.heap.size) (z13 : W12.heap.size + 1 ≤ W13.heap.size)
    (H1 : Row W3 w.heap.size (ints .u64 rs)) (H2 : Row W3 (w.heap.size + 1) (ints .i32 ls)) (H3 : Row W3 G3 (ints .i32 lw)) (H4 : Row W3 (G3 + 1) (bools st)) (HO : W3.ownsRow B3 29 2 (.slice av lenC cv) lenC (prs l0)) (HB7 : Below W3.heap.size W3 W7)
    (T1 : Row W7 gE1 (ints .u64 (R rs f p nf))) (T2 : Row W7 gE2 (ints .i32 (Lg rs ls f p tr ts nf))) (TO : W7.ownsRow b5 29 2 v2 (lenC + nC rs ls f p tr ts nf) (prs l0 ++ Cg rs ls f p tr ts nf)) (hb5 : W3.heap.size ≤ b5) (k1 : W3.heap.size ≤ gE1) (k2 : W3.heap.size ≤ gE2) (HB11 : Below W7.heap.size W7 W11)
    (E3 : Row W11 gE3 (ints .i32 (lowOf lw (fs f nf) u lo))) (E4 : Row W11 gE4 (bools (if gw rs f p nf then st.set u true else st))) (k3 : W7.heap.size ≤ gE3) (k4 : W7.heap.size ≤ gE4) (Q1 : QAt W11 W10.heap.size W11.heap.size (.slice (some ⟨ga, 0, none⟩) na ca) (if gw rs f p nf then st.set u true else st) m)
    (HB12 : Below (W11.heap.size + 1) (W11.alloc (.cells #[.slice (some ⟨ga, 0, none⟩) na ca] 36)) W12) (Q2 : QAt W12 (W11.heap.size + 1) W12.heap.size (.slice (some ⟨gb, 0, none⟩) nb cb) st m)
    (HB13 : Below (W12.heap.size + 1) (W12.alloc (.cells #[.slice (some ⟨gb, 0, none⟩) nb cb] 36)) W13) (HC : Copied (W12.alloc (.cells #[.slice (some ⟨gb, 0, none⟩) nb cb] 36)) W13 nf f v50) (HBw : Below w.heap.size w W3)
    (hrl : rs.length = N) (hll : ls.length = N) (hlw : lw.length = m) (hst : st.length = m) (hrw : ∀ j, W64 (rs.getD j 0)) (hfw : ∀ i, i < nf → W64 (f i)) (h4 : ArgI .u64 w a4 nf f)
    (hN : (N : Int) ≤ 533000) (hm1 : 1 ≤ (m : Int)) (hm : (m : Int) ≤ 130) (hu : (u : Int) < (m : Int)) (hp : (u : Int) * (words : Int) + (lo : Int) = (p : Int)) (hu0 : (0 : Int) ≤ (u : Int) * (words : Int)) (hpN : (p : Int) + (nf : Int) ≤ (N : Int)) (hlo : (lo : Int) ≤ 1000000) (hnf : (nf : Int) ≤ 4096) (hlC : (lenC : Int) ≤ 4096) :
    Calls Yba.prog 10 #[.pointer (some ⟨W13.heap.size, 0, none⟩), .int .i64 u, .slice a4 nf cf, .int .i64 lo] (W13.alloc (.cells (foCells w.heap.size N G3 m W12.heap.size lenC cv words av tr ts) 48)) fun e w' => e = .returned (.tuple #[]) ∧
      ∃ n l, n ≤ 1000000 ∧ Done w W13.heap.size w.heap.size G3 N m W12.heap.size W11.heap.size words nf gE1 gE2 gE3 gE4 v2 (.slice (some ⟨ga, 0, none⟩) na ca) (.slice (some ⟨gb, 0, none⟩) nb cb) v50 tr ts (R rs f p nf) (Lg rs ls f p tr ts nf) (lowOf lw (fs f nf) u lo) (if gw rs f p nf then st.set u true else st) n l a4 f w' := by
  obtain ⟨W14, hW14⟩ : ∃ W14, W14 = W13.alloc (.cells (foCells w.heap.size N G3 m W12.heap.size lenC cv words av tr ts) 48) := ⟨_, rfl⟩
  have hFO := fo_new W13 w.heap.size N G3 m W12.heap.size lenC cv words av tr ts
  rw [← hW14] at hFO ⊢
  have z14 : W14.heap.size = W13.heap.size + 1 := by rw [hW14]; simp
  have b13 : ∀ k, k < W13.heap.size → W14.heap[k]? = W13.heap[k]? := fun k hk => by rw [hW14]; exact Below.heap_alloc _ _ _ hk
  have b12 : ∀ k, k < W12.heap.size + 1 → W14.heap[k]? = (W12.alloc (.cells #[.slice (some ⟨gb, 0, none⟩) nb cb] 36)).heap[k]? := fun k hk => (b13 k (by omega)).trans (HB13.block k hk)
  have b12' : ∀ k, k < W12.heap.size → W14.heap[k]? = W12.heap[k]? := fun k hk => (b12 k (by omega)).trans (Below.heap_alloc _ _ _ hk)
  have b11 : ∀ k, k < W11.heap.size + 1 → W14.heap[k]? = (W11.alloc (.cells #[.slice (some ⟨ga, 0, none⟩) na ca] 36)).heap[k]? := fun k hk => (b12' k (by omega)).trans (HB12.block k hk)
  have b11' : ∀ k, k < W11.heap.size → W14.heap[k]? = W11.heap[k]? := fun k hk => (b11 k (by omega)).trans (Below.heap_alloc _ _ _ hk)
  have b7 : ∀ k, k < W7.heap.size → W14.heap[k]? = W7.heap[k]? := fun k hk => (b11' k (by omega)).trans (HB11.block k hk)
  have b3 : ∀ k, k < W3.heap.size → W14.heap[k]? = W3.heap[k]? := fun k hk => (b7 k (by omega)).trans (HB7.block k hk)
  have hcl := HO.lt
  have hBw14 : Below w.heap.size w W14 := by
    have h1 := HBw.trans (HB7.mono (by omega))
    have h2 := (h1.trans (HB11.mono (by omega))).alloc (by omega) (.cells #[.slice (some ⟨ga, 0, none⟩) na ca] 36)
    have h3 := (h2.trans (HB12.mono (by omega))).alloc (by omega) (.cells #[.slice (some ⟨gb, 0, none⟩) nb cb] 36)
    rw [hW14]
    exact (h3.trans (HB13.mono (by omega))).alloc (by omega) _
  obtain ⟨c, hc⟩ : ∃ c, c = (Value.slice av lenC cv).ownBlock := ⟨_, rfl⟩
  have hcn : ∀ k, (k < B3 ∨ W3.heap.size ≤ k) → c ≠ some k := by
    intro k hk h
    rw [hc] at h
    have := hcl k h
    omega
  have P : Places (W13.heap.size + 1) B3 W13.heap.size w.heap.size (w.heap.size + 1) G3 (G3 + 1) (W11.heap.size + 1) W12.heap.size W12.heap.size c := by
    refine ⟨⟨by omega, by omega, by omega, by omega, by omega, by omega, by omega, hcn _ (by omega), hcn _ (by omega), hcn _ (by omega)⟩, by omega, by omega, by omega, by omega, ⟨by omega, by omega, by omega, fun h => hcn _ (by omega) h.symm⟩, ⟨by omega, by omega, by omega, fun h => hcn _ (by omega) h.symm, by omega⟩, ⟨by omega, by omega, by omega, fun h => hcn _ (by omega) h.symm, by omega, by omega, by omega⟩, ?_⟩
    intro k h1 h2
    exact ⟨by omega, by omega, by omega, fun h => hcn k (by omega) h.symm, by omega, by omega⟩
  have Ob14 : Ob (W13.heap.size + 1) B3 W13.heap.size w.heap.size (w.heap.size + 1) N c words (.slice (some ⟨G3, 0, none⟩) m m) (.slice (some ⟨G3 + 1, 0, none⟩) m m) W12.heap.size tr ts rs ls lenC (prs l0) W14 :=
    ⟨by omega, hrl, hll, H1.same (b3 _ (by omega)), H2.same (b3 _ (by omega)), _, hFO, owns_same HO (fun g hg => b3 g (hcl g hg).2), .inl hc.symm⟩
  have cq14 : W14.cell? ⟨W12.heap.size, 0, none⟩ = some (.slice (some ⟨gb, 0, none⟩) nb cb) := (World.cell?_of_block (b12 W12.heap.size (by omega))).trans (World.cell?_alloc_at _ _ _ _ rfl)
  have cx14 : W14.cell? ⟨W11.heap.size, 0, none⟩ = some (.slice (some ⟨ga, 0, none⟩) na ca) := (World.cell?_of_block (b11 W11.heap.size (by omega))).trans (World.cell?_alloc_at _ _ _ _ rfl)
  refine (unite_arg (W13.heap.size + 1) B3 W13.heap.size w.heap.size (w.heap.size + 1) G3 (G3 + 1) N m (W11.heap.size + 1) W12.heap.size c words u lo p nf W12.heap.size a4 cf tr ts rs ls lw st f lenC (prs l0) (.slice (some ⟨gb, 0, none⟩) nb cb) W14 w P Ob14 (H3.same (b3 _ (by omega))) (H4.same (b3 _ (by omega))) (Q2.same (fun k h1 h2 => b12' k h2)) cq14
    (by omega) hrl hlw hst (by omega) (by omega) hp hu0 (by omega) (by omega) hlo hnf (by omega) hrw hfw h4 hBw14 (fun k hk => ⟨by omega, by omega, by omega, fun h => hcn k (by omega) h.symm⟩) (by omega)).mono ?_
  rintro e w' ⟨rfl, U⟩
  have hno : ∀ k, k < W13.heap.size → W3.heap.size ≤ k → k < W11.heap.size + 1 → ¬ Wr (W13.heap.size + 1) W13.heap.size w.heap.size (w.heap.size + 1) G3 (G3 + 1) (W11.heap.size + 1) W12.heap.size c k := by
    intro k h1 h2 h3 h
    have h5 := hcn k (by omega)
    rcases h with h | h | h | h | h | h | h | h
    · omega
    · omega
    · omega
    · omega
    · omega
    · exact h5 h.symm
    · omega
    · omega
  have hno2 : ∀ k, k < W13.heap.size → W12.heap.size ≤ k → ¬ Wr (W13.heap.size + 1) W13.heap.size w.heap.size (w.heap.size + 1) G3 (G3 + 1) (W11.heap.size + 1) W12.heap.size c k := by
    intro k h1 h2 h
    have h5 := hcn k (by omega)
    rcases h with h | h | h | h | h | h | h | h
    · omega
    · omega
    · omega
    · omega
    · omega
    · exact h5 h.symm
    · omega
    · omega
  have kk : ∀ k, W3.heap.size ≤ k → k < W11.heap.size + 1 → w'.heap[k]? = W14.heap[k]? := fun k h1 h2 => U.kept.block k (by omega) (hno k (by omega) h1 h2)
  have kk2 : ∀ k, W12.heap.size ≤ k → k < W13.heap.size → w'.heap[k]? = W14.heap[k]? := fun k h1 h2 => U.kept.block k (by omega) (hno2 k h2 h1)
  obtain ⟨vc, hF, ho, _⟩ := U.ob.obj
  obtain ⟨l, hl⟩ := Cg_prs rs ls f p tr ts l0 nf
  have TO' : w'.ownsRow b5 29 2 v2 (lenC + nC rs ls f p tr ts nf) (prs l) := by
    rw [← hl]
    refine owns_same TO (fun g hg => ?_)
    have hgl := TO.lt g hg
    exact (kk g (by omega) (by omega)).trans (b7 g hgl.2)
  rw [hl] at ho
  have hl7 : ∀ g (vs : List Value), Row W7 g vs → g < W7.heap.size := fun g vs h => h.lt
  have hl11 : ∀ g (vs : List Value), Row W11 g vs → g < W11.heap.size := fun g vs h => h.lt
  have t1 := T1.lt
  have t2 := T2.lt
  have t3 := E3.lt
  have t4 := E4.lt
  have hBf : Below w.heap.size W14 w' := U.kept.below (by omega) (fun k hk => by
    rcases hk with h | h | h | h | h | h | h | h
    · omega
    · omega
    · omega
    · omega
    · omega
    · rw [hc] at h; have := (hcl k h.symm).1; omega
    · omega
    · omega)
  have hnl := nC_le (rs := rs) (ls := ls) (f := f) (p := p) (tr := tr) (ts := ts) nf
  refine ⟨rfl, lenC + nC rs ls f p tr ts nf, l, by omega, ?_⟩
  exact {
    fo := ⟨vc, B3, hF, ho⟩
    oE := ⟨b5, TO'⟩
    r1 := U.ob.reach
    e1 := T1.same ((kk _ k1 (by omega)).trans (b7 _ t1))
    r2 := U.ob.logged
    e2 := T2.same ((kk _ k2 (by omega)).trans (b7 _ t2))
    r3 := U.low
    e3 := E3.same ((kk _ (by omega) (by omega)).trans (b11' _ t3))
    r4 := U.stale
    e4 := E4.same ((kk _ (by omega) (by omega)).trans (b11' _ t4))
    q1 := ⟨_, _, Q1.same (fun k h1 h2 => (kk k (by omega) (by omega)).trans (b11' k h2))⟩
    q2 := ⟨_, _, U.queue⟩
    cq := (World.cell?_of_block (a := ⟨W12.heap.size, 0, none⟩) (kk2 W12.heap.size (Nat.le_refl _) (by omega))).trans cq14
    cx := (World.cell?_of_block (a := ⟨W11.heap.size, 0, none⟩) (kk W11.heap.size (by omega) (by omega))).trans cx14
    cp := ⟨_, _, HC, fun g h1 h2 => by simp only [World.size_alloc] at h1; exact (kk2 g (by omega) h2).trans (b13 g h2)⟩
    arg := h4
    below := hBw14.trans hBf
    lens := ⟨by rw [R_len]; exact hrl, by rw [Lg_len]; exact hll, by rw [lowOf_len]; exact hlw, by split <;> simp [hst]⟩ }
end Go.Proofs.Ybulkebqk
