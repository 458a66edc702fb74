/-
  Clone and Equal at the shapes that the law hands them: a slice that came in; the log; rows.
-/
import Derived.Test.YbulkebqkTab
namespace Go.Proofs.Ybulkebqk
open Go.RowKit
set_option linter.unusedVariables false

/-- Pairs as cells. -/
def prs (l : List (Int × Int)) : List Value := l.flatMap (fun p => [.int .i64 p.1, .int .u64 p.2])
theorem prs_len (l : List (Int × Int)) : (prs l).length = l.length * 2 := by
  induction l with
  | nil => rfl
  | cons x r ih => simp [prs] at ih ⊢; omega
theorem prs_snoc (l : List (Int × Int)) (x y : Int) : prs (l ++ [(x, y)]) = prs l ++ [.int .i64 x, .int .u64 y] := by simp [prs]
theorem prs_at (l : List (Int × Int)) (i : Nat) (h : i < l.length) : (prs l)[i * 2]? = some (.int .i64 (l.getD i (0, 0)).1) ∧ (prs l)[i * 2 + 1]? = some (.int .u64 (l.getD i (0, 0)).2) := by
  induction l generalizing i with
  | nil => simp at h
  | cons x r ih =>
    have e : prs (x :: r) = .int .i64 x.1 :: .int .u64 x.2 :: prs r := by simp [prs]
    rw [e]
    cases i with
    | zero => exact ⟨rfl, rfl⟩
    | succ i =>
      have := ih i (by simpa using h)
      rw [show (i + 1) * 2 = i * 2 + 1 + 1 by omega, show i * 2 + 1 + 1 + 1 = (i * 2 + 1) + 1 + 1 by omega]
      simp only [List.getElem?_cons_succ]
      simpa using this
theorem prs_one (l : List (Int × Int)) : ∀ u ∈ prs l, u.oneCell' = true := by
  intro u hu
  simp only [prs, List.mem_flatMap] at hu
  obtain ⟨p, _, hp⟩ := hu
  simp at hp
  rcases hp with rfl | rfl <;> rfl

theorem cL_prs (f : Nat → Int) (k : Nat) : ∃ l, cL f k = prs l ∧ l.length = k := by
  induction k with
  | zero => exact ⟨[], rfl, rfl⟩
  | succ k ih =>
    obtain ⟨l, h1, h2⟩ := ih
    exact ⟨l ++ [((k : Int), f k)], by rw [prs_snoc, cL, h1], by simp [h2]⟩
theorem Cg_prs (rs ls : List Int) (f : Nat → Int) (p : Nat) (tr : Bool) (ts : Int) (l0 : List (Int × Int)) (i : Nat) : ∃ l, prs l0 ++ Cg rs ls f p tr ts i = prs l := by
  induction i with
  | zero => exact ⟨l0, by simp [Cg]⟩
  | succ i ih =>
    obtain ⟨l, h⟩ := ih
    unfold Cg
    split
    · exact ⟨l ++ [(((p + i : Nat) : Int), rs.getD (p + i) 0)], by rw [prs_snoc, ← h, List.append_assoc]⟩
    · exact ⟨l, h⟩

/-- Clone of the log. -/
theorem clone7_own (base n : Nat) (v : Value) (xs : List Value) (w : World) (hn : n ≤ 100000) (h1 : ∀ u ∈ xs, u.oneCell' = true) (ho : w.ownsRow base 29 2 v n xs) :
    Calls Yba.prog 7 #[v] w fun e w' => ∃ v', e = .returned v' ∧ w'.ownsRow w.heap.size 29 2 v' n xs ∧ Below w.heap.size w w' := by
  rcases ho.2 with ⟨rfl, rfl⟩ | ⟨g, cap, cur, rfl, hb, hg, hnc, hcm, hsz, htake⟩
  · refine (clone7_nil w).mono ?_
    rintro e w' ⟨rfl, rfl⟩
    have hx : xs = [] := List.eq_nil_of_length_eq_zero (by have := ho.1; omega)
    subst hx
    exact ⟨_, rfl, World.ownsRow_nil _ _ _ _, Below.refl _ _⟩
  · obtain ⟨i0, hi, hz0, hz1, hz2⟩ := info_parts Yba.info29
    have q : ∀ (w : World), (binOp .eql 27 (.slice (some ⟨g, 0, none⟩) n cap) (.slice none 0 0)).run Yba.prog w = .ok (.bool false) w := fun w => Lib.run_eql_slice_nil w _ _ _ _ _ _ _ Yba.underlying27
    have hc : ∀ j u, xs[j]? = some u → w.cell? ((⟨g, 0, none⟩ : Addr).add j) = some u := ho.cells rfl
    have HC : Hid _ := hc
    have HX : Hid _ := ho.1
    have H1 : Hid _ := h1
    clear hc h1 ho hb hg hnc hcm hsz htake
    go_enter Yba.func7, Yba.ntmps7
    go_wp2_with (at_builtin; refine wpList_append_own _ rfl (.tmp 5) (.tmp 6) 27 rfl w.heap.size 29 i0 (.agg #[.int .i64 0, .int .u64 0]) 2 16 Yba.underlying27 hi hz0 hz1 hz2 rfl (by decide) _ 0 [] rfl (World.ownsRow_made w #[] 0 (Nat.le_refl _) (by decide) rfl) ⟨g, 0, none⟩ n cap xs rfl HX.out (fun j u hu => (World.cell?_alloc_some w _ _ (by rw [HC.out j u hu]; rfl)).trans (HC.out j u hu)) H1.out (by unfold maxLen; omega) (by omega) (by simp) ?_; intro v' w1 hown hgrow hnil)
    have hB : Below w.heap.size w w1 := ((Below.refl _ _).alloc (Nat.le_refl _) _).grown hgrow (by simp) (by intro k hk; cases hk; exact Nat.le_refl _)
    have hown' : w1.ownsRow w.heap.size 29 2 v' n xs := by simpa using hown
    have HO : Hid _ := hown'
    clear hown hown' hgrow hnil
    go_wp2
    go_ret
    exact ⟨v', rfl, HO.out, hB⟩

/-- Equal at two logs that hold the same. -/
theorem equal14_own (b1 b2 n : Nat) (v1 v2 : Value) (l : List (Int × Int)) (w : World) (hn : n ≤ 1000000) (h1 : w.ownsRow b1 29 2 v1 n (prs l)) (h2 : w.ownsRow b2 29 2 v2 n (prs l)) :
    Calls Yba.prog 14 #[v1, v2] w fun e w' => e = .returned (.bool true) ∧ ∃ k, w' = w.drewN k := by
  have hl : l.length = n := by have := h1.1; rw [prs_len] at this; omega
  rcases Nat.eq_zero_or_pos n with h0 | h0
  · subst h0
    have f1 : ∃ a c, v1 = .slice a 0 c := by rcases h1.2 with ⟨h, _⟩ | ⟨g, cap, _, h, _⟩ <;> exact ⟨_, _, h⟩
    have f2 : ∃ a c, v2 = .slice a 0 c := by rcases h2.2 with ⟨h, _⟩ | ⟨g, cap, _, h, _⟩ <;> exact ⟨_, _, h⟩
    obtain ⟨a1, c1, rfl⟩ := f1
    obtain ⟨a2, c2, rfl⟩ := f2
    exact equal14_nil a1 a2 c1 c2 w
  · obtain ⟨g1, c1, rfl, _, _⟩ := h1.form h0
    obtain ⟨g2, c2, rfl, _, _⟩ := h2.form h0
    have r1 := row_owned h1
    have r2 := row_owned h2
    exact equal14_some g1 g2 n c1 c2 (fun i => (l.getD i (0, 0)).1) (fun i => (l.getD i (0, 0)).2) w (by omega) (fun i hi => r1.cell (prs_at l i (by omega)).1) (fun i hi => r1.cell (prs_at l i (by omega)).2) (fun i hi => r2.cell (prs_at l i (by omega)).1) (fun i hi => r2.cell (prs_at l i (by omega)).2)

/-- What Clone of a slice that came in hands back. -/
def Copied (w w' : World) (n : Nat) (f : Nat → Int) (v : Value) : Prop :=
  (v = .slice none 0 0 ∧ n = 0) ∨ ∃ g cap, v = .slice (some ⟨g, 0, none⟩) n cap ∧ w.heap.size ≤ g ∧ Row w' g (ints .u64 (full n f))

theorem clone5_arg (a : Option Addr) (n c : Nat) (f : Nat → Int) (w w0 : World) (hn : n ≤ 4096) (hnil : (a = none ∧ n = 0 ∧ c = 0) ∨ ∃ x, a = some x) (ha : ArgI .u64 w0 a n f) (hb : Below w0.heap.size w0 w) :
    Calls Yba.prog 5 #[.slice a n c] w fun e w' => ∃ v', e = .returned v' ∧ Copied w w' n f v' ∧ Below w.heap.size w w' := by
  rcases hnil with ⟨rfl, rfl, rfl⟩ | ⟨x, rfl⟩
  · refine (clone5_nil w).mono ?_
    rintro e w' ⟨rfl, rfl⟩
    exact ⟨_, rfl, .inl ⟨rfl, rfl⟩, Below.refl _ _⟩
  · refine (clone5_some x n c (ints .u64 (full n f)) w (by omega) (by simp [ints, full]) (ints_one _ _) ?_).mono ?_
    · intro j u hu
      have hj : j < n := by
        rcases Nat.lt_or_ge j n with h | h
        · exact h
        · rw [List.getElem?_eq_none (by simpa [ints, full] using h)] at hu; cases hu
      obtain ⟨b, o, hx, hbl, hc⟩ := ha (by omega)
      cases hx
      rw [ints_at _ _ _ (by rw [full_len]; exact hj), full_getD 0 n f j hj] at hu
      cases hu
      rw [Addr.add_lit]
      exact (hb.cell (p := ⟨b, o + j, none⟩) hbl).trans (hc j hj)
    · rintro e w' ⟨g, cap, rfl, hg, hR, hB⟩
      exact ⟨_, rfl, .inr ⟨g, cap, rfl, hg, hR⟩, hB⟩

/-- Equal at a slice that came in and its copy. -/
theorem equal11_arg (a : Option Addr) (n c : Nat) (f : Nat → Int) (v : Value) (w0 wc wd w : World) (hn : n ≤ 4096) (ha : ArgI .u64 w0 a n f) (hb : Below w0.heap.size w0 w) (hv : Copied wc wd n f v) (hk : ∀ g, wc.heap.size ≤ g → g < wd.heap.size → w.heap[g]? = wd.heap[g]?) :
    Calls Yba.prog 11 #[.slice a n c, v] w fun e w' => e = .returned (.bool true) ∧ ∃ k, w' = w.drewN k := by
  rcases Nat.eq_zero_or_pos n with h0 | h0
  · subst h0
    rcases hv with ⟨rfl, _⟩ | ⟨g, cap, rfl, _⟩
    · exact equal11_nil _ _ _ _ w
    · exact equal11_nil _ _ _ _ w
  · rcases hv with ⟨_, h⟩ | ⟨g, cap, rfl, hg, hR⟩
    · omega
    · obtain ⟨b, o, rfl, hbl, hc⟩ := ha h0
      have hR' : Row w g (ints .u64 (full n f)) := hR.same (hk g hg hR.lt)
      refine equal11_some b o g 0 n c cap f w (by omega) (fun i hi => (hb.cell (p := ⟨b, o + i, none⟩) hbl).trans (hc i hi)) (fun i hi => ?_)
      rw [Nat.zero_add]
      have := hR'.cell (ints_at .u64 (full n f) i (by rw [full_len]; exact hi))
      rw [full_getD 0 n f i hi] at this
      exact this

/-- unite at a slice that came in. -/
theorem unite_arg (H0 base F G1 G2 G3 G4 N m B H : Nat) (c : Option Nat) (words u lo p nf qb : Nat) (a : Option Addr) (cf : Nat) (tr : Bool) (ts : Int) (rs ls lw : List Int) (st : List Bool) (f : Nat → Int) (nc : Nat) (cs : List Value) (v : Value) (w w0 : World)
    (P : Places H0 base F G1 G2 G3 G4 B H qb c) (h : Ob H0 base F G1 G2 N c words (.slice (some ⟨G3, 0, none⟩) m m) (.slice (some ⟨G4, 0, none⟩) m m) qb tr ts rs ls nc cs w) (hlow : Row w G3 (ints .i32 lw)) (hst : Row w G4 (bools st)) (hq : QAt w B H v st m) (hqb : w.cell? ⟨qb, 0, none⟩ = some v)
    (hN : (N : Int) ≤ 1000000) (hrs : rs.length = N) (hlw : lw.length = m) (hsl : st.length = m) (hm : (m : Int) ≤ 1000) (hu : u < m)
    (hp : (u : Int) * (words : Int) + (lo : Int) = (p : Int)) (hu0 : (0 : Int) ≤ (u : Int) * (words : Int)) (hu1 : (u : Int) * (words : Int) ≤ 1000000) (hpn : p + nf ≤ N) (hlo : (lo : Int) ≤ 1000000) (hnf : (nf : Int) ≤ 4096) (hnc : nc + nf ≤ 100000)
    (hr : ∀ i, W64 (rs.getD i 0)) (hf : ∀ i, i < nf → W64 (f i)) (ha : ArgI .u64 w0 a nf f) (hb : Below w0.heap.size w0 w) (hold : ∀ k, k < w0.heap.size → k ≠ F ∧ k ≠ G1 ∧ k ≠ G2 ∧ some k ≠ c) (hH : w0.heap.size ≤ H0) :
    Calls Yba.prog 10 #[.pointer (some ⟨F, 0, none⟩), .int .i64 u, .slice a nf cf, .int .i64 lo] w fun e w' => e = .returned (.tuple #[]) ∧ United H0 base F G1 G2 G3 G4 N m B H c words u lo p nf qb tr ts rs ls lw st f nc cs v w w' := by
  rcases Nat.eq_zero_or_pos nf with h0 | h0
  · exact unite_nil H0 base F G1 G2 G3 G4 N m B H c words u lo p nf qb a cf tr ts rs ls lw st f nc cs v w P h hlow hst hq hqb hN hrs hlw hsl hm hu hp hu0 hu1 hpn hlo hnf hnc hr hf h0
  · obtain ⟨b, o, rfl, hbl, hc⟩ := ha h0
    obtain ⟨k1, k2, k3, k4⟩ := hold b hbl
    exact unite_some H0 base F G1 G2 G3 G4 N m B H c words u lo p nf qb b o cf tr ts rs ls lw st f nc cs v w P h hlow hst hq hqb hN hrs hlw hsl hm hu hp hu0 hu1 hpn hlo hnf hnc hr hf (fun i hi => (hb.cell (p := ⟨b, o + i, none⟩) hbl).trans (hc i hi)) (Nat.lt_of_lt_of_le hbl hH) k1 k2 k3 k4
end Go.Proofs.Ybulkebqk
