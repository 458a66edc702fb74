/-
  (*forcedOrder).orWord in one word: what it makes of the rows, the log and the rest of memory.
-/
import Derived.Test.YbulkebqkOr
namespace Go.Proofs.Ybulkebqk
open Go.RowKit
set_option linter.unusedVariables false

/-- Integers of a kind, as cells. -/
def ints (k : IntKind) (zs : List Int) : List Value := zs.map (Value.int k)
theorem ints_len (k : IntKind) (zs : List Int) : (ints k zs).length = zs.length := by simp [ints]
theorem ints_at (k : IntKind) (zs : List Int) (i : Nat) (h : i < zs.length) : (ints k zs)[i]? = some (.int k (zs.getD i 0)) := by
  simp [ints, List.getElem?_map, List.getElem?_eq_getElem h, List.getD_eq_getElem?_getD]
theorem ints_set (k : IntKind) (zs : List Int) (i : Nat) (z : Int) : (ints k zs).set i (.int k z) = ints k (zs.set i z) := by simp [ints, List.map_set]
theorem ints_one (k : IntKind) (zs : List Int) : ∀ u ∈ ints k zs, u.oneCell' = true := by
  intro u hu
  obtain ⟨z, _, rfl⟩ := List.mem_map.1 hu
  rfl

/-- Below H0 nothing has turned but the blocks F, G1, G2 and c. -/
structure Frame (H0 F G1 G2 : Nat) (c : Option Nat) (w w' : World) : Prop where
  os : w'.os = w.os
  tape : w'.tape = w.tape
  output : w'.output = w.output
  size : w.heap.size ≤ w'.heap.size
  block : ∀ k, k < H0 → k ≠ F → k ≠ G1 → k ≠ G2 → some k ≠ c → w'.heap[k]? = w.heap[k]?

theorem Frame.refl (H0 F G1 G2 : Nat) (c : Option Nat) (w : World) : Frame H0 F G1 G2 c w w := ⟨rfl, rfl, rfl, Nat.le_refl _, fun _ _ _ _ _ _ => rfl⟩
theorem Frame.trans {H0 F G1 G2 : Nat} {c : Option Nat} {a b d : World} (h : Frame H0 F G1 G2 c a b) (k : Frame H0 F G1 G2 c b d) : Frame H0 F G1 G2 c a d :=
  ⟨k.os.trans h.os, k.tape.trans h.tape, k.output.trans h.output, Nat.le_trans h.size k.size, fun i h1 h2 h3 h4 h5 => (k.block i h1 h2 h3 h4 h5).trans (h.block i h1 h2 h3 h4 h5)⟩

/-- The forcedOrder in block F while unite runs. -/
structure Ob (H0 base F G1 G2 N : Nat) (c : Option Nat) (wd : Int) (vl vs : Value) (qb : Nat) (tr : Bool) (ts : Int) (rs ls : List Int) (nc : Nat) (cs : List Value) (w : World) : Prop where
  big : H0 ≤ w.heap.size
  rlen : rs.length = N
  llen : ls.length = N
  reach : Row w G1 (ints .u64 rs)
  logged : Row w G2 (ints .i32 ls)
  obj : ∃ vc, FO w F wd (.slice (some ⟨G1, 0, none⟩) N N) vl vs vc (.slice (some ⟨G2, 0, none⟩) N N) qb tr ts ∧ w.ownsRow base 29 2 vc nc cs ∧ (vc.ownBlock = c ∨ ∃ k, vc.ownBlock = some k ∧ H0 ≤ k)

/-- What holds of the places, once for all. -/
structure Apart (H0 base F G1 G2 : Nat) (c : Option Nat) : Prop where
  hb : base ≤ H0
  hF : F < H0
  h1 : G1 < H0
  h2 : G2 < H0
  F1 : F ≠ G1
  F2 : F ≠ G2
  g12 : G1 ≠ G2
  cF : c ≠ some F
  c1 : c ≠ some G1
  c2 : c ≠ some G2

theorem or_stay {H0 base F G1 G2 N : Nat} {c : Option Nat} {wd : Int} {vl vs : Value} {qb : Nat} {tr : Bool} {ts : Int} {rs ls : List Int} {nc : Nat} {cs : List Value} {w : World} (h : Ob H0 base F G1 G2 N c wd vl vs qb tr ts rs ls nc cs w)
    (p : Nat) (b : Int) (hN : (N : Int) ≤ 1000000) (hp : p < N) (hz : (bits .andNot .u64 b (rs.getD p 0) == 0) = true) :
    Calls Yba.prog 34 #[.pointer (some ⟨F, 0, none⟩), .int .i64 p, .int .u64 b] w fun e w' => e = .returned (.bool false) ∧ w' = w := by
  obtain ⟨vc, hF, _⟩ := h.obj
  exact or_no F G1 N p b _ wd vl vs vc _ qb tr ts w hN (by omega) hF (h.reach.cell (ints_at _ _ _ (by rw [h.rlen]; exact hp))) hz

theorem FO.other {w : World} {F : Nat} {wd : Int} {vr vl vs vc vg : Value} {qb : Nat} {tr : Bool} {ts : Int} (h : FO w F wd vr vl vs vc vg qb tr ts) (a : Addr) (u : Value) (hne : F ≠ a.block) : FO (w.setCell a u) F wd vr vl vs vc vg qb tr ts :=
  h.same (Below.heap_setCell w a u F hne)

theorem FO.log {w : World} {F : Nat} {wd : Int} {vr vl vs vc vg : Value} {qb : Nat} {tr : Bool} {ts : Int} (h : FO w F wd vr vl vs vc vg qb tr ts) (v : Value) : FO (w.setCell ⟨F, 30, none⟩ v) F wd vr vl vs v vg qb tr ts := by
  obtain ⟨c13, c14, c15, c22, c23, c28, c30, c31, c32, fz, lt⟩ := h
  refine ⟨?_, ?_, ?_, ?_, ?_, ?_, ?_, ?_, ?_, ?_, by simpa using lt⟩
  all_goals first | (simp [go_sem, *]; done) | (intro o; rw [World.frozen?_setCell]; exact fz o)

/-- A word that brings new bits and is not logged. -/
theorem or_new {H0 base F G1 G2 N : Nat} {c : Option Nat} {wd : Int} {vl vs : Value} {qb : Nat} {tr : Bool} {ts : Int} {rs ls : List Int} {nc : Nat} {cs : List Value} {w : World} (A : Apart H0 base F G1 G2 c) (h : Ob H0 base F G1 G2 N c wd vl vs qb tr ts rs ls nc cs w)
    (p : Nat) (b : Int) (hN : (N : Int) ≤ 1000000) (hp : p < N) (hz : (bits .andNot .u64 b (rs.getD p 0) == 0) = false) (hl : (tr && (ls.getD p 0 != ts)) = false) :
    Calls Yba.prog 34 #[.pointer (some ⟨F, 0, none⟩), .int .i64 p, .int .u64 b] w fun e w' => e = .returned (.bool true) ∧ Ob H0 base F G1 G2 N c wd vl vs qb tr ts (rs.set p (bits .or .u64 (rs.getD p 0) b)) ls nc cs w' ∧ Frame H0 F G1 G2 c w w' := by
  obtain ⟨vc, hF, ho, hw⟩ := h.obj
  have hr := h.reach.cell (ints_at .u64 rs p (by rw [h.rlen]; exact hp))
  have hg := h.logged.cell (ints_at .i32 ls p (by rw [h.llen]; exact hp))
  have hf := h.reach.frozen p
  have fin : ∀ (e : Ending) (w' : World), (e = .returned (.bool true) ∧ ∃ k, w' = (w.setCell ⟨G1, p, none⟩ (.int .u64 (bits .or .u64 (rs.getD p 0) b))).drewN k) → e = .returned (.bool true) ∧ Ob H0 base F G1 G2 N c wd vl vs qb tr ts (rs.set p (bits .or .u64 (rs.getD p 0) b)) ls nc cs w' ∧ Frame H0 F G1 G2 c w w' := by
    rintro e w' ⟨rfl, k, rfl⟩
    have hne : vc.ownBlock ≠ some G1 := by
      rcases hw with hw | ⟨k, hk, hk'⟩
      · rw [hw]; exact A.c1
      · rw [hk]; intro h; have := A.h1; cases h; omega
    refine ⟨rfl, ⟨by simpa using h.big, by simpa using h.rlen, h.llen, ?_, ?_, vc, ?_, ?_, hw⟩, ⟨rfl, rfl, rfl, by simp, fun i _ _ h1 _ _ => ?_⟩⟩
    · have := h.reach.set p (.int .u64 (bits .or .u64 (rs.getD p 0) b))
      rw [ints_set] at this
      exact this
    · exact h.logged.other _ _ (fun h => A.g12 h.symm)
    · exact (hF.other ⟨G1, p, none⟩ (.int .u64 (bits .or .u64 (rs.getD p 0) b)) A.F1).same rfl
    · exact owns_same ho (fun g hg => Below.heap_setCell _ _ _ _ (by intro h; rw [h] at hg; exact hne hg))
    · exact Below.heap_setCell _ _ _ _ h1
  cases tr with
  | false => exact (or_plain F G1 N p b _ wd vl vs vc _ qb ts w hN (by omega) hF hr hf hz).mono fin
  | true => exact (or_logged F G1 G2 N p b _ _ wd vl vs vc qb ts w hN (by omega) hF hr hf hg hz (by simpa using hl)).mono fin

/-- A word that brings new bits and is logged. -/
theorem or_log {H0 base F G1 G2 N : Nat} {c : Option Nat} {wd : Int} {vl vs : Value} {qb : Nat} {ts : Int} {rs ls : List Int} {nc : Nat} {cs : List Value} {w : World} (A : Apart H0 base F G1 G2 c) (h : Ob H0 base F G1 G2 N c wd vl vs qb true ts rs ls nc cs w)
    (p : Nat) (b : Int) (hN : (N : Int) ≤ 1000000) (hnc : nc ≤ 100000) (hp : p < N) (hz : (bits .andNot .u64 b (rs.getD p 0) == 0) = false) (hl : (ls.getD p 0 != ts) = true) :
    Calls Yba.prog 34 #[.pointer (some ⟨F, 0, none⟩), .int .i64 p, .int .u64 b] w fun e w' => e = .returned (.bool true) ∧ Ob H0 base F G1 G2 N c wd vl vs qb true ts (rs.set p (bits .or .u64 (rs.getD p 0) b)) (ls.set p ts) (nc + 1) (cs ++ [.int .i64 p, .int .u64 (rs.getD p 0)]) w' ∧ Frame H0 F G1 G2 c w w' := by
  obtain ⟨vc, hF, ho, hw⟩ := h.obj
  have hr := h.reach.cell (ints_at .u64 rs p (by rw [h.rlen]; exact hp))
  have hg := h.logged.cell (ints_at .i32 ls p (by rw [h.llen]; exact hp))
  have hne : ∀ g, g < H0 → c ≠ some g → vc.ownBlock ≠ some g := by
    intro g hg hc
    rcases hw with hw | ⟨k, hk, hk'⟩
    · rw [hw]; exact hc
    · rw [hk]; intro h; cases h; omega
  have n1 := hne G1 A.h1 A.c1
  have n2 := hne G2 A.h2 A.c2
  have nF := hne F A.hF A.cF
  refine (or_logs F G1 G2 N p b _ _ wd vl vs vc qb ts base nc cs w hN (by omega) hF hr (h.reach.frozen p) hg (h.logged.frozen p) hz hl ho (Nat.le_trans A.hb h.big) hnc nF n1 n2 A.g12 A.F1 A.F2).mono ?_
  rintro e w' ⟨rfl, g', cap', w1, k, rfl, ho1, hgr, hat, hlt⟩
  have hloc : (Value.slice (some ⟨g', 0, none⟩) (nc + 1) cap').ownBlock = c ∨ ∃ k, (Value.slice (some ⟨g', 0, none⟩) (nc + 1) cap').ownBlock = some k ∧ H0 ≤ k := by
    rcases hat with hat | rfl
    · rcases hw with hw | ⟨k, hk, hk'⟩
      · left; rw [← hw, hat]; rfl
      · right; refine ⟨g', rfl, ?_⟩; rw [hk] at hat; cases hat; exact hk'
    · right; exact ⟨w.heap.size + 1, rfl, by have := h.big; omega⟩
  have hg'F : g' ≠ F := by
    intro e; subst e
    rcases hloc with hh | ⟨k, hk, hk'⟩
    · exact A.cF hh.symm
    · simp only [Value.ownBlock, Option.some.injEq] at hk; have := A.hF; omega
  have hg'1 : g' ≠ G1 := by
    intro e; subst e
    rcases hloc with hh | ⟨k, hk, hk'⟩
    · exact A.c1 hh.symm
    · simp only [Value.ownBlock, Option.some.injEq] at hk; have := A.h1; omega
  have big := h.big
  have hlt2 : ∀ g, g < w.heap.size → g < ((w.setCell ⟨G2, p, none⟩ (.int .i32 ts)).alloc (.cells #[.int .i64 p, .int .u64 (rs.getD p 0)] 29)).heap.size := by intro g hg; simp; omega
  have b1 : ∀ g, g < w.heap.size → some g ≠ vc.ownBlock → w1.heap[g]? = (w.setCell ⟨G2, p, none⟩ (.int .i32 ts)).heap[g]? := fun g hg hn => (hgr.block g (hlt2 g hg) hn).trans (Below.heap_alloc _ _ _ (by simpa using hg))
  have b2 : ∀ g, g < w.heap.size → g ≠ G2 → some g ≠ vc.ownBlock → w1.heap[g]? = w.heap[g]? := fun g hg h2 hn => (b1 g hg hn).trans (Below.heap_setCell _ _ _ _ h2)
  have hFl : F < w.heap.size := Nat.lt_of_lt_of_le A.hF big
  have h1l : G1 < w.heap.size := Nat.lt_of_lt_of_le A.h1 big
  have h2l : G2 < w.heap.size := Nat.lt_of_lt_of_le A.h2 big
  have hsz : w.heap.size ≤ w1.heap.size := by have := hgr.size; simp at this; omega
  refine ⟨rfl, ⟨by simp; omega, by simpa using h.rlen, by simpa using h.llen, ?_, ?_, _, ?_, ?_, hloc⟩, ⟨hgr.os, hgr.tape, hgr.output, by simpa using hsz, fun i hi hiF hi1 hi2 hic => ?_⟩⟩
  · have r1 : Row w1 G1 (ints .u64 rs) := h.reach.same (b2 G1 h1l A.g12 (fun h => n1 h.symm))
    have r2 := (r1.other ⟨F, 30, none⟩ (.slice (some ⟨g', 0, none⟩) (nc + 1) cap') (fun h => A.F1 h.symm)).set p (.int .u64 (bits .or .u64 (rs.getD p 0) b))
    rw [ints_set] at r2
    exact r2
  · have r0 := h.logged.set p (.int .i32 ts)
    rw [ints_set] at r0
    have r1 : Row w1 G2 (ints .i32 (ls.set p ts)) := r0.same (b1 G2 h2l (fun h => n2 h.symm))
    exact (r1.other ⟨F, 30, none⟩ _ (fun h => A.F2 h.symm)).other _ _ (fun h => A.g12 h.symm)
  · exact (((hF.same (b2 F hFl A.F2 (fun h => nF h.symm))).log (.slice (some ⟨g', 0, none⟩) (nc + 1) cap')).other ⟨G1, p, none⟩ (.int .u64 (bits .or .u64 (rs.getD p 0) b)) A.F1).same rfl
  · refine owns_same ho1 (fun g hg => ?_)
    obtain rfl : g' = g := by simpa [Value.ownBlock] using hg
    exact (Below.heap_setCell _ _ _ _ hg'1).trans (Below.heap_setCell _ _ _ _ hg'F)
  · have hnv : some i ≠ vc.ownBlock := fun h => hne i hi (fun hc => hic hc.symm) h.symm
    exact ((Below.heap_setCell _ _ _ _ hi1).trans (Below.heap_setCell _ _ _ _ hiF)).trans (b2 i (Nat.lt_of_lt_of_le hi big) hi2 hnv)
end Go.Proofs.Ybulkebqk
