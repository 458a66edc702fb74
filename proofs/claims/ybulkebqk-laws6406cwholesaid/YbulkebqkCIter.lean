/-
  indexOps' function that is ranged over: (transaction, place) of each operation.
-/
import Derived.Test.YbulkebqkCRange
import Derived.Test.YbulkebqkCPairs
namespace Go.Proofs.Ybulkebqk
open Go.RowKit Go.Shelf
set_option linter.unusedVariables false
attribute [local go_sem] Oper.semAt_some

/-- In a round an operation that is no defer statement does what it does elsewhere. -/
theorem operIn_round {n : Nat} {P : Program} {o : Oper} {a : Act} {w : World} {K : Act → World → Prop} {Q : Exit → Act → World → Prop} (l : Nat) (hd : ∀ c, o.op ≠ .defer c) (h : Oper.wpIn Fence.wide n P o a w K Q) : Oper.wpIn (Fence.wide.inRound l) n P o a w K Q := by
  unfold Oper.wpIn at h ⊢
  refine ⟨h.1, ?_⟩
  have e1 : o.semAt (Fence.wide.inRound l).round a.eval = execOp a.eval o := Oper.semAt_some l _ _ hd
  have e2 : o.semAt Fence.wide.round a.eval = execOp a.eval o := by simp [Oper.semAt, Fence.wide]
  rw [e1]
  have h2 := h.2
  rw [e2] at h2
  exact h2
theorem anyIn_round {n : Nat} {P : Program} {md : Region.Mode} {ops : Array Oper} {Q : Exit → Act → World → Prop} (l : Nat) (hd : ∀ (i : Nat) (o : Oper), ops[i]? = some o → ∀ c, o.op ≠ .defer c) : ∀ (fuel : Nat) (listed : Array Bool) (a : Act) (w : World), wpAnyIn Fence.wide n P md ops Q fuel listed a w → wpAnyIn (Fence.wide.inRound l) n P md ops Q fuel listed a w
  | 0, _, _, _, h => h
  | fuel + 1, listed, a, w, h => by
    refine ⟨h.1, fun i hi => ?_⟩
    have h2 := wpOpIn_mono (fun a' w' => anyIn_round l hd fuel (listed.setIfInBounds i true) a' w') (h.2 i hi)
    unfold wpOpIn at h2 ⊢
    cases ho : ops[i]? with
    | none => rw [ho] at h2; exact h2
    | some o =>
      rw [ho] at h2
      simp only at h2 ⊢
      split
      · rename_i hw
        rw [if_pos hw] at h2
        exact operIn_round l (hd i o ho) h2
      · rename_i hw
        rw [if_neg hw] at h2
        exact h2
theorem Blk.kept {w w' : World} {row : Option Nat} {b : Nat} {t : TypeId} {vs : List Value} (h : Blk w b t vs) (hg : w.grownBy w' row) (hr : ∀ r, row = some r → ∃ o : Obj, w.heap[r]? = some o ∧ o.isCells = false) : Blk w' b t vs := by
  refine h.same (hg.block b h.lt fun e => ?_)
  obtain ⟨o, ho, hc⟩ := hr b e.symm
  rw [Blk, ho] at h
  cases h
  simp [Obj.isCells] at hc

theorem Row.kept {w w' : World} {row : Option Nat} {b : Nat} {vs : List Value} (h : Row w b vs) (hg : w.grownBy w' row) (hr : ∀ r, row = some r → ∃ o : Obj, w.heap[r]? = some o ∧ o.isCells = false) : Row w' b vs := by
  refine h.same (hg.block b h.lt fun e => ?_)
  obtain ⟨o, ho, hc⟩ := hr b e.symm
  obtain ⟨c, t, hb, _⟩ := h
  rw [ho] at hb
  cases hb
  simp [Obj.isCells] at hc

set_option maxRecDepth 20000 in
set_option maxHeartbeats 2000000 in
theorem iter51 (n : Nat) (hn : 1 ≤ n) (Bx X G m cO n0 : Nat) (os : List IOp) (tf : Nat → Nat) (htf : ∀ k, k < m → tf k = (os.getD k default).t) (w : World) (bm : m ≤ 65536) (hm : os.length = m) (hBx : w.cell? ⟨Bx, 0, none⟩ = some (.pointer (some ⟨X, 0, none⟩))) (hX : w.cell? ⟨X, 2, none⟩ = some (.slice (some ⟨G, 0, none⟩) m cO)) (hG : Row w G (ioCells os))
    (lB : Bx < n0) (lX : X < n0) (lG : G < n0) (l0 : n0 ≤ w.heap.size) :
    SeqUpto Fence.wide n Yba.prog 51 #[.pointer (some ⟨Bx, 0, none⟩)] (fun k => #[.int .i64 (tf k : Nat), .int .i64 (k : Nat)]) m n0 w := by
  intro l J W hB hJ hY h0
  have HM : Hid (os.length = m) := hm
  have HTF : Hid (∀ k, k < m → tf k = (os.getD k default).t) := htf
  have HG : Hid (Row w G (ioCells os)) := hG
  have e0 := (hB.cell (p := ⟨Bx, 0, none⟩) lB).trans hBx
  have e1 := (hB.cell (p := ⟨X, 2, none⟩) lX).trans hX
  clear hG hm hBx hX htf
  refine callsIn_of_wp Yba.func51 rfl trivial ?_ rfl
  simp only [Yba.ntmps51, List.size_toArray, List.length_cons, List.length_nil, Nat.reduceAdd, Nat.reduceSub, Array.replicate_succ, Array.replicate_zero, List.push_toArray, List.append_toArray, List.nil_append, List.cons_append]
  gi_wp2
  gi_loopw [10] (fun i wr => ∃ k : Nat, k ≤ m ∧ i = .int .i64 k ∧ J k wr ∧ Below n0 w wr) (fun i _ => m - (intOf i).toNat)
  case atStart => exact ⟨0, Nat.zero_le _, rfl, h0, hB⟩
  case round =>
    obtain ⟨k, hk, rfl, hJk, hBk⟩ := hrel
    clear e0 e1
    by_cases hlt : k < m
    · obtain ⟨p0, p1, p2, p3⟩ := ioCells_at os k (by rw [HM.out]; exact hlt)
      have hGr := HG.out.below hBk lG
      have c0 := hGr.cell p0
      have c1 := hGr.cell p1
      have c2 := hGr.cell p2
      have c3 := hGr.cell p3
      obtain ⟨o, ho⟩ : ∃ o, o = os.getD k default := ⟨_, rfl⟩
      rw [← ho] at c0 c1 c2 c3
      have hY1 := hY k (wr.alloc (.cells #[.int .u8 o.k, .int .i64 o.t, .int .i64 o.x, .int .i64 o.p] 79)) hlt (hJ k wr _ hJk ⟨rfl, rfl, rfl, by simp, fun q hq _ => Below.heap_alloc _ _ _ hq⟩)
      rw [HTF.out k hlt, ← ho] at hY1
      obtain ⟨fn, tmps, assign, body, hy, hR⟩ := hY1
      have kn : (k : Int) < (m : Int) := by omega
      have hws := hBk.size
      clear p0 p1 p2 p3 hGr ho
      gi_wp2
      refine hR.mono ?_
      rintro e W3 ⟨rfl, hJ3, hk3⟩
      gi_wp2
      go_roundw
      case rel => exact ⟨k + 1, by omega, by go_num, hJ3, (hBk.alloc (by omega) _).trans hk3⟩
      case measure => simp [intOf]; omega
    · obtain rfl : k = m := by omega
      have kn : ¬ (k : Int) < (k : Int) := by omega
      gi_wp2
      go_end0
      exact ⟨⟨_, rfl⟩, hJk⟩
end Go.Proofs.Ybulkebqk
