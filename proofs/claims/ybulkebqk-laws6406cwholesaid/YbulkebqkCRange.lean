/-
  A range over a function whose k-th round is handed the k-th of given values (a body that never leaves): the law, by the number of rounds that are over. (The library's laws ask the body at every value of a type: here the body is asked at the k-th alone.)
-/
import Derived.RangeFuncNested
import Derived.RangeFuncBound
import Derived.RangeFuncCalls
import Derived.RangeFuncLeaves
import Derived.Shelf.Abstract
import Derived.Shelf.RegionOpen
import Derived.WalkKit
import Derived.OwnWalkIn
import Derived.TacticsInMore
import Derived.LoopNIn
import Derived.LoopIn
import Derived.Test.YbulkebqkCIop
namespace Go.Proofs.Ybulkebqk
open Go.RowKit Go.Shelf
set_option linter.unusedVariables false

/-- How the k-th round is left: on to the next. -/
def roundPost (n0 : Nat) (I : Nat → World → Prop) (k : Nat) (W : World) : Exit → Act → World → Prop
  | .normal, _, W' => KeepsOthers W W' ∧ Below n0 W W' ∧ I (k + 1) W'
  | _, _, _ => False
/-- What the function that is ranged over promises: N rounds, the k-th at encs k. -/
def SeqUpto (F : Fence) (n : Nat) (P : Program) (gf : Nat) (lb : Array Value) (encs : Nat → Array Value) (N n0 : Nat) (w : World) : Prop :=
  ∀ (l : Nat) (J : Nat → World → Prop) (W : World), Below n0 w W → (∀ k A B, J k A → A.grownBy B none → J k B) →
    (∀ k W1, k < N → J k W1 → YieldAt F (n - 1) P l (encs k) W1 fun e W' => e = .returned (.bool true) ∧ J (k + 1) W' ∧ Below n0 W1 W') →
    J 0 W → CallsIn F n P gf (#[.func (.yield l) #[] #[]] ++ lb) W fun e W' => (∃ v, e = .returned v) ∧ J N W'

theorem range_upto {F : Fence} {n : Nat} {P : Program} {g : Operand} {ps : Array Tmp} {assign body : Code} {Q : Exit → Act → World → Prop} {a : Act} {w : World}
    (hro : F.round = none) (h1 : 1 ≤ n) {gf : Nat} {lb : Array Value} (hg : a.eval g = .func (.func gf) #[] lb) (hFg : F.fn gf) (eg : ∀ args w, (callFunc gf args).run P w = .ok (.enter gf args) w)
    {encs : Nat → Array Value} {N n0 : Nat} (hn0 : n0 ≤ w.heap.size) (hseq : SeqUpto F (n - 1) P gf lb encs N n0 w) (hps : ∀ k, (encs k).size = ps.size)
    (I : Nat → World → Prop) (hI : OwnFrom w.heap.size I) (h0 : I 0 w) (a₁ : Nat → Act)
    (hassign : ∀ (l k : Nat) (W : World) (K : Act → World → Prop), K (a₁ k) W →
      assign.wpIn (F.inRound l) (n - 1 - 1) P (Exit.then K (fun _ _ _ => False)) { tmps := (ps.zip (encs k)).foldl (fun t (p, v) => t.setIfInBounds p v) a.tmps, defers := [] } W)
    (hbody : ∀ (l k : Nat) (W : World), k < N → I k W → body.wpIn (F.inRound l) (n - 1 - 1) P (roundPost n0 I k W) (a₁ k) W)
    (hdone : ∀ (D : Nat) (W : World), w.heap.size ≤ D → I N W → W.heap[D]? = some (.deferred (some [])) → Q .normal { a with defers := { target := .collected D, args := #[] } :: a.defers } W) :
    (Code.rangeFunc g ps assign body).wpIn F n P Q a w := by
  refine wpIn_rangeFunc fun fn hfn => ?_
  rw [hro]
  obtain ⟨rc, hrc⟩ : ∃ rc : LoopState → Loop, rc = fun st => { state := st, pending := none, fn, tmps := a.tmps, params := ps, assign, body, defers := w.heap.size } := ⟨_, rfl⟩
  have hD : ((w.alloc (.deferred (some []))).alloc (.loop (rc .ready))).heap[w.heap.size]? = some (.deferred (some [])) := (Below.heap_alloc _ _ _ (by simp)).trans (World.alloc_heap_new w _)
  have hL : ((w.alloc (.deferred (some []))).alloc (.loop (rc .ready))).heap[w.heap.size + 1]? = some (.loop (rc .ready)) := by
    have := World.alloc_heap_new (w.alloc (.deferred (some []))) (.loop (rc .ready))
    rwa [World.size_alloc] at this
  have hI1 : I 0 ((w.alloc (.deferred (some []))).alloc (.loop (rc .ready))) := hI.alloc _ (hI.alloc _ h0)
  have hb1 : Below n0 w ((w.alloc (.deferred (some []))).alloc (.loop (rc .ready))) := ((Below.refl _ w).alloc hn0 _).alloc (by simp; omega) _
  have hrun : (Instr.enterLoop fn a.tmps ps assign body none).run P w = .ok (w.heap.size + 1, [{ target := .collected w.heap.size, args := #[] }]) ((w.alloc (.deferred (some []))).alloc (.loop (rc .ready))) := by
    rw [hrc]; exact run_enterLoop_outer _ _ _ _ _
  generalize ((w.alloc (.deferred (some []))).alloc (.loop (rc .ready))) = W1 at hD hL hI1 hb1 hrun
  refine ⟨w.heap.size + 1, _, W1, { target := .fn (.func gf) lb, args := #[.func (.yield (w.heap.size + 1)) #[] #[]] }, W1, gf, #[.func (.yield (w.heap.size + 1)) #[] #[]] ++ lb, W1, hrun, ?_, ?_, ?_, fun _ => h1, ?_⟩
  · simp only [resolve, hg]
    simp [go_sem]
  · intro f' hf'
    simp [Target.leads] at hf'
    subst hf'
    exact hFg
  · simp [invoke, go_sem, eg]
  · -- the caller's part, and beside it the loop's record and the block of its deferred calls
    have keep : ∀ {A B : World} {k : Nat} {o : Obj}, A.grownBy B none → A.heap[k]? = some o → B.heap[k]? = some o := fun hgr hk =>
      (hgr.block _ (Array.getElem?_eq_some_iff.1 hk).1 (by simp)).trans hk
    refine (hseq (w.heap.size + 1) (fun k W => I k W ∧ W.heap[w.heap.size + 1]? = some (.loop (rc .ready)) ∧ W.heap[w.heap.size]? = some (.deferred (some []))) W1 hb1
      (fun k A B hs hgr => ⟨hI k A B none hs.1 hgr (fun r e => by cases e), keep hgr hs.2.1, keep hgr hs.2.2⟩) ?_ ⟨hI1, hL, hD⟩).mono ?_
    · rintro k W hk ⟨hi, hl, hd⟩
      have hy := run_yield (P := P) (args := encs k) hl (by rw [hrc]; exact hps k)
      rw [hrc] at hy
      refine ⟨fn, _, assign, body, hy, roundIn_of_wpIn hfn (hassign _ k W _ ⟨_, run_beginRound hl (by rw [hrc]), ?_⟩)⟩
      have hlt : w.heap.size + 1 < W.heap.size := (Array.getElem?_eq_some_iff.1 hl).1
      have hl2 : (W.putObj (w.heap.size + 1) (.loop (rc .busy))).heap[w.heap.size + 1]? = some (.loop (rc .busy)) := World.putObj_heap_same hlt
      have hd2 : (W.putObj (w.heap.size + 1) (.loop (rc .busy))).heap[w.heap.size]? = some (.deferred (some [])) := (World.putObj_heap_other (by omega)).trans hd
      have hi2 : I k (W.putObj (w.heap.size + 1) (.loop (rc .busy))) := hI.putObj _ hi (by omega) hl rfl
      have hb2 : Below n0 W (W.putObj (w.heap.size + 1) (.loop (rc .busy))) := belowK_b (w := w) hn0 W _ _ _ (by omega) hl rfl rfl
      have hbusy : { rc .ready with state := .busy } = rc .busy := by rw [hrc]
      rw [hbusy]
      refine wpIn_mono (hbody _ k _ hk hi2) ?_
      intro e a3 W3 hp
      cases e with
      | normal =>
        obtain ⟨hk3, hb3, hi3⟩ := hp
        have hl3 := hk3.same _ _ hl2 rfl
        have hr := run_endRound (P := P) none hl3
        have hready : { rc .busy with state := .ready, pending := none } = rc .ready := by rw [hrc]
        refine ⟨.bool true, W3.putObj (w.heap.size + 1) (.loop (rc .ready)), ?_, rfl, ⟨hI.putObj _ hi3 (by omega) hl3 rfl, World.putObj_heap_same (Array.getElem?_eq_some_iff.1 hl3).1, (World.putObj_heap_other (by omega)).trans (hk3.same _ _ hd2 rfl)⟩, ?_⟩
        · rw [← hready]; simpa using hr
        · exact (hb2.trans hb3).trans (belowK_b (w := w) hn0 W3 _ _ _ (by omega) hl3 rfl rfl)
      | _ => exact hp.elim
    · rintro e W2 ⟨⟨v, rfl⟩, hi, hl, hd⟩
      refine ⟨none, _, by have := run_endLoop (P := P) hl (by rw [hrc]; simp); rw [hrc] at this; exact this, hdone _ _ (Nat.le_refl _) (hI.putObj _ hi (by omega) hl rfl) ((World.putObj_heap_other (by omega)).trans hd)⟩
end Go.Proofs.Ybulkebqk
