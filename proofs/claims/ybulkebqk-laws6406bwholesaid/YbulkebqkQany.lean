/-
  The queue's maker, in one word.
-/
import Derived.Test.YbulkebqkMore
namespace Go.Proofs.Ybulkebqk
open Go.RowKit
set_option linter.unusedVariables false

theorem queue_any (m gs capS : Nat) (st : List Bool) (w : World) (hm1 : 1 ≤ (m : Int)) (hm : (m : Int) ≤ 130) (hst : st.length = m) (hS : Row w gs (bools st)) :
    Calls Yba.prog 9 #[.int .i64 m, .slice (some ⟨gs, 0, none⟩) m capS] w fun e w' => ∃ vq, e = .returned (.agg #[vq]) ∧ QAt w' w.heap.size w'.heap.size vq st m ∧ Below w.heap.size w w' := by
  by_cases h64 : (m : Int) ≤ 64
  · refine (queue1 m gs capS st w hm1 h64 hst hS).mono ?_
    rintro e w' ⟨gl, g0, cap, rfl, h1, h2, h3, r1, r2, hb⟩
    exact ⟨_, rfl, .inl ⟨by omega, by omega, gl, g0, cap, rfl, ⟨h1, r1.lt⟩, ⟨h2, r2.lt⟩, h3, r1, r2⟩, hb⟩
  · obtain ⟨n0, hn0⟩ : ∃ n0, n0 = (m + 63) / 64 := ⟨_, rfl⟩
    refine (queue2 m gs capS st w n0 (by omega) hm (by omega) (by omega) (by omega) hst hS).mono ?_
    rintro e w' ⟨gl, g0, g1, cap, rfl, h1, h2, h3, n1, n2, n3, r1, r2, r3, hb⟩
    rw [hn0] at r1 r2
    exact ⟨_, rfl, .inr ⟨by omega, by omega, gl, g0, g1, cap, rfl, ⟨h1, r1.lt⟩, ⟨h2, r2.lt⟩, ⟨h3, r3.lt⟩, n1, n2, n3, r1, r2, r3⟩, hb⟩

/-- Two queues of the same stale indices are told the same. -/
theorem sameq_any {w : World} {B1 H1 B2 H2 m : Nat} {v1 v2 : Value} {st : List Bool} (h1 : QAt w B1 H1 v1 st m) (h2 : QAt w B2 H2 v2 st m) :
    Calls Yba.prog 15 #[.agg #[v1], .agg #[v2]] w fun e w' => e = .returned (.bool true) ∧ Below w.heap.size w w' := by
  rcases h1 with ⟨p1, p2, gl, g0, cap, rfl, _, _, _, rl, r0⟩ | ⟨p1, p2, gl, g0, g1, cap, rfl, _, _, _, _, _, _, rl, r0, r1⟩
  · rcases h2 with ⟨_, _, hl, h0, cap2, rfl, _, _, _, sl, s0⟩ | ⟨q1, _⟩
    · exact sameq1 gl g0 cap hl h0 cap2 _ w (L0_len _ _ _) rl r0 sl s0
    · omega
  · rcases h2 with ⟨_, q2, _⟩ | ⟨_, _, hl, h0, h1, cap2, rfl, _, _, _, _, _, _, sl, s0, s1⟩
    · omega
    · exact sameq2 gl g0 g1 cap hl h0 h1 cap2 _ _ _ w (L0_len _ _ _) (by omega) rl r0 sl s0 r1 s1
end Go.Proofs.Ybulkebqk
