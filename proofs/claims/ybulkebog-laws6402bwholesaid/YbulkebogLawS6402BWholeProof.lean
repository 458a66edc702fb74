/-
  A proof of 'Rows.LawS6402BWholeSaid' ('example.com/mandate/mandate.LawS6402BWhole'), on the frame written by proof-skeleton.mjs. The walks lie in YbulkebogWalk0, Walk1, Walk2A, Walk2B, Walk2C: one for each pre % 3 and, at 2, for each shape of the two slices.
-/
import Derived.Test.YbulkebogRows
import Derived.WalkKit
import Derived.ProofKit
import Derived.OpenShut
import Derived.ShutString
import Derived.ChangeOld
import Derived.Below
import Derived.Test.YbulkebogWalk0
import Derived.Test.YbulkebogWalk1
import Derived.Test.YbulkebogWalk2A
import Derived.Test.YbulkebogWalk2B
import Derived.Test.YbulkebogWalk2C
namespace Go.Proofs.Ybulkebog.lawS6402BWhole
open Go.ChangeShapes Go.WideShapes Go.ChangeAt Go.RowKit
open Go.ChangeMaps (open_string shut_string)
set_option linter.unusedVariables false

theorem own : ownKnob Yba.prog.godebug = none := by kernel_rfl
theorem laidOut : laidOutB Yba.prog = true := by kernel_rfl

/-- WHAT THE WALK IS TOLD OF A SLICE OF INTEGERS THAT CAME IN: it is nil; or it leads to a row of 'cap' cells, the numbers 'zs' (the first 'len' are its elements, the rest its spare room), each fitting its kind. -/
def IsRow (k : IntKind) (w : World) (a : Option Addr) (len cap : Nat) (zs : List Int) : Prop :=
  (a = none ∧ len = 0 ∧ cap = 0 ∧ zs = []) ∨
  ∃ x, a = some x ∧ len ≤ cap ∧ cap ≤ maxLen ∧ zs.length = cap ∧ (∀ i, i < zs.length → w.cell? (x.add i) = some (.int k (zs.getD i 0))) ∧ ∀ n ∈ zs, (Lit.int k n).wf = true

theorem row_at {k : IntKind} {w : World} {a : Option Addr} {len cap : Nat} {zs : List Int} (h : IsRow k w a len cap zs) (hl : 0 < len) :
    ∃ b o, a = some ⟨b, o, none⟩ ∧ b < w.heap.size ∧ (∀ i, i < len → w.cell? ⟨b, o + i, none⟩ = some (.int k (zs.getD i 0))) ∧ ∀ i, i < len → (Lit.int k (zs.getD i 0)).wf = true := by
  rcases h with ⟨_, h, _, _⟩ | ⟨x, rfl, hlc, _, hz, hc, hw⟩
  · omega
  · obtain ⟨b, o, rfl, hc'⟩ := ints_at hc (by omega)
    have h0 := hc' 0 (by omega)
    refine ⟨b, o, rfl, ?_, fun i hi => hc' i (by omega), fun i hi => hw _ ?_⟩
    · exact World.block_lt_of_cell? _ _ h0
    · rw [List.getD_eq_getElem?_getD, List.getElem?_eq_getElem (by omega)]; simp

/-! ### STEP 1: THE WALK: the Go text returns true, AND WRITES NOTHING THAT WAS THERE: 'Below w.heap.size w w'' (Derived/Below.lean: '.refl', '.alloc', '.drew', '.setCell' at a new block, '.trans'). Open each 'IsRow' by 'rcases' AHEAD of 'go_enter'; part every test ahead of the walk. -/
theorem walk (a0 : Bool) (a1 : Int) (a2 : Option Addr) (len2 cap2 : Nat) (z2 : List Int) (a3 : Option Addr) (len3 cap3 : Nat) (z3 : List Int) (a4 : Int) (a5 : Int) (w : World) (w1 : (Lit.int .u8 a1).wf = true) (w2 : IsRow .i64 w a2 len2 cap2 z2) (w3 : IsRow .u64 w a3 len3 cap3 z3) (w4 : (Lit.int .u64 a4).wf = true) (w5 : (Lit.int .i64 a5).wf = true) :
    Calls Yba.prog 3 #[.bool a0, .int .u8 a1, .slice a2 len2 cap2, .slice a3 len3 cap3, .int .u64 a4, .int .i64 a5] w fun e w' => e = .returned (.bool true) ∧ Below w.heap.size w w' := by
  have hb := bounds_u8 w1
  by_cases hlen : (len2 : Int) ≤ 1048576
  · have hr : a1 % 3 = 0 ∨ a1 % 3 = 1 ∨ a1 % 3 = 2 := by omega
    rcases hr with h | h | h
    · exact walk0 a0 a1 a2 len2 cap2 a3 len3 cap3 a4 a5 w hb.1 hb.2 hlen (by simp [h]) (by simp [h])
    · cases a0
      · exact walk1_off a1 a2 len2 cap2 a3 len3 cap3 a4 a5 w hb.1 hb.2 hlen (by simp [h])
      · exact walk1_on a1 a2 len2 cap2 a3 len3 cap3 a4 a5 w hb.1 hb.2 hlen (by simp [h])
    · have h1 : (a1 % 3 == 1) = false := by simp [h]
      have h2 : (a1 % 3 == 2) = true := by simp [h]
      have hm3 : len3 ≤ 9223372036854775807 := by
        rcases w3 with ⟨_, h, _, _⟩ | ⟨x, _, hl, hm, _⟩
        · omega
        · unfold maxLen at hm; omega
      by_cases hz2 : len2 = 0
      · cases a0
        · exact walk2A_off w a1 a2 len2 cap2 hz2 a3 len3 cap3 a4 a5 hb.1 hb.2 hlen hm3 h1 h2
        · exact walk2A_on w a1 a2 len2 cap2 hz2 a3 len3 cap3 a4 a5 hb.1 hb.2 hlen hm3 h1 h2
      · obtain ⟨b2, o2, rfl, hb2, hc2, hw2⟩ := row_at w2 (by omega)
        by_cases hz3 : len3 = 0
        · cases a0
          · exact walk2B_off w a1 b2 o2 len2 cap2 _ hb2 hc2 hw2 a3 len3 cap3 hz3 a4 a5 hb.1 hb.2 hlen hm3 h1 h2
          · exact walk2B_on w a1 b2 o2 len2 cap2 _ hb2 hc2 hw2 a3 len3 cap3 hz3 a4 a5 hb.1 hb.2 hlen hm3 h1 h2
        · obtain ⟨b3, o3, rfl, hb3, hc3, _⟩ := row_at w3 (by omega)
          cases a0
          · exact walk2C_off w a1 b2 o2 len2 cap2 _ hb2 hc2 hw2 b3 o3 len3 cap3 _ hb3 hc3 a4 a5 hb.1 hb.2 hlen hm3 h1 h2
          · exact walk2C_on w a1 b2 o2 len2 cap2 _ hb2 hc2 hw2 b3 o3 len3 cap3 _ hb3 hc3 a4 a5 hb.1 hb.2 hlen hm3 h1 h2
  · go_enter Yba.func3, Yba.ntmps3
    go_wp2
    go_ret
    exact ⟨rfl, Below.refl _ _⟩

/-! ### THE ROW's STEP: WRITTEN OUT: LEAVE IT -/
set_option maxRecDepth 100000 in
theorem lifted (os : Os) (started : os.Started) (H : Type) (enc : TypeId × Value → H) :
    ReturnsInHanded {} Yba.checked os 3 .any (Rows.lawS6402BWholeSpec.pre6 enc Yba.prog Yba.f3 Rows.lawS6402BWholeRow.domain false) (Rows.lawS6402BWholeSpec.post enc Yba.prog Yba.f3 false true false false) := by
  refine returnsInHanded_of_change (C := Yba.checked) own started (by kernel_rfl) Yba.func3
    (ChangeSpec.witness6 (enc := enc) (C := Yba.checked) false ⟨#[], #[.bool false, .int .u8 0, .slice none 0 0, .slice none 0 0, .int .u64 0, .int .i64 0], []⟩ 8 (by kernel_rfl) (by kernel_rfl) (by kernel_rfl) (by kernel_rfl)) ?_
  intro W base args ds gs before hval0 hW hcnd _
  have hval : ∀ (j : Nat) t v, Yba.f3.params[j]? = some t → args[j]? = some v → Value.okWide Yba.prog W .any base t v := hval0
  have hW' := hW
  obtain ⟨p, q, hA0, hV, rfl, hfz, hnd⟩ := hW
  have hA : DataW.TrodAll enc Yba.prog W 0 (fun _ => true) true Yba.f3.params.toList args.toList ds p := hA0
  rw [Yba.params3] at hA hval
  obtain ⟨v0, vs0, d0, ds0, p0, q0, hargs, rfl, rfl, h0, r0⟩ := trodAll_cons hA
  obtain ⟨v1, vs1, d1, ds1, p1, q1, rfl, rfl, rfl, h1, r1⟩ := trodAll_cons r0
  obtain ⟨v2, vs2, d2, ds2, p2, q2, rfl, rfl, rfl, h2, r2⟩ := trodAll_cons r1
  obtain ⟨v3, vs3, d3, ds3, p3, q3, rfl, rfl, rfl, h3, r3⟩ := trodAll_cons r2
  obtain ⟨v4, vs4, d4, ds4, p4, q4, rfl, rfl, rfl, h4, r4⟩ := trodAll_cons r3
  obtain ⟨v5, vs5, d5, ds5, p5, q5, rfl, rfl, rfl, h5, r5⟩ := trodAll_cons r4
  obtain ⟨rfl, rfl, rfl⟩ := trodAll_nil r5
  obtain rfl : args = #[v0, v1, v2, v3, v4, v5] := by cases args; simp_all
  obtain ⟨rfl, rfl⟩ := trodVars_none hV
  obtain ⟨a0, rfl, rfl, rfl⟩ := open_bool Yba.underlying4 (hval 0 4 v0 rfl rfl) h0
  obtain ⟨a1, rfl, rfl, rfl, w1⟩ := open_int Yba.underlying5 (hval 1 5 v1 rfl rfl) h1
  obtain ⟨a2, len2, cap2, rfl⟩ := okWide_slice Yba.underlying22 (hval 2 22 v2 rfl rfl)
  have k2 := h2
  have lt2 : ∀ x ∈ p2, x.block < W.heap.size := by obtain ⟨m, hm⟩ := k2; exact DataW.trod_lt m _ _ _ hm
  obtain ⟨z2, w2⟩ : ∃ zs, IsRow .i64 W a2 len2 cap2 zs := by
    obtain ⟨fuel, hf⟩ := h2
    rcases open_ints Yba.underlying22 Yba.underlying2 (by kernel_rfl) hf with ⟨hcs, _⟩ | ⟨x, l, c, zs, hcs, _, hl, hm, hz, _, hcell, hwz⟩
    · simp [Value.cells] at hcs
      obtain ⟨rfl, rfl, rfl⟩ := hcs
      exact ⟨[], .inl ⟨rfl, rfl, rfl, rfl⟩⟩
    · simp [Value.cells] at hcs
      obtain ⟨rfl, rfl, rfl⟩ := hcs
      exact ⟨zs, .inr ⟨_, rfl, hl, hm, by simpa using hz, hcell, hwz⟩⟩
  obtain ⟨a3, len3, cap3, rfl⟩ := okWide_slice Yba.underlying23 (hval 3 23 v3 rfl rfl)
  have k3 := h3
  have lt3 : ∀ x ∈ p3, x.block < W.heap.size := by obtain ⟨m, hm⟩ := k3; exact DataW.trod_lt m _ _ _ hm
  obtain ⟨z3, w3⟩ : ∃ zs, IsRow .u64 W a3 len3 cap3 zs := by
    obtain ⟨fuel, hf⟩ := h3
    rcases open_ints Yba.underlying23 Yba.underlying24 (by kernel_rfl) hf with ⟨hcs, _⟩ | ⟨x, l, c, zs, hcs, _, hl, hm, hz, _, hcell, hwz⟩
    · simp [Value.cells] at hcs
      obtain ⟨rfl, rfl, rfl⟩ := hcs
      exact ⟨[], .inl ⟨rfl, rfl, rfl, rfl⟩⟩
    · simp [Value.cells] at hcs
      obtain ⟨rfl, rfl, rfl⟩ := hcs
      exact ⟨zs, .inr ⟨_, rfl, hl, hm, by simpa using hz, hcell, hwz⟩⟩
  obtain ⟨a4, rfl, rfl, rfl, w4⟩ := open_int Yba.underlying24 (hval 4 24 v4 rfl rfl) h4
  obtain ⟨a5, rfl, rfl, rfl, w5⟩ := open_int Yba.underlying2 (hval 5 2 v5 rfl rfl) h5
  clear hA0 hval0
  refine (walk a0 a1 a2 len2 cap2 z2 a3 len3 cap3 z3 a4 a5 W w1 w2 w3 w4 w5).mono fun e W' ⟨he, bel⟩ => ?_
  subst he
  exact ⟨_, rfl, _, _, _, [], _, [], hW', trodAll_mk1 (shut_bool Yba.underlying4 _), (trodAll_cons_mk (shut_bool Yba.underlying4 _) (trodAll_cons_mk (shut_int Yba.underlying5 w1) (trodAll_cons_mk (Below.trod laidOut (by kernel_rfl) (of_decide_eq_true (by kernel_rfl)) k2 bel lt2) (trodAll_cons_mk (Below.trod laidOut (by kernel_rfl) (of_decide_eq_true (by kernel_rfl)) k3 bel lt3) (trodAll_cons_mk (shut_int Yba.underlying24 w4) (trodAll_cons_mk (shut_int Yba.underlying2 w5) trodAll_mk0)))))), rfl, bel.frame _, fun h => by cases h⟩

theorem over : Rows.lawS6402BWholeRow.holds Yba.pinned (OpenSpec.ofChange Rows.lawS6402BWholeSpec) :=
  OpenClaim.holds_of_wide 3 Yba.f3 rfl rfl rfl rfl rfl rfl rfl ⟨rfl, rfl, rfl, rfl, rfl⟩ rfl rfl rfl rfl rfl (by kernel_rfl) Yba.func3 (by kernel_rfl)
    (of_decide_eq_true (by kernel_rfl)) (by unfold Func.isWrapper; first | (rw [if_pos (by decide +kernel)]; kernel_rfl) | (rw [if_neg (by decide +kernel)]; exact ⟨rfl, rfl⟩))
    (fun os started H enc _ => lifted os started H enc)

/-- ████ THE STATEMENT ████ -/
theorem proved : Rows.LawS6402BWholeSaid := over
end Go.Proofs.Ybulkebog.lawS6402BWhole
