/-
  A proof of 'Rows.LawS6406CWholeSaid' ('example.com/interleave/interleave.LawS6406CWhole'): the row's frame, typed after the frames that proof-skeleton.mjs wrote for other rows of this program, by the builder that hands on the reach. The law's own walk lies in YbulkebqkCLawW and the texts that it imports.
-/
import Derived.Test.YbulkebqkRows
import Derived.WalkKit
import Derived.ProofKit
import Derived.OpenShut
import Derived.ChangeOld
import Derived.Below
import Derived.SizedLaws
import Derived.Deep.Slices
import Derived.Test.YbulkebqkCArgs
import Derived.Test.YbulkebqkCLawW
namespace Go.Proofs.Ybulkebqk.lawS6406CWhole
open Go.ChangeShapes Go.WideShapes Go.ChangeAt Go.RowKit
set_option linter.unusedVariables false

theorem own : ownKnob Yba.prog.godebug = none := by kernel_rfl
theorem bytes98 : Yba.prog.bytesOf 98 = 3 := by kernel_rfl
theorem bytes5 : Yba.prog.bytesOf 5 = 1 := by kernel_rfl
theorem laidOut : laidOutB Yba.prog = true := by kernel_rfl

set_option maxRecDepth 100000 in
set_option maxHeartbeats 3200000 in
theorem walk (a0 : Option Addr) (len0 cap0 : Nat) (f0 : Nat → Int × Int × Int) (a1 : Option Addr) (len1 cap1 : Nat) (f1 : Nat → Int) (a2 a3 : Int) (a4 : Option Addr) (len4 cap4 : Nat) (f4 : Nat → Int × Int × Int) (w : World)
    (b0 : len0 ≤ reachBytes) (b1 : len1 ≤ reachBytes) (b4 : len4 ≤ reachBytes) (w0 : ArgO w a0 len0 f0 ∧ ByteO len0 f0) (w1 : ArgI .u8 w a1 len1 f1 ∧ ∀ i, i < len1 → 0 ≤ f1 i ∧ f1 i ≤ 255) (w2 : (Lit.int .u8 a2).wf = true) (w3 : (Lit.int .u16 a3).wf = true) (w4 : ArgO w a4 len4 f4 ∧ ByteO len4 f4) :
    Calls Yba.prog 4 #[.slice a0 len0 cap0, .slice a1 len1 cap1, .int .u8 a2, .int .u16 a3, .slice a4 len4 cap4] w fun e w' => e = .returned (.bool true) ∧ Below w.heap.size w w' := by
  have x2 := bounds_u8 w2
  have x3 := bounds_u16 w3
  by_cases hs : len0 + len1 + len4 ≤ 65536
  · exact law_pre a0 a1 a4 len0 cap0 len1 cap1 len4 cap4 f0 f4 f1 a2 a3 w hs w0.1 w0.2 w1.1 w1.2 w4.1 w4.2 ⟨x2.1, by omega⟩ ⟨x3.1, by omega⟩
  · unfold reachBytes at b0 b1 b4
    have hgt : (65536 : Int) < (len0 : Int) + (len1 : Int) + (len4 : Int) := by omega
    clear w0 w1 w4
    go_enter Yba.func4, Yba.ntmps4
    go_wp2_with fail
    go_ret
    exact ⟨rfl, Below.refl _ _⟩

set_option maxRecDepth 100000 in
theorem lifted (os : Os) (started : os.Started) (H : Type) (enc : TypeId × Value → H) :
    ReturnsInHanded {} Yba.checked os 4 .any (Rows.lawS6406CWholeSpec.pre6 enc Yba.prog Yba.f4 Rows.lawS6406CWholeRow.domain false) (Rows.lawS6406CWholeSpec.post enc Yba.prog Yba.f4 false true false false) := by
  refine returnsInHanded_of_change_sized (C := Yba.checked) own started (by kernel_rfl) Yba.func4
    (ChangeSpec.witness6 (enc := enc) (C := Yba.checked) false ⟨#[], #[.slice none 0 0, .slice none 0 0, .int .u8 0, .int .u16 0, .slice none 0 0], []⟩ 8 (by kernel_rfl) (by kernel_rfl) (by kernel_rfl) (by kernel_rfl)) ?_
  intro W base args ds gs before hval0 hW hcnd hsz0 _
  have hval : ∀ (j : Nat) t v, Yba.f4.params[j]? = some t → args[j]? = some v → Value.okWide Yba.prog W .any base t v := hval0
  have hsz1 : (DataW.weightsEach Yba.prog (Yba.f4.params.toList ++ Rows.lawS6406CWholeSpec.plain.varTypes Yba.prog) (ds ++ gs)).all (· ≤ reachBytes) = true := hsz0
  have hW' := hW
  obtain ⟨p, q, hA0, hV, rfl, hfz, hnd⟩ := hW
  have hA : DataW.TrodAll enc Yba.prog W 0 (fun _ => true) true Yba.f4.params.toList args.toList ds p := hA0
  rw [Yba.params4] at hA hval hsz1
  obtain ⟨v0, vs0, d0, ds0, p0, q0, hargs, rfl, rfl, h0, r0⟩ := trodAll_cons hA
  obtain ⟨v1, vs1, d1, ds1, p1, q1, rfl, rfl, rfl, h1, r1⟩ := trodAll_cons r0
  obtain ⟨v2, vs2, d2, ds2, p2, q2, rfl, rfl, rfl, h2, r2⟩ := trodAll_cons r1
  obtain ⟨v3, vs3, d3, ds3, p3, q3, rfl, rfl, rfl, h3, r3⟩ := trodAll_cons r2
  obtain ⟨v4, vs4, d4, ds4, p4, q4, rfl, rfl, rfl, h4, r4⟩ := trodAll_cons r3
  obtain ⟨rfl, rfl, rfl⟩ := trodAll_nil r4
  obtain rfl : args = #[v0, v1, v2, v3, v4] := by cases args; simp_all
  obtain ⟨rfl, rfl⟩ := trodVars_none hV
  obtain ⟨a0, len0, cap0, rfl⟩ := okWide_slice Yba.underlying56 (hval 0 56 v0 rfl rfl)
  have k0 := h0
  have lt0 : ∀ x ∈ p0, x.block < W.heap.size := by obtain ⟨m, hm⟩ := k0; exact DataW.trod_lt m _ _ _ hm
  obtain ⟨f0, w0⟩ : ∃ f, ArgO W a0 len0 f ∧ ByteO len0 f := by
    obtain ⟨fuel, hf⟩ := h0
    exact ops_of hf
  have b0 : len0 ≤ reachBytes := by
    obtain ⟨fuel, hf⟩ := h0
    exact sized_len hsz1 (j := 0) (t := 56) (e := 98) rfl rfl Yba.underlying56 (by rw [bytes98]; decide) hf
  obtain ⟨a1, len1, cap1, rfl⟩ := okWide_slice Yba.underlying57 (hval 1 57 v1 rfl rfl)
  have k1 := h1
  have lt1 : ∀ x ∈ p1, x.block < W.heap.size := by obtain ⟨m, hm⟩ := k1; exact DataW.trod_lt m _ _ _ hm
  obtain ⟨f1, w1⟩ : ∃ f, ArgI .u8 W a1 len1 f ∧ ∀ i, i < len1 → 0 ≤ f i ∧ f i ≤ 255 := by
    obtain ⟨fuel, hf⟩ := h1
    exact bytes_of hf
  have b1 : len1 ≤ reachBytes := by
    obtain ⟨fuel, hf⟩ := h1
    exact sized_len hsz1 (j := 1) (t := 57) (e := 5) rfl rfl Yba.underlying57 (by rw [bytes5]; decide) hf
  obtain ⟨a2, rfl, rfl, rfl, w2⟩ := open_int Yba.underlying5 (hval 2 5 v2 rfl rfl) h2
  obtain ⟨a3, rfl, rfl, rfl, w3⟩ := open_int Yba.underlying22 (hval 3 22 v3 rfl rfl) h3
  obtain ⟨a4, len4, cap4, rfl⟩ := okWide_slice Yba.underlying56 (hval 4 56 v4 rfl rfl)
  have k4 := h4
  have lt4 : ∀ x ∈ p4, x.block < W.heap.size := by obtain ⟨m, hm⟩ := k4; exact DataW.trod_lt m _ _ _ hm
  obtain ⟨f4, w4⟩ : ∃ f, ArgO W a4 len4 f ∧ ByteO len4 f := by
    obtain ⟨fuel, hf⟩ := h4
    exact ops_of hf
  have b4 : len4 ≤ reachBytes := by
    obtain ⟨fuel, hf⟩ := h4
    exact sized_len hsz1 (j := 4) (t := 56) (e := 98) rfl rfl Yba.underlying56 (by rw [bytes98]; decide) hf
  clear hA0 hval0 hsz0 hsz1
  refine (walk a0 len0 cap0 f0 a1 len1 cap1 f1 a2 a3 a4 len4 cap4 f4 W b0 b1 b4 w0 w1 w2 w3 w4).mono fun e W' ⟨he, bel⟩ => ?_
  subst he
  exact ⟨_, rfl, _, _, _, [], _, [], hW', trodAll_mk1 (shut_bool Yba.underlying4 _), (trodAll_cons_mk (Below.trod laidOut (by kernel_rfl) (of_decide_eq_true (by kernel_rfl)) k0 bel lt0) (trodAll_cons_mk (Below.trod laidOut (by kernel_rfl) (of_decide_eq_true (by kernel_rfl)) k1 bel lt1) (trodAll_cons_mk (shut_int Yba.underlying5 w2) (trodAll_cons_mk (shut_int Yba.underlying22 w3) (trodAll_cons_mk (Below.trod laidOut (by kernel_rfl) (of_decide_eq_true (by kernel_rfl)) k4 bel lt4) trodAll_mk0))))), rfl, bel.frame _, fun h => by cases h⟩

theorem over : Rows.lawS6406CWholeRow.holds Yba.pinned (OpenSpec.ofChange Rows.lawS6406CWholeSpec) :=
  OpenClaim.holds_of_wide 4 Yba.f4 rfl rfl rfl rfl rfl rfl rfl ⟨rfl, rfl, rfl, rfl, rfl⟩ rfl rfl rfl rfl rfl (by kernel_rfl) Yba.func4 (by kernel_rfl)
    (of_decide_eq_true (by kernel_rfl)) (by unfold Func.isWrapper; first | (rw [if_pos (by decide +kernel)]; kernel_rfl) | (rw [if_neg (by decide +kernel)]; exact ⟨rfl, rfl⟩))
    (fun os started H enc _ => lifted os started H enc)

/-- ████ THE STATEMENT ████ -/
theorem proved : Rows.LawS6406CWholeSaid := over
end Go.Proofs.Ybulkebqk.lawS6406CWhole
