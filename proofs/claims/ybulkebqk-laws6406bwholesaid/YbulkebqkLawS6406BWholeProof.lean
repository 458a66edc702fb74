/-
  A proof of 'Rows.LawS6406BWholeSaid' ('example.com/interleave/interleave.LawS6406BWhole'): the row's frame, typed after the frames that proof-skeleton.mjs wrote for other rows of this program. The law's own walk lies in YbulkebqkLaw.
-/
import Derived.Test.YbulkebqkRows
import Derived.WalkKit
import Derived.ProofKit
import Derived.OpenShut
import Derived.ChangeOld
import Derived.Below
import Derived.Deep.Slices
import Derived.Test.YbulkebqkLaw
namespace Go.Proofs.Ybulkebqk.lawS6406BWhole
open Go.ChangeShapes Go.WideShapes Go.ChangeAt Go.RowKit
set_option linter.unusedVariables false

theorem own : ownKnob Yba.prog.godebug = none := by kernel_rfl
theorem laidOut : laidOutB Yba.prog = true := by kernel_rfl

/-- What the walk is told of a slice of integers that came in. -/
def IsRow (k : IntKind) (w : World) (a : Option Addr) (len cap : Nat) (f : Nat → Int) : Prop :=
  len ≤ maxLen ∧ ((a = none ∧ len = 0 ∧ cap = 0) ∨ ∃ x, a = some x) ∧ ArgI k w a len f ∧ ∀ i, i < len → (Lit.int k (f i)).wf = true

theorem row_of {k : IntKind} {w : World} {x : Addr} {len cap : Nat} {zs : List Int} (hlc : len ≤ cap) (hm : cap ≤ maxLen) (hz : len ≤ zs.length)
    (hc : ∀ i, i < zs.length → w.cell? (x.add i) = some (.int k (zs.getD i 0))) (hw : ∀ n ∈ zs, (Lit.int k n).wf = true) : IsRow k w (some x) len cap (fun i => zs.getD i 0) := by
  refine ⟨Nat.le_trans hlc hm, .inr ⟨x, rfl⟩, fun hl => ?_, fun i hi => hw _ ?_⟩
  · obtain ⟨b, o, rfl, hc'⟩ := _root_.Go.ints_at hc (by omega)
    exact ⟨b, o, rfl, World.block_lt_of_cell? _ _ (hc' 0 (by omega)), fun i hi => hc' i (by omega)⟩
  · show zs.getD i 0 ∈ zs
    rw [List.getD_eq_getElem?_getD, List.getElem?_eq_getElem (by omega)]; simp

theorem row_nil {k : IntKind} {w : World} : IsRow k w none 0 0 (fun _ => 0) :=
  ⟨Nat.zero_le _, .inl ⟨rfl, rfl, rfl⟩, fun h => absurd h (by omega), fun i h => absurd h (by omega)⟩

/-- The Boolean that a value holds. -/
def boolOf : Value → Bool
  | .bool b => b
  | _ => false

/-- The same of a slice of Booleans. -/
def IsBools (w : World) (a : Option Addr) (len : Nat) (f : Nat → Bool) : Prop := len ≤ maxLen ∧ ArgB w a len f

theorem bools_of {w : World} {x : Addr} {len cap : Nat} {f : Nat → Bool} (hlc : len ≤ cap) (hm : cap ≤ maxLen)
    (hc : ∀ i, i < len → w.cell? (x.add i) = some (.bool (f i))) : IsBools w (some x) len f := by
  refine ⟨Nat.le_trans hlc hm, fun hl => ?_⟩
  obtain ⟨b, off, spot⟩ := x
  have hspot : spot = none := by simpa [Addr.add] using World.cell?_spot (hc 0 hl)
  subst hspot
  have hc' : ∀ i, i < len → w.cell? ⟨b, off + i, none⟩ = some (.bool (f i)) := fun i hi => by rw [← Go.WideShapes.add_plain]; exact hc i hi
  exact ⟨b, off, rfl, World.block_lt_of_cell? _ _ (hc' 0 hl), hc'⟩

theorem w64_of {n : Int} (h : (Lit.int .u64 n).wf = true) : W64 n := by
  have := bounds_u64 h
  exact ⟨this.1, by omega⟩

set_option maxRecDepth 20000 in
theorem walk (a0 : Int) (a1 : Int) (a2 : Int) (a3 : Int) (a4 : Option Addr) (len4 cap4 : Nat) (f4 : Nat → Int) (a5 : Option Addr) (len5 cap5 : Nat) (f5 : Nat → Int) (a6 : Option Addr) (len6 cap6 : Nat) (f6 : Nat → Int) (a7 : Option Addr) (len7 cap7 : Nat) (f7 : Nat → Bool) (a8 : Bool) (a9 : Option Addr) (len9 cap9 : Nat) (f9 : Nat → Int) (a10 : Int) (a11 : Option Addr) (len11 cap11 : Nat) (f11 : Nat → Int) (w : World) (w0 : (Lit.int .u8 a0).wf = true) (w1 : (Lit.int .u8 a1).wf = true) (w2 : (Lit.int .u16 a2).wf = true) (w3 : (Lit.int .u16 a3).wf = true) (w4 : IsRow .u64 w a4 len4 cap4 f4) (w5 : IsRow .u64 w a5 len5 cap5 f5) (w6 : IsRow .i32 w a6 len6 cap6 f6) (w7 : IsBools w a7 len7 f7) (w9 : IsRow .i32 w a9 len9 cap9 f9) (w10 : (Lit.int .i32 a10).wf = true) (w11 : IsRow .u64 w a11 len11 cap11 f11) :
    Calls Yba.prog 3 #[.int .u8 a0, .int .u8 a1, .int .u16 a2, .int .u16 a3, .slice a4 len4 cap4, .slice a5 len5 cap5, .slice a6 len6 cap6, .slice a7 len7 cap7, .bool a8, .slice a9 len9 cap9, .int .i32 a10, .slice a11 len11 cap11] w fun e w' => e = .returned (.bool true) ∧ Below w.heap.size w w' := by
  have b0 := bounds_u8 w0
  have b1 := bounds_u8 w1
  have b2 := bounds_u16 w2
  have b3 := bounds_u16 w3
  by_cases hnf : (len4 : Int) ≤ 4096
  · by_cases hlC : (len11 : Int) ≤ 4096
    · have x5 := w5.1
      have x6 := w6.1
      have x7 := w7.1
      have x9 := w9.1
      unfold maxLen at x5 x6 x7 x9
      have em : 1 + a0 % 130 = (((1 + a0 % 130).toNat : Nat) : Int) := by omega
      generalize hm : (1 + a0 % 130).toNat = m at em
      have ew : (len4 : Int) + 1 + a1 % 4 = ((((len4 : Int) + 1 + a1 % 4).toNat : Nat) : Int) := by omega
      generalize hwd : ((len4 : Int) + 1 + a1 % 4).toNat = words at ew
      have m1 : 1 ≤ (m : Int) := by omega
      have m2 : (m : Int) ≤ 130 := by omega
      have q1 : 1 ≤ (words : Int) := by omega
      have q2 : (words : Int) ≤ 4100 := by omega
      have q3 : (len4 : Int) + 1 ≤ (words : Int) := by omega
      have hd : 0 < (words : Int) - (len4 : Int) + 1 := by omega
      have l0 := Int.emod_nonneg a3 (Int.ne_of_gt hd)
      have l1 := Int.emod_lt_of_pos a3 hd
      have el : a3 % ((words : Int) - (len4 : Int) + 1) = (((a3 % ((words : Int) - (len4 : Int) + 1)).toNat : Nat) : Int) := (Int.toNat_of_nonneg l0).symm
      generalize hlo : (a3 % ((words : Int) - (len4 : Int) + 1)).toNat = lo at el
      have hmp : 0 < (m : Int) := by omega
      have u0 := Int.emod_nonneg a2 (Int.ne_of_gt hmp)
      have u1 := Int.emod_lt_of_pos a2 hmp
      have eu : a2 % (m : Int) = (((a2 % (m : Int)).toNat : Nat) : Int) := (Int.toNat_of_nonneg u0).symm
      generalize huu : (a2 % (m : Int)).toNat = u at eu
      have eN : (m : Int) * (words : Int) = ((m * words : Nat) : Int) := by simp
      have ep : (u : Int) * (words : Int) + (lo : Int) = ((u * words + lo : Nat) : Int) := by simp
      have n1 : m * words ≤ 130 * 4100 := Nat.mul_le_mul (by omega) (by omega)
      have n2 : 1 * 1 ≤ m * words := Nat.mul_le_mul (by omega) (by omega)
      have uw : (u + 1) * words ≤ m * words := Nat.mul_le_mul_right _ (by omega)
      rw [Nat.add_mul, Nat.one_mul] at uw
      have uc : (u : Int) * (words : Int) = ((u * words : Nat) : Int) := by simp
      exact law_walk len4 len5 len6 len7 len9 len11 m words lo u (m * words) (u * words + lo) cap4 cap5 cap6 cap7 cap9 cap11 a4 a5 a6 a7 a9 a11 f4 f5 f6 f9 f11 f7 a0 a1 a2 a3 a10 a8 w
        ⟨w4.2.2.1, w5.2.2.1, w6.2.2.1, w7.2, w9.2.2.1, w11.2.2.1, w4.2.1, fun i hi => w64_of (w4.2.2.2 i hi), fun i hi => w64_of (w5.2.2.2 i hi)⟩
        b0.1 b1.1 b2.1 b3.1 (by omega) (by omega) (by omega) (by omega) hnf hlC (by omega) (by omega) (by omega) (by omega) em ew el eu eN ep m1 m2 q1 q2 (by omega) (by omega) (by omega) (by omega) (by rw [uc]; omega) (by rw [uc]; omega)
    · go_enter Yba.func3, Yba.ntmps3
      go_wp2
      go_ret
      exact ⟨rfl, Below.refl _ _⟩
  · go_enter Yba.func3, Yba.ntmps3
    go_wp2
    go_ret
    exact ⟨rfl, Below.refl _ _⟩

set_option maxRecDepth 100000 in
theorem lifted (os : Os) (started : os.Started) (H : Type) (enc : TypeId × Value → H) :
    ReturnsInHanded {} Yba.checked os 3 .any (Rows.lawS6406BWholeSpec.pre6 enc Yba.prog Yba.f3 Rows.lawS6406BWholeRow.domain false) (Rows.lawS6406BWholeSpec.post enc Yba.prog Yba.f3 false true false false) := by
  refine returnsInHanded_of_change (C := Yba.checked) own started (by kernel_rfl) Yba.func3
    (ChangeSpec.witness6 (enc := enc) (C := Yba.checked) false ⟨#[], #[.int .u8 0, .int .u8 0, .int .u16 0, .int .u16 0, .slice none 0 0, .slice none 0 0, .slice none 0 0, .slice none 0 0, .bool false, .slice none 0 0, .int .i32 0, .slice none 0 0], []⟩ 8 (by kernel_rfl) (by kernel_rfl) (by kernel_rfl) (by kernel_rfl)) ?_
  intro W base args ds gs before hval0 hW hcnd _
  have hval : ∀ (j : Nat) t v, Yba.f3.params[j]? = some t → args[j]? = some v → Value.okWide Yba.prog W .any base t v := hval0
  have hW' := hW
  obtain ⟨p, q, hA0, hV, rfl, hfz, hnd⟩ := hW
  have hA : DataW.TrodAll enc Yba.prog W 0 (fun _ => true) true Yba.f3.params.toList args.toList ds p := hA0
  rw [Yba.params3] at hA hval
  obtain ⟨v0, vs0, d0, ds0, p0, q0, hargs, rfl, rfl, h0, r0⟩ := trodAll_cons hA
  obtain ⟨v1, vs1, d1, ds1, p1, q1, rfl, rfl, rfl, h1, r1⟩ := trodAll_cons r0
  obtain ⟨v2, vs2, d2, ds2, p2, q2, rfl, rfl, rfl, h2, r2⟩ := trodAll_cons r1
  obtain ⟨v3, vs3, d3, ds3, p3, q3, rfl, rfl, rfl, h3, r3⟩ := trodAll_cons r2
  obtain ⟨v4, vs4, d4, ds4, p4, q4, rfl, rfl, rfl, h4, r4⟩ := trodAll_cons r3
  obtain ⟨v5, vs5, d5, ds5, p5, q5, rfl, rfl, rfl, h5, r5⟩ := trodAll_cons r4
  obtain ⟨v6, vs6, d6, ds6, p6, q6, rfl, rfl, rfl, h6, r6⟩ := trodAll_cons r5
  obtain ⟨v7, vs7, d7, ds7, p7, q7, rfl, rfl, rfl, h7, r7⟩ := trodAll_cons r6
  obtain ⟨v8, vs8, d8, ds8, p8, q8, rfl, rfl, rfl, h8, r8⟩ := trodAll_cons r7
  obtain ⟨v9, vs9, d9, ds9, p9, q9, rfl, rfl, rfl, h9, r9⟩ := trodAll_cons r8
  obtain ⟨v10, vs10, d10, ds10, p10, q10, rfl, rfl, rfl, h10, r10⟩ := trodAll_cons r9
  obtain ⟨v11, vs11, d11, ds11, p11, q11, rfl, rfl, rfl, h11, r11⟩ := trodAll_cons r10
  obtain ⟨rfl, rfl, rfl⟩ := trodAll_nil r11
  obtain rfl : args = #[v0, v1, v2, v3, v4, v5, v6, v7, v8, v9, v10, v11] := by cases args; simp_all
  obtain ⟨rfl, rfl⟩ := trodVars_none hV
  obtain ⟨a0, rfl, rfl, rfl, w0⟩ := open_int Yba.underlying5 (hval 0 5 v0 rfl rfl) h0
  obtain ⟨a1, rfl, rfl, rfl, w1⟩ := open_int Yba.underlying5 (hval 1 5 v1 rfl rfl) h1
  obtain ⟨a2, rfl, rfl, rfl, w2⟩ := open_int Yba.underlying22 (hval 2 22 v2 rfl rfl) h2
  obtain ⟨a3, rfl, rfl, rfl, w3⟩ := open_int Yba.underlying22 (hval 3 22 v3 rfl rfl) h3
  obtain ⟨a4, len4, cap4, rfl⟩ := okWide_slice Yba.underlying23 (hval 4 23 v4 rfl rfl)
  have k4 := h4
  have lt4 : ∀ x ∈ p4, x.block < W.heap.size := by obtain ⟨m, hm⟩ := k4; exact DataW.trod_lt m _ _ _ hm
  obtain ⟨f4, w4⟩ : ∃ f, IsRow .u64 W a4 len4 cap4 f := by
    obtain ⟨fuel, hf⟩ := h4
    rcases open_ints Yba.underlying23 Yba.underlying26 (by kernel_rfl) hf with ⟨hcs, _⟩ | ⟨x, l, c, zs, hcs, _, hl, hm, hz, _, hcell, hwz⟩
    · simp [Value.cells] at hcs
      obtain ⟨rfl, rfl, rfl⟩ := hcs
      exact ⟨_, row_nil⟩
    · simp [Value.cells] at hcs
      obtain ⟨rfl, rfl, rfl⟩ := hcs
      exact ⟨_, row_of hl hm (by simp at hz; omega) hcell hwz⟩
  obtain ⟨a5, len5, cap5, rfl⟩ := okWide_slice Yba.underlying23 (hval 5 23 v5 rfl rfl)
  have k5 := h5
  have lt5 : ∀ x ∈ p5, x.block < W.heap.size := by obtain ⟨m, hm⟩ := k5; exact DataW.trod_lt m _ _ _ hm
  obtain ⟨f5, w5⟩ : ∃ f, IsRow .u64 W a5 len5 cap5 f := by
    obtain ⟨fuel, hf⟩ := h5
    rcases open_ints Yba.underlying23 Yba.underlying26 (by kernel_rfl) hf with ⟨hcs, _⟩ | ⟨x, l, c, zs, hcs, _, hl, hm, hz, _, hcell, hwz⟩
    · simp [Value.cells] at hcs
      obtain ⟨rfl, rfl, rfl⟩ := hcs
      exact ⟨_, row_nil⟩
    · simp [Value.cells] at hcs
      obtain ⟨rfl, rfl, rfl⟩ := hcs
      exact ⟨_, row_of hl hm (by simp at hz; omega) hcell hwz⟩
  obtain ⟨a6, len6, cap6, rfl⟩ := okWide_slice Yba.underlying24 (hval 6 24 v6 rfl rfl)
  have k6 := h6
  have lt6 : ∀ x ∈ p6, x.block < W.heap.size := by obtain ⟨m, hm⟩ := k6; exact DataW.trod_lt m _ _ _ hm
  obtain ⟨f6, w6⟩ : ∃ f, IsRow .i32 W a6 len6 cap6 f := by
    obtain ⟨fuel, hf⟩ := h6
    rcases open_ints Yba.underlying24 Yba.underlying21 (by kernel_rfl) hf with ⟨hcs, _⟩ | ⟨x, l, c, zs, hcs, _, hl, hm, hz, _, hcell, hwz⟩
    · simp [Value.cells] at hcs
      obtain ⟨rfl, rfl, rfl⟩ := hcs
      exact ⟨_, row_nil⟩
    · simp [Value.cells] at hcs
      obtain ⟨rfl, rfl, rfl⟩ := hcs
      exact ⟨_, row_of hl hm (by simp at hz; omega) hcell hwz⟩
  obtain ⟨a7, len7, cap7, rfl⟩ := okWide_slice Yba.underlying25 (hval 7 25 v7 rfl rfl)
  have k7 := h7
  have lt7 : ∀ x ∈ p7, x.block < W.heap.size := by obtain ⟨m, hm⟩ := k7; exact DataW.trod_lt m _ _ _ hm
  obtain ⟨f7, w7⟩ : ∃ f, IsBools W a7 len7 f := by
    obtain ⟨fuel, hf⟩ := h7
    rcases Go.Deep.open_slice1 Yba.underlying25 (by kernel_rfl) hf with ⟨hcs, _⟩ | ⟨x, l, c, m, n, V, D, Pl, hcs, _, hl, hm, hmm, _, hcell⟩
    · simp [Value.cells] at hcs
      obtain ⟨rfl, rfl, rfl⟩ := hcs
      exact ⟨fun _ => false, Nat.zero_le _, fun h => absurd h (by omega)⟩
    · simp [Value.cells] at hcs
      obtain ⟨rfl, rfl, rfl⟩ := hcs
      have hle : len7 ≤ m := by rw [hmm]; split <;> omega
      refine ⟨fun i => boolOf (V i), bools_of hl hm fun i hi => ?_⟩
      obtain ⟨hc, ht⟩ := hcell i (by omega)
      obtain ⟨b, hb, _⟩ := DataW.trod_bool Yba.underlying4 ht
      have hv : V i = .bool b := by simpa using hb
      rw [hc, hv]; rfl
  obtain ⟨a8, rfl, rfl, rfl⟩ := open_bool Yba.underlying4 (hval 8 4 v8 rfl rfl) h8
  obtain ⟨a9, len9, cap9, rfl⟩ := okWide_slice Yba.underlying24 (hval 9 24 v9 rfl rfl)
  have k9 := h9
  have lt9 : ∀ x ∈ p9, x.block < W.heap.size := by obtain ⟨m, hm⟩ := k9; exact DataW.trod_lt m _ _ _ hm
  obtain ⟨f9, w9⟩ : ∃ f, IsRow .i32 W a9 len9 cap9 f := by
    obtain ⟨fuel, hf⟩ := h9
    rcases open_ints Yba.underlying24 Yba.underlying21 (by kernel_rfl) hf with ⟨hcs, _⟩ | ⟨x, l, c, zs, hcs, _, hl, hm, hz, _, hcell, hwz⟩
    · simp [Value.cells] at hcs
      obtain ⟨rfl, rfl, rfl⟩ := hcs
      exact ⟨_, row_nil⟩
    · simp [Value.cells] at hcs
      obtain ⟨rfl, rfl, rfl⟩ := hcs
      exact ⟨_, row_of hl hm (by simp at hz; omega) hcell hwz⟩
  obtain ⟨a10, rfl, rfl, rfl, w10⟩ := open_int Yba.underlying21 (hval 10 21 v10 rfl rfl) h10
  obtain ⟨a11, len11, cap11, rfl⟩ := okWide_slice Yba.underlying23 (hval 11 23 v11 rfl rfl)
  have k11 := h11
  have lt11 : ∀ x ∈ p11, x.block < W.heap.size := by obtain ⟨m, hm⟩ := k11; exact DataW.trod_lt m _ _ _ hm
  obtain ⟨f11, w11⟩ : ∃ f, IsRow .u64 W a11 len11 cap11 f := by
    obtain ⟨fuel, hf⟩ := h11
    rcases open_ints Yba.underlying23 Yba.underlying26 (by kernel_rfl) hf with ⟨hcs, _⟩ | ⟨x, l, c, zs, hcs, _, hl, hm, hz, _, hcell, hwz⟩
    · simp [Value.cells] at hcs
      obtain ⟨rfl, rfl, rfl⟩ := hcs
      exact ⟨_, row_nil⟩
    · simp [Value.cells] at hcs
      obtain ⟨rfl, rfl, rfl⟩ := hcs
      exact ⟨_, row_of hl hm (by simp at hz; omega) hcell hwz⟩
  clear hA0 hval0
  refine (walk a0 a1 a2 a3 a4 len4 cap4 f4 a5 len5 cap5 f5 a6 len6 cap6 f6 a7 len7 cap7 f7 a8 a9 len9 cap9 f9 a10 a11 len11 cap11 f11 W w0 w1 w2 w3 w4 w5 w6 w7 w9 w10 w11).mono fun e W' ⟨he, bel⟩ => ?_
  subst he
  exact ⟨_, rfl, _, _, _, [], _, [], hW', trodAll_mk1 (shut_bool Yba.underlying4 _), (trodAll_cons_mk (shut_int Yba.underlying5 w0) (trodAll_cons_mk (shut_int Yba.underlying5 w1) (trodAll_cons_mk (shut_int Yba.underlying22 w2) (trodAll_cons_mk (shut_int Yba.underlying22 w3) (trodAll_cons_mk (Below.trod laidOut (by kernel_rfl) (of_decide_eq_true (by kernel_rfl)) k4 bel lt4) (trodAll_cons_mk (Below.trod laidOut (by kernel_rfl) (of_decide_eq_true (by kernel_rfl)) k5 bel lt5) (trodAll_cons_mk (Below.trod laidOut (by kernel_rfl) (of_decide_eq_true (by kernel_rfl)) k6 bel lt6) (trodAll_cons_mk (Below.trod laidOut (by kernel_rfl) (of_decide_eq_true (by kernel_rfl)) k7 bel lt7) (trodAll_cons_mk (shut_bool Yba.underlying4 _) (trodAll_cons_mk (Below.trod laidOut (by kernel_rfl) (of_decide_eq_true (by kernel_rfl)) k9 bel lt9) (trodAll_cons_mk (shut_int Yba.underlying21 w10) (trodAll_cons_mk (Below.trod laidOut (by kernel_rfl) (of_decide_eq_true (by kernel_rfl)) k11 bel lt11) trodAll_mk0)))))))))))), rfl, bel.frame _, fun h => by cases h⟩

theorem over : Rows.lawS6406BWholeRow.holds Yba.pinned (OpenSpec.ofChange Rows.lawS6406BWholeSpec) :=
  OpenClaim.holds_of_wide 3 Yba.f3 rfl rfl rfl rfl rfl rfl rfl ⟨rfl, rfl, rfl, rfl, rfl⟩ rfl rfl rfl rfl rfl (by kernel_rfl) Yba.func3 (by kernel_rfl)
    (of_decide_eq_true (by kernel_rfl)) (by unfold Func.isWrapper; first | (rw [if_pos (by decide +kernel)]; kernel_rfl) | (rw [if_neg (by decide +kernel)]; exact ⟨rfl, rfl⟩))
    (fun os started H enc _ => lifted os started H enc)

/-- ████ THE STATEMENT ████ -/
theorem proved : Rows.LawS6406BWholeSaid := over
end Go.Proofs.Ybulkebqk.lawS6406BWhole
