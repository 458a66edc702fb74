/-
  The law's own walk.
-/
import Derived.Test.YbulkebqkEnd
import Derived.Deep.DeepCutAuto
namespace Go.Proofs.Ybulkebqk
open Go.RowKit
set_option linter.unusedVariables false

theorem size26 : (Yba.prog.info? 26).map (·.size) = some 1 := by kernel_rfl
theorem size21 : (Yba.prog.info? 21).map (·.size) = some 1 := by kernel_rfl
theorem size4 : (Yba.prog.info? 4).map (·.size) = some 1 := by kernel_rfl

/-- What the law's arguments are. -/
structure Args (w : World) (nf lenR lenL lenS lenG lenC m words lo u N p cf : Nat) (a4 a5 a6 a7 a9 a11 : Option Addr) (f fR fL fG fC : Nat → Int) (fS : Nat → Bool) (a0 a1 a2 a3 ts : Int) : Prop where
  h4 : ArgI .u64 w a4 nf f
  h5 : ArgI .u64 w a5 lenR fR
  h6 : ArgI .i32 w a6 lenL fL
  h7 : ArgB w a7 lenS fS
  h9 : ArgI .i32 w a9 lenG fG
  h11 : ArgI .u64 w a11 lenC fC
  nil4 : (a4 = none ∧ nf = 0 ∧ cf = 0) ∨ ∃ x, a4 = some x
  w4 : ∀ i, i < nf → W64 (f i)
  w5 : ∀ i, i < lenR → W64 (fR i)

theorem own_form {w : World} {base n : Nat} {v : Value} {xs : List Value} (h : w.ownsRow base 29 2 v n xs) : ∃ a c, v = .slice a n c := by
  rcases h.2 with ⟨h, h'⟩ | ⟨g, cap, _, h, _⟩
  · exact ⟨none, 0, by rw [h']; exact h⟩
  · exact ⟨_, _, h⟩
theorem q_form {w : World} {B H m : Nat} {v : Value} {st : List Bool} (h : QAt w B H v st m) : ∃ g n c, v = .slice (some ⟨g, 0, none⟩) n c := by
  rcases h with ⟨_, _, gl, g0, cap, h, _⟩ | ⟨_, _, gl, g0, g1, cap, h, _⟩ <;> exact ⟨_, _, _, h⟩
theorem bools_one (bs : List Bool) : ∀ u ∈ bools bs, u.oneCell' = true := by
  intro u hu
  obtain ⟨z, _, rfl⟩ := List.mem_map.1 hu
  rfl

def g1 (lenR : Nat) (fR : Nat → Int) (j : Nat) : Int := if 0 < lenR then fR (j % lenR) else 0
def g3 (lenL words : Nat) (fL : Nat → Int) (j : Nat) : Int := if 0 < lenL then fL (j % lenL) else words
def g4 (lenS : Nat) (fS : Nat → Bool) (j : Nat) : Bool := if 0 < lenS then fS (j % lenS) else false

theorem ix_arg {k : IntKind} {T E : TypeId} {w : World} {a : Option Addr} {len : Nat} {f : Nat → Int} (h : ArgI k w a len f) (hl : 0 < len) (cap j : Nat) (hT : Yba.prog.underlying T = some (.slice E)) (hE : (Yba.prog.info? E).map (·.size) = some 1) {wr : World} (hb : Below w.heap.size w wr) :
    ∃ b o, (∀ wx : World, (Instr.indexAt T (.slice a len cap) (.int .i64 ((j : Int) % (len : Int)))).run Yba.prog wx = .ok (.pointer (some ⟨b, o + j % len, none⟩)) wx) ∧ wr.cell? ⟨b, o + j % len, none⟩ = some (.int k (f (j % len))) ∧ b < w.heap.size := by
  obtain ⟨b, o, rfl, hbl, hc⟩ := h hl
  have hj := Nat.mod_lt j hl
  exact ⟨b, o, fun wx => ix_one hT hE _ (j % len) (by simp) hj wx, (hb.cell (p := ⟨b, o + j % len, none⟩) hbl).trans (hc _ hj), hbl⟩
theorem ix_argB {T E : TypeId} {w : World} {a : Option Addr} {len : Nat} {f : Nat → Bool} (h : ArgB w a len f) (hl : 0 < len) (cap j : Nat) (hT : Yba.prog.underlying T = some (.slice E)) (hE : (Yba.prog.info? E).map (·.size) = some 1) {wr : World} (hb : Below w.heap.size w wr) :
    ∃ b o, (∀ wx : World, (Instr.indexAt T (.slice a len cap) (.int .i64 ((j : Int) % (len : Int)))).run Yba.prog wx = .ok (.pointer (some ⟨b, o + j % len, none⟩)) wx) ∧ wr.cell? ⟨b, o + j % len, none⟩ = some (.bool (f (j % len))) ∧ b < w.heap.size := by
  obtain ⟨b, o, rfl, hbl, hc⟩ := h hl
  have hj := Nat.mod_lt j hl
  exact ⟨b, o, fun wx => ix_one hT hE _ (j % len) (by simp) hj wx, (hb.cell (p := ⟨b, o + j % len, none⟩) hbl).trans (hc _ hj), hbl⟩
theorem ix_argk {k : IntKind} {T E : TypeId} {w : World} {a : Option Addr} {len : Nat} {f : Nat → Int} (h : ArgI k w a len f) (cap j : Nat) (hj : j < len) (hT : Yba.prog.underlying T = some (.slice E)) (hE : (Yba.prog.info? E).map (·.size) = some 1) {wr : World} (hb : Below w.heap.size w wr) :
    ∃ b o, (∀ wx : World, (Instr.indexAt T (.slice a len cap) (.int .i64 (j : Int))).run Yba.prog wx = .ok (.pointer (some ⟨b, o + j, none⟩)) wx) ∧ wr.cell? ⟨b, o + j, none⟩ = some (.int k (f j)) ∧ b < w.heap.size := by
  obtain ⟨b, o, rfl, hbl, hc⟩ := h (by omega)
  exact ⟨b, o, fun wx => ix_one hT hE _ j rfl hj wx, (hb.cell (p := ⟨b, o + j, none⟩) hbl).trans (hc _ hj), hbl⟩

set_option maxHeartbeats 8000000 in
set_option maxRecDepth 20000 in
theorem law_walk (nf lenR lenL lenS lenG lenC m words lo u N p cf capR capL capS capG capC : Nat) (a4 a5 a6 a7 a9 a11 : Option Addr) (f fR fL fG fC : Nat → Int) (fS : Nat → Bool) (a0 a1 a2 a3 ts : Int) (tr : Bool) (w : World)
    (A : Args w nf lenR lenL lenS lenG lenC m words lo u N p cf a4 a5 a6 a7 a9 a11 f fR fL fG fC fS a0 a1 a2 a3 ts)
    (b0 : 0 ≤ a0) (b1 : 0 ≤ a1) (b2 : 0 ≤ a2) (b3 : 0 ≤ a3) (t0 : a0 ≤ 255) (t1 : a1 ≤ 255) (t2 : a2 ≤ 65535) (t3 : a3 ≤ 65535) (hnf : (nf : Int) ≤ 4096) (hlC : (lenC : Int) ≤ 4096)
    (bR : (lenR : Int) ≤ 9223372036854775807) (bL : (lenL : Int) ≤ 9223372036854775807) (bS : (lenS : Int) ≤ 9223372036854775807) (bG : (lenG : Int) ≤ 9223372036854775807)
    (em : 1 + a0 % 130 = (m : Int)) (ew : (nf : Int) + 1 + a1 % 4 = (words : Int)) (el : a3 % ((words : Int) - (nf : Int) + 1) = (lo : Int)) (eu : a2 % (m : Int) = (u : Int)) (eN : (m : Int) * (words : Int) = (N : Int)) (ep : (u : Int) * (words : Int) + (lo : Int) = (p : Int))
    (m1 : 1 ≤ (m : Int)) (m2 : (m : Int) ≤ 130) (w1 : 1 ≤ (words : Int)) (w2 : (words : Int) ≤ 4100) (l1 : (lo : Int) + (nf : Int) ≤ (words : Int)) (u1 : (u : Int) < (m : Int)) (n1 : (N : Int) ≤ 533000) (n2 : 1 ≤ (N : Int)) (uw0 : (0 : Int) ≤ (u : Int) * (words : Int)) (uw1 : (u : Int) * (words : Int) + (words : Int) ≤ (N : Int)) :
    Calls Yba.prog 3 #[.int .u8 a0, .int .u8 a1, .int .u16 a2, .int .u16 a3, .slice a4 nf cf, .slice a5 lenR capR, .slice a6 lenL capL, .slice a7 lenS capS, .bool tr, .slice a9 lenG capG, .int .i32 ts, .slice a11 lenC capC] w fun e w' => e = .returned (.bool true) ∧ Below w.heap.size w w' := by
  have hmkN : ∀ wx : World, (Instr.makeSlice 23 (.int .i64 (N : Int)) (.int .i64 (N : Int))).run Yba.prog wx = .ok (.slice (some ⟨wx.heap.size, 0, none⟩) N N) (wx.alloc (.cells (madeCells #[.int .u64 0] N) 26)) := fun wx => run_make_row' (P := Yba.prog) 23 26 (.int .u64 0) 8 Yba.underlying23 Yba.info26 rfl .i64 .i64 N (by omega) (by omega) wx
  have hmkL : ∀ wx : World, (Instr.makeSlice 24 (.int .i64 (N : Int)) (.int .i64 (N : Int))).run Yba.prog wx = .ok (.slice (some ⟨wx.heap.size, 0, none⟩) N N) (wx.alloc (.cells (madeCells #[.int .i32 0] N) 21)) := fun wx => run_make_row' (P := Yba.prog) 24 21 (.int .i32 0) 4 Yba.underlying24 Yba.info21 rfl .i64 .i64 N (by omega) (by omega) wx
  have hmkm : ∀ wx : World, (Instr.makeSlice 24 (.int .i64 (m : Int)) (.int .i64 (m : Int))).run Yba.prog wx = .ok (.slice (some ⟨wx.heap.size, 0, none⟩) m m) (wx.alloc (.cells (madeCells #[.int .i32 0] m) 21)) := fun wx => run_make_row' (P := Yba.prog) 24 21 (.int .i32 0) 4 Yba.underlying24 Yba.info21 rfl .i64 .i64 m (by omega) (by omega) wx
  have hmkb : ∀ wx : World, (Instr.makeSlice 25 (.int .i64 (m : Int)) (.int .i64 (m : Int))).run Yba.prog wx = .ok (.slice (some ⟨wx.heap.size, 0, none⟩) m m) (wx.alloc (.cells (madeCells #[.bool false] m) 4)) := fun wx => run_make_row' (P := Yba.prog) 25 4 (.bool false) 1 Yba.underlying25 Yba.info4 rfl .i64 .i64 m (by omega) (by omega) wx
  have HA : Hid (Args w nf lenR lenL lenS lenG lenC m words lo u N p cf a4 a5 a6 a7 a9 a11 f fR fL fG fC fS a0 a1 a2 a3 ts) := A
  clear A
  go_enter Yba.func3, Yba.ntmps3
  go_wp2_with fail
  rw [el, eu]
  go_loopw [32] (fun i wr => ∃ k : Nat, k ≤ N ∧ i = .int .i64 k ∧ Row wr w.heap.size (ints .u64 (part 0 N (g1 lenR fR) k)) ∧ Row wr (w.heap.size + 1) (ints .i32 (part 0 N (g1 lenG fG) k)) ∧ Below w.heap.size w wr) (fun i _ => N - (intOf i).toNat)
  case atStart =>
    refine ⟨0, Nat.zero_le _, rfl, ?_, ?_, ((Below.refl _ _).alloc (Nat.le_refl _) _).alloc (by simp) _⟩
    · have h := (row_made w (.int .u64 0) N 26).alloc (.cells (madeCells #[.int .i32 0] N) 21)
      rw [part_zero]; simpa [ints] using h
    · have h := row_made (w.alloc (.cells (madeCells #[.int .u64 0] N) 26)) (.int .i32 0) N 21
      rw [part_zero]; simpa [ints] using h
  case round =>
    obtain ⟨k, hk, rfl, hR1, hR2, hB⟩ := hrel
    clear hmkN hmkL em ew el eu eN
    by_cases hlt : k < N
    · as_aux_lemma =>
      clear hmkm hmkb ep
      have cR : wr.cell? ⟨w.heap.size, k, none⟩ = some (.int .u64 ((part 0 N (g1 lenR fR) k).getD k 0)) := hR1.cell (ints_at _ _ _ (by rw [part_len]; exact hlt))
      have cG : wr.cell? ⟨w.heap.size + 1, k, none⟩ = some (.int .i32 ((part 0 N (g1 lenG fG) k).getD k 0)) := hR2.cell (ints_at _ _ _ (by rw [part_len]; exact hlt))
      obtain ⟨xR, hxR⟩ : ∃ x, x = (part 0 N (g1 lenR fR) k).getD k 0 := ⟨_, rfl⟩
      obtain ⟨xG, hxG⟩ : ∃ x, x = (part 0 N (g1 lenG fG) k).getD k 0 := ⟨_, rfl⟩
      rw [← hxR] at cR
      rw [← hxG] at cG
      have fR' := hR1.frozen k
      have fG' := hR2.frozen k
      have HR1 : Hid (Row wr w.heap.size (ints .u64 (part 0 N (g1 lenR fR) k))) := hR1
      have HR2 : Hid (Row wr (w.heap.size + 1) (ints .i32 (part 0 N (g1 lenG fG) k))) := hR2
      clear hR1 hR2 hxR hxG
      have kN : (k : Int) < (N : Int) := by omega
      by_cases hzR : 0 < lenR
      · obtain ⟨b, o, hix, hcx, hbl⟩ := ix_arg HA.out.h5 hzR capR k Yba.underlying23 size26 hB
        have hzRI : (0 : Int) < (lenR : Int) := by omega
        obtain ⟨y, hy⟩ : ∃ y, y = fR (k % lenR) := ⟨_, rfl⟩
        have HY : Hid (y = g1 lenR fR k) := by show y = g1 lenR fR k; rw [g1, if_pos hzR, hy]
        rw [← hy] at hcx
        clear hy
        have HN1 : Hid (Row (wr.setCell ⟨w.heap.size, k, none⟩ (.int .u64 y)) w.heap.size (ints .u64 (part 0 N (g1 lenR fR) (k + 1)))) := by
          show Row _ _ _
          rw [← part_set, ← HY.out, ← ints_set]; exact HR1.out.set k _
        by_cases hzG : 0 < lenG
        · obtain ⟨b', o', hix', hcx', hbl'⟩ := ix_arg HA.out.h9 hzG capG k Yba.underlying24 size21 hB
          have hzGI : (0 : Int) < (lenG : Int) := by omega
          obtain ⟨z, hz⟩ : ∃ z, z = fG (k % lenG) := ⟨_, rfl⟩
          have HZ : Hid (z = g1 lenG fG k) := by show z = g1 lenG fG k; rw [g1, if_pos hzG, hz]
          rw [← hz] at hcx'
          clear hz
          go_wp2_with fail
          go_roundw
          case rel =>
            refine ⟨k + 1, by omega, by go_num, HN1.out.other ⟨w.heap.size + 1, k, none⟩ _ (by simp), ?_, (hB.setCell (p := ⟨w.heap.size, k, none⟩) (Nat.le_refl _) _).setCell (p := ⟨w.heap.size + 1, k, none⟩) (by simp) _⟩
            rw [← part_set, ← HZ.out, ← ints_set]; exact (HR2.out.other ⟨w.heap.size, k, none⟩ _ (by simp)).set k _
          case measure => simp [intOf]; omega
        · have hzGI : ¬ (0 : Int) < (lenG : Int) := by omega
          go_wp2_with fail
          go_roundw
          case rel =>
            refine ⟨k + 1, by omega, by go_num, HN1.out, ?_, hB.setCell (p := ⟨w.heap.size, k, none⟩) (Nat.le_refl _) _⟩
            rw [part_skip _ _ _ _ (by rw [g1, if_neg hzG])]; exact HR2.out.other ⟨w.heap.size, k, none⟩ _ (by simp)
          case measure => simp [intOf]; omega
      · have hzRI : ¬ (0 : Int) < (lenR : Int) := by omega
        have HN1 : Hid (Row wr w.heap.size (ints .u64 (part 0 N (g1 lenR fR) (k + 1)))) := by
          show Row _ _ _
          rw [part_skip _ _ _ _ (by rw [g1, if_neg hzR])]; exact HR1.out
        by_cases hzG : 0 < lenG
        · obtain ⟨b', o', hix', hcx', hbl'⟩ := ix_arg HA.out.h9 hzG capG k Yba.underlying24 size21 hB
          have hzGI : (0 : Int) < (lenG : Int) := by omega
          obtain ⟨z, hz⟩ : ∃ z, z = fG (k % lenG) := ⟨_, rfl⟩
          have HZ : Hid (z = g1 lenG fG k) := by show z = g1 lenG fG k; rw [g1, if_pos hzG, hz]
          rw [← hz] at hcx'
          clear hz
          go_wp2_with fail
          go_roundw
          case rel =>
            refine ⟨k + 1, by omega, by go_num, HN1.out.other ⟨w.heap.size + 1, k, none⟩ _ (by simp), ?_, hB.setCell (p := ⟨w.heap.size + 1, k, none⟩) (by simp) _⟩
            rw [← part_set, ← HZ.out, ← ints_set]; exact HR2.out.set k _
          case measure => simp [intOf]; omega
        · have hzGI : ¬ (0 : Int) < (lenG : Int) := by omega
          go_wp2_with fail
          go_roundw
          case rel =>
            refine ⟨k + 1, by omega, by go_num, HN1.out, ?_, hB⟩
            rw [part_skip _ _ _ _ (by rw [g1, if_neg hzG])]; exact HR2.out
          case measure => simp [intOf]; omega
    · have hkN : N = k := by omega
      subst hkN
      rw [part_full] at hR1 hR2
      obtain ⟨W1, hW1⟩ : ∃ W1, W1 = wr := ⟨_, rfl⟩
      subst hW1
      have HR1 : Hid (Row W1 w.heap.size (ints .u64 (full N (g1 lenR fR)))) := hR1
      have HR2 : Hid (Row W1 (w.heap.size + 1) (ints .i32 (full N (g1 lenG fG)))) := hR2
      have hz1 := hR2.lt
      clear hR1 hR2 hlt hk
      go_wp2_with fail
      go_loopw [35] (fun i wr => ∃ k : Nat, k ≤ m ∧ i = .int .i64 k ∧ Row wr W1.heap.size (ints .i32 (part 0 m (g3 lenL words fL) k)) ∧ Row wr (W1.heap.size + 1) (bools (part false m (g4 lenS fS) k)) ∧ Below W1.heap.size W1 wr) (fun i _ => m - (intOf i).toNat)
      case atStart =>
        refine ⟨0, Nat.zero_le _, rfl, ?_, ?_, ((Below.refl _ _).alloc (Nat.le_refl _) _).alloc (by simp) _⟩
        · have h := (row_made W1 (.int .i32 0) m 21).alloc (.cells (madeCells #[.bool false] m) 4)
          rw [part_zero]; simpa [ints] using h
        · have h := row_made (W1.alloc (.cells (madeCells #[.int .i32 0] m) 21)) (.bool false) m 4
          rw [part_zero]; simpa [bools] using h
      case round =>
        obtain ⟨k, hk, rfl, hR3, hR4, hB2⟩ := hrel
        clear hmkm hmkb
        by_cases hlt : k < m
        · as_aux_lemma =>
          clear ep
          have hBw : Below w.heap.size w wr := hB.trans (hB2.mono (by omega))
          have cL' : wr.cell? ⟨W1.heap.size, k, none⟩ = some (.int .i32 ((part 0 m (g3 lenL words fL) k).getD k 0)) := hR3.cell (ints_at _ _ _ (by rw [part_len]; exact hlt))
          have cS : wr.cell? ⟨W1.heap.size + 1, k, none⟩ = some (.bool ((part false m (g4 lenS fS) k).getD k false)) := hR4.cell (bools_at _ _ (by rw [part_len]; exact hlt))
          obtain ⟨xL, hxL⟩ : ∃ x, x = (part 0 m (g3 lenL words fL) k).getD k 0 := ⟨_, rfl⟩
          obtain ⟨xS, hxS⟩ : ∃ x, x = (part false m (g4 lenS fS) k).getD k false := ⟨_, rfl⟩
          rw [← hxL] at cL'
          rw [← hxS] at cS
          have fL' := hR3.frozen k
          have fS' := hR4.frozen k
          have HR3 : Hid (Row wr W1.heap.size (ints .i32 (part 0 m (g3 lenL words fL) k))) := hR3
          have HR4 : Hid (Row wr (W1.heap.size + 1) (bools (part false m (g4 lenS fS) k))) := hR4
          clear hR3 hR4 hxL hxS
          have kN : (k : Int) < (m : Int) := by omega
          by_cases hzL : 0 < lenL
          · obtain ⟨b, o, hix, hcx, hbl⟩ := ix_arg HA.out.h6 hzL capL k Yba.underlying24 size21 hBw
            have hbW : b ≠ W1.heap.size := by omega
            have hzLI : (0 : Int) < (lenL : Int) := by omega
            obtain ⟨y, hy⟩ : ∃ y, y = fL (k % lenL) := ⟨_, rfl⟩
            have HY : Hid (y = g3 lenL words fL k) := by show y = g3 lenL words fL k; rw [g3, if_pos hzL, hy]
            rw [← hy] at hcx
            clear hy
            have HN3 : Hid (Row ((wr.setCell ⟨W1.heap.size, k, none⟩ (.int .i32 words)).setCell ⟨W1.heap.size, k, none⟩ (.int .i32 y)) W1.heap.size (ints .i32 (part 0 m (g3 lenL words fL) (k + 1)))) := by
              show Row _ _ _
              have h := (HR3.out.set k (.int .i32 words)).set k (.int .i32 y)
              rw [List.set_set, ints_set, HY.out, part_set] at h
              rw [HY.out]; exact h
            by_cases hzS : 0 < lenS
            · obtain ⟨b', o', hix', hcx', hbl'⟩ := ix_argB HA.out.h7 hzS capS k Yba.underlying25 size4 hBw
              have hbW' : b' ≠ W1.heap.size := by omega
              have hzSI : (0 : Int) < (lenS : Int) := by omega
              obtain ⟨z, hz⟩ : ∃ z, z = fS (k % lenS) := ⟨_, rfl⟩
              have HZ : Hid (z = g4 lenS fS k) := by show z = g4 lenS fS k; rw [g4, if_pos hzS, hz]
              rw [← hz] at hcx'
              clear hz
              go_wp2_with fail
              go_roundw
              case rel =>
                refine ⟨k + 1, by omega, by go_num, HN3.out.other ⟨W1.heap.size + 1, k, none⟩ _ (by simp), ?_, ((hB2.setCell (p := ⟨W1.heap.size, k, none⟩) (Nat.le_refl _) _).setCell (p := ⟨W1.heap.size, k, none⟩) (Nat.le_refl _) _).setCell (p := ⟨W1.heap.size + 1, k, none⟩) (by simp) _⟩
                rw [← part_set, ← HZ.out, ← bools_set]; exact ((HR4.out.other ⟨W1.heap.size, k, none⟩ _ (by simp)).other ⟨W1.heap.size, k, none⟩ _ (by simp)).set k _
              case measure => simp [intOf]; omega
            · have hzSI : ¬ (0 : Int) < (lenS : Int) := by omega
              go_wp2_with fail
              go_roundw
              case rel =>
                refine ⟨k + 1, by omega, by go_num, HN3.out, ?_, (hB2.setCell (p := ⟨W1.heap.size, k, none⟩) (Nat.le_refl _) _).setCell (p := ⟨W1.heap.size, k, none⟩) (Nat.le_refl _) _⟩
                rw [part_skip _ _ _ _ (by rw [g4, if_neg hzS])]; exact (HR4.out.other ⟨W1.heap.size, k, none⟩ _ (by simp)).other ⟨W1.heap.size, k, none⟩ _ (by simp)
              case measure => simp [intOf]; omega
          · have hzLI : ¬ (0 : Int) < (lenL : Int) := by omega
            have HN3 : Hid (Row (wr.setCell ⟨W1.heap.size, k, none⟩ (.int .i32 words)) W1.heap.size (ints .i32 (part 0 m (g3 lenL words fL) (k + 1)))) := by
              show Row _ _ _
              have h := HR3.out.set k (.int .i32 words)
              have e : (words : Int) = g3 lenL words fL k := by rw [g3, if_neg hzL]
              rw [ints_set, e, part_set] at h
              rw [e]; exact h
            by_cases hzS : 0 < lenS
            · obtain ⟨b', o', hix', hcx', hbl'⟩ := ix_argB HA.out.h7 hzS capS k Yba.underlying25 size4 hBw
              have hbW' : b' ≠ W1.heap.size := by omega
              have hzSI : (0 : Int) < (lenS : Int) := by omega
              obtain ⟨z, hz⟩ : ∃ z, z = fS (k % lenS) := ⟨_, rfl⟩
              have HZ : Hid (z = g4 lenS fS k) := by show z = g4 lenS fS k; rw [g4, if_pos hzS, hz]
              rw [← hz] at hcx'
              clear hz
              go_wp2_with fail
              go_roundw
              case rel =>
                refine ⟨k + 1, by omega, by go_num, HN3.out.other ⟨W1.heap.size + 1, k, none⟩ _ (by simp), ?_, (hB2.setCell (p := ⟨W1.heap.size, k, none⟩) (Nat.le_refl _) _).setCell (p := ⟨W1.heap.size + 1, k, none⟩) (by simp) _⟩
                rw [← part_set, ← HZ.out, ← bools_set]; exact (HR4.out.other ⟨W1.heap.size, k, none⟩ _ (by simp)).set k _
              case measure => simp [intOf]; omega
            · have hzSI : ¬ (0 : Int) < (lenS : Int) := by omega
              go_wp2_with fail
              go_roundw
              case rel =>
                refine ⟨k + 1, by omega, by go_num, HN3.out, ?_, hB2.setCell (p := ⟨W1.heap.size, k, none⟩) (Nat.le_refl _) _⟩
                rw [part_skip _ _ _ _ (by rw [g4, if_neg hzS])]; exact HR4.out.other ⟨W1.heap.size, k, none⟩ _ (by simp)
              case measure => simp [intOf]; omega
        · have hkm : m = k := by omega
          subst hkm
          rw [part_full] at hR3 hR4
          obtain ⟨W2, hW2⟩ : ∃ W2, W2 = wr := ⟨_, rfl⟩
          subst hW2
          have hR1' : Row W2 w.heap.size (ints .u64 (full N (g1 lenR fR))) := HR1.out.below hB2 (by omega)
          have hR2' : Row W2 (w.heap.size + 1) (ints .i32 (full N (g1 lenG fG))) := HR2.out.below hB2 (by omega)
          have hBw : Below w.heap.size w W2 := hB.trans (hB2.mono (by omega))
          have hz2 := hR4.lt
          have HR1' : Hid (Row W2 w.heap.size (ints .u64 (full N (g1 lenR fR)))) := hR1'
          have HR2' : Hid (Row W2 (w.heap.size + 1) (ints .i32 (full N (g1 lenG fG)))) := hR2'
          have HR3 : Hid (Row W2 W1.heap.size (ints .i32 (full m (g3 lenL words fL)))) := hR3
          have HR4 : Hid (Row W2 (W1.heap.size + 1) (bools (full m (g4 lenS fS)))) := hR4
          obtain ⟨G3, hG3⟩ : ∃ G3, G3 = W1.heap.size := ⟨_, rfl⟩
          rw [← hG3] at HR3 HR4 hz1 hz2 ⊢
          clear hR1' hR2' hR3 hR4 hlt hk HR1 HR2 hB hB2 hG3
          go_wp2_with fail
          obtain ⟨i0, hi, hz0, hzz1, hzz2⟩ := info_parts Yba.info29
          go_loopw [36, 37] (fun v i wr => ∃ k : Nat, k ≤ lenC ∧ i = .int .i64 k ∧ wr.ownsRow W2.heap.size 29 2 v k (cL fC k) ∧ Below W2.heap.size W2 wr) (fun _ i _ => lenC - (intOf i).toNat)
          case atStart => exact ⟨0, Nat.zero_le _, rfl, World.ownsRow_nil _ _ _ _, Below.refl _ _⟩
          case round =>
            obtain ⟨k, hk, rfl, hown, hB3⟩ := hrel
            obtain ⟨v, hv⟩ : ∃ v, v = u36 := ⟨_, rfl⟩
            subst hv
            by_cases hlt : k < lenC
            · as_aux_lemma =>
              clear ep
              have HO : Hid (wr.ownsRow W2.heap.size 29 2 v k (cL fC k)) := hown
              have hsz := hB3.size
              obtain ⟨b, o, hix, hcx, hbl⟩ := ix_argk HA.out.h11 capC k hlt Yba.underlying23 size26 (hBw.trans (hB3.mono (by omega)))
              obtain ⟨y, hy⟩ : ∃ y, y = fC k := ⟨_, rfl⟩
              have HY : Hid (y = fC k) := hy
              rw [← hy] at hcx
              clear hy hown
              go_wp2_with (at_builtin; refine wpList_append_own _ rfl (.tmp 167) (.tmp 174) 27 rfl W2.heap.size 29 i0 (.agg #[.int .i64 0, .int .u64 0]) 2 16 Yba.underlying27 hi hz0 hzz1 hzz2 rfl (by decide) v k (cL fC k) rfl (HO.out.alloc _) ⟨wr.heap.size, 0, none⟩ 1 1 [.int .i64 k, .int .u64 y] rfl rfl (news2 _ _ (by rfl) _ _ _) (by intro u hu; simp at hu; rcases hu with rfl | rfl <;> rfl) (by unfold maxLen; omega) (by omega) (by simp; omega) ?_; intro v' w1' hown' hgrow hnil')
              have HO' : Hid (w1'.ownsRow W2.heap.size 29 2 v' (k + 1) (cL fC (k + 1))) := by show World.ownsRow _ _ _ _ _ _ _; rw [cL, ← HY.out]; exact hown'
              have HB' : Hid (Below W2.heap.size W2 w1') := (hB3.alloc (by omega) _).grown hgrow (by simp; omega) (fun j hj => (HO.out.lt j hj).1)
              clear hown' hgrow hnil'
              go_wp2_with fail
              go_roundw
              case rel => exact ⟨k + 1, by omega, by go_num, HO'.out, HB'.out⟩
              case measure => simp [intOf]; omega
            · have hkC : lenC = k := by omega
              subst hkC
              obtain ⟨W3, hW3⟩ : ∃ W3, W3 = wr := ⟨_, rfl⟩
              subst hW3
              have hR1 : Row W3 w.heap.size (ints .u64 (full N (g1 lenR fR))) := HR1'.out.below hB3 (by omega)
              have hR2 : Row W3 (w.heap.size + 1) (ints .i32 (full N (g1 lenG fG))) := HR2'.out.below hB3 (by omega)
              have hR3 : Row W3 G3 (ints .i32 (full m (g3 lenL words fL))) := HR3.out.below hB3 (by omega)
              have hR4 : Row W3 (G3 + 1) (bools (full m (g4 lenS fS))) := HR4.out.below hB3 (by omega)
              have hBw3 : Below w.heap.size w W3 := hBw.trans (hB3.mono (by omega))
              have hz3 : W2.heap.size ≤ W3.heap.size := hB3.size
              have hcb := hown.lt
              obtain ⟨l0, hl0, hl0n⟩ := cL_prs fC lenC
              obtain ⟨B3, hB3e⟩ : ∃ B3, B3 = W2.heap.size := ⟨_, rfl⟩
              have HO : Hid (W3.ownsRow B3 29 2 v lenC (prs l0)) := by show World.ownsRow _ _ _ _ _ _ _; rw [← hl0, hB3e]; exact hown
              have HCB : Hid (∀ j, v.ownBlock = some j → B3 ≤ j ∧ j < W3.heap.size) := by show ∀ j, _; rw [hB3e]; exact hcb
              rw [← hB3e] at hz2 hz3
              have H1 : Hid (Row W3 w.heap.size (ints .u64 (full N (g1 lenR fR)))) := hR1
              have H2 : Hid (Row W3 (w.heap.size + 1) (ints .i32 (full N (g1 lenG fG)))) := hR2
              have H3 : Hid (Row W3 G3 (ints .i32 (full m (g3 lenL words fL)))) := hR3
              have H4 : Hid (Row W3 (G3 + 1) (bools (full m (g4 lenS fS)))) := hR4
              have HBw : Hid (Below w.heap.size w W3) := hBw3
              clear hR1 hR2 hR3 hR4 hBw hBw3 hown hcb hl0 hB3 hlt hk HR1' HR2' HR3 HR4 hB3e hl0n
              obtain ⟨av, cv, hvf⟩ := own_form HO.out
              subst hvf
              go_wp2_with fail
              refine (clone5_some ⟨w.heap.size, 0, none⟩ N N (ints .u64 (full N (g1 lenR fR))) _ (by omega) (by simp [ints, full]) (ints_one _ _) H1.out.cells).mono ?_
              rintro e W4 ⟨gE1, capE1, rfl, hgE1, hE1, hB4⟩
              have hlE1 := hE1.lt
              have hs4 := hB4.size
              have HE1 : Hid (Row W4 gE1 (ints .u64 (full N (g1 lenR fR)))) := hE1
              have H2' : Hid (Row W4 (w.heap.size + 1) (ints .i32 (full N (g1 lenG fG)))) := H2.out.below hB4 (by omega)
              have HB4 : Hid (Below W3.heap.size W3 W4) := hB4
              clear hE1 hB4
              go_wp2_with fail
              refine (clone6_some ⟨w.heap.size + 1, 0, none⟩ N N (ints .i32 (full N (g1 lenG fG))) _ (by omega) (by simp [ints, full]) (ints_one _ _) H2'.out.cells).mono ?_
              rintro e W5 ⟨gE2, capE2, rfl, hgE2, hE2, hB5⟩
              have hlE2 := hE2.lt
              have hs5 := hB5.size
              have HE2 : Hid (Row W5 gE2 (ints .i32 (full N (g1 lenG fG)))) := hE2
              have HE1' : Hid (Row W5 gE1 (ints .u64 (full N (g1 lenR fR)))) := HE1.out.below hB5 (by omega)
              have HB5 : Hid (Below W3.heap.size W3 W5) := HB4.out.trans (hB5.mono (by omega))
              have HO5 : Hid (W5.ownsRow B3 29 2 (.slice av lenC cv) lenC (prs l0)) := owns_same HO.out (fun g hg => (HB5.out.block g (HCB.out g hg).2))
              clear hE2 hB5 HE1 HB4 H2'
              go_wp2_with fail
              refine (clone7_own B3 lenC (.slice av lenC cv) (prs l0) _ (by omega) (prs_one _) HO5.out).mono ?_
              rintro e W6 ⟨vE, rfl, hownE, hB6⟩
              have hs6 := hB6.size
              have HOE : Hid (W6.ownsRow W5.heap.size 29 2 vE lenC (prs l0)) := hownE
              have HE1 : Hid (Row W6 gE1 (ints .u64 (full N (g1 lenR fR)))) := HE1'.out.below hB6 (by omega)
              have HE2' : Hid (Row W6 gE2 (ints .i32 (full N (g1 lenG fG)))) := HE2.out.below hB6 (by omega)
              have HB6 : Hid (Below W3.heap.size W3 W6) := HB5.out.trans (hB6.mono (by omega))
              clear hownE hB6 HE1' HE2 HB5 HO5
              go_wp2_with fail
              obtain ⟨rs, hrs⟩ : ∃ rs, rs = full N (g1 lenR fR) := ⟨_, rfl⟩
              obtain ⟨ls, hls⟩ : ∃ ls, ls = full N (g1 lenG fG) := ⟨_, rfl⟩
              rw [← hrs] at H1 HE1
              rw [← hls] at H2 HE2'
              have hrl : rs.length = N := by rw [hrs, full_len]
              have hll : ls.length = N := by rw [hls, full_len]
              have hrw : ∀ j, W64 (rs.getD j 0) := by
                intro j
                rw [hrs]
                rcases Nat.lt_or_ge j N with h | h
                · rw [full_getD 0 N _ j h, g1]
                  split
                  · exact HA.out.w5 _ (Nat.mod_lt _ (by assumption))
                  · exact ⟨by decide, by decide⟩
                · rw [List.getD_eq_getElem?_getD, List.getElem?_eq_none (by rw [full_len]; exact h)]; exact ⟨by decide, by decide⟩
              have HRL : Hid (rs.length = N) := hrl
              have HLL : Hid (ls.length = N) := hll
              have HRW : Hid (∀ j, W64 (rs.getD j 0)) := hrw
              have hpN : (p : Int) + (nf : Int) ≤ (N : Int) := by omega
              clear hrs hls hrl hll hrw
              have HE2 : Hid (Row W6 gE2 (ints .i32 ls)) := HE2'.out
              clear HE2'
              go_loopw [41, 42, 43, 44] (fun v b t k wr => ∃ (i : Nat) (gB : Bool) (fV : Int), i ≤ nf ∧ k = .int .i64 i ∧ b = .bool gB ∧ t = .int .i64 fV ∧ Hid (gB = gw rs f p i) ∧ Hid (fV = fs f i) ∧ Hid (Row wr gE1 (ints .u64 (R rs f p i))) ∧ Hid (Row wr gE2 (ints .i32 (Lg rs ls f p tr ts i))) ∧ Hid (wr.ownsRow W5.heap.size 29 2 v (lenC + nC rs ls f p tr ts i) (prs l0 ++ Cg rs ls f p tr ts i)) ∧ Hid (Below W3.heap.size W3 wr) ∧ W6.heap.size ≤ wr.heap.size)
                (fun _ _ _ k _ => nf - (intOf k).toNat)
              case atStart => exact ⟨0, false, -1, Nat.zero_le _, rfl, rfl, rfl, rfl, rfl, HE1.out, HE2.out, (show World.ownsRow _ _ _ _ _ _ _ by simpa [nC, Cg] using HOE.out), HB6.out, Nat.le_refl _⟩
              case round =>
                obtain ⟨i, gB, fV, hi', rfl, rfl, rfl, HgB, HfV, HT1, HT2, HTO, HTB, hsz⟩ := hrel
                obtain ⟨v2, hv2⟩ : ∃ v2, v2 = u41 := ⟨_, rfl⟩
                subst hv2
                have hbd := fs_bd (f := f) i
                rw [← HfV.out] at hbd
                obtain ⟨hb1', hb2'⟩ := hbd
                by_cases hlt : i < nf
                · as_aux_lemma =>
                  clear ep
                  obtain ⟨b, o, hix, hcx, hbl⟩ := ix_argk HA.out.h4 cf i hlt Yba.underlying23 size26 (HBw.out.trans (HTB.out.mono (by omega)))
                  obtain ⟨x, hx⟩ : ∃ x, x = f i := ⟨_, rfl⟩
                  have HX : Hid (x = f i) := hx
                  rw [← hx] at hcx
                  have cr : wr.cell? ⟨w.heap.size, p + i, none⟩ = some (.int .u64 (rs.getD (p + i) 0)) := (H1.out.below HTB.out (by omega)).cell (ints_at _ _ _ (by rw [HRL.out]; omega))
                  have cg : wr.cell? ⟨w.heap.size + 1, p + i, none⟩ = some (.int .i32 (ls.getD (p + i) 0)) := (H2.out.below HTB.out (by omega)).cell (ints_at _ _ _ (by rw [HLL.out]; omega))
                  have ce1 : wr.cell? ⟨gE1, p + i, none⟩ = some (.int .u64 ((R rs f p i).getD (p + i) 0)) := HT1.out.cell (ints_at _ _ _ (by rw [R_len, HRL.out]; omega))
                  have ce2 : wr.cell? ⟨gE2, p + i, none⟩ = some (.int .i32 ((Lg rs ls f p tr ts i).getD (p + i) 0)) := HT2.out.cell (ints_at _ _ _ (by rw [Lg_len, HLL.out]; omega))
                  have fe1 := HT1.out.frozen (p + i)
                  have fe2 := HT2.out.frozen (p + i)
                  obtain ⟨r, hr⟩ : ∃ r, r = rs.getD (p + i) 0 := ⟨_, rfl⟩
                  obtain ⟨gg, hgg⟩ : ∃ gg, gg = ls.getD (p + i) 0 := ⟨_, rfl⟩
                  obtain ⟨y1, hy1⟩ : ∃ y1, y1 = (R rs f p i).getD (p + i) 0 := ⟨_, rfl⟩
                  obtain ⟨y2, hy2⟩ : ∃ y2, y2 = (Lg rs ls f p tr ts i).getD (p + i) 0 := ⟨_, rfl⟩
                  rw [← hr] at cr
                  rw [← hgg] at cg
                  rw [← hy1] at ce1
                  rw [← hy2] at ce2
                  have HR : Hid (r = rs.getD (p + i) 0) := hr
                  have HG : Hid (gg = ls.getD (p + i) 0) := hgg
                  clear hr hgg hy1 hy2 hx
                  have hpi : (p : Int) + (i : Int) < (N : Int) := by omega
                  have hne12 : gE1 ≠ gE2 := by omega
                  have hne21 : gE2 ≠ gE1 := by omega
                  have hne1w : gE1 ≠ w.heap.size := by omega
                  have hne2w : gE2 ≠ w.heap.size := by omega
                  have hnew2 : w.heap.size ≠ gE2 := by omega
                  have hN1 : ∀ W : World, Row W gE1 (ints .u64 (R rs f p i)) → Row (W.setCell ⟨gE1, p + i, none⟩ (.int .u64 (bits .or .u64 r x))) gE1 (ints .u64 (R rs f p (i + 1))) := by
                    intro W hW
                    rw [R, ← HR.out, ← HX.out, ← ints_set]; exact hW.set _ _
                  have HN1 : Hid _ := hN1
                  have hfs : ∀ (b1 b2 : Bool), (x != 0) = b1 → decide (fV < 0) = b2 → fs f (i + 1) = if b1 && b2 then (i : Int) else fV := by
                    intro b1 b2 h1 h2
                    rw [fs, ← HX.out, ← HfV.out, h1, h2]
                  have HFS : Hid _ := hfs
                  have hnb : newB rs f p i = (bits .andNot .u64 x r != 0) := by rw [newB, ← HX.out, ← HR.out]; rfl
                  have HNB : Hid _ := hnb
                  clear hN1 hfs hnb
                  have hx3 : W3.heap.size ≤ wr.heap.size := by omega
                  cases hb : (bits .andNot .u64 x r != 0) with
                  | false =>
                    have hl : logB rs ls f p tr ts i = false := by rw [logB, HNB.out, hb]; rfl
                    have HG1 : Hid (gw rs f p (i + 1) = gB) := by show gw rs f p (i + 1) = gB; rw [gw, HNB.out, hb, ← HgB.out]; rfl
                    have HL : Hid (Lg rs ls f p tr ts (i + 1) = Lg rs ls f p tr ts i ∧ nC rs ls f p tr ts (i + 1) = nC rs ls f p tr ts i ∧ Cg rs ls f p tr ts (i + 1) = Cg rs ls f p tr ts i) := by
                      show _ ∧ _; simp [Lg, nC, Cg, hl]
                    clear hl
                    cases hx0 : (x != 0) <;> cases hf0 : decide (fV < 0)
                    all_goals
                      have HK : Hid _ := HFS.out _ _ hx0 hf0
                      clear HFS
                      go_wp2_with fail
                      go_roundw
                      case rel =>
                        refine ⟨i + 1, _, _, by omega, by go_num, rfl, rfl, HG1.out.symm, HK.out.symm, HN1.out _ HT1.out, ?_, ?_, ?_, by simpa using hsz⟩
                        · rw [HL.out.1]; exact HT2.out.other ⟨gE1, p + i, none⟩ _ hne21
                        · rw [HL.out.2.1, HL.out.2.2]; exact owns_same HTO.out (fun g hg => Below.heap_setCell _ _ _ _ (by have := (HTO.out.lt g hg).1; simp; omega))
                        · exact HTB.out.setCell (p := ⟨gE1, p + i, none⟩) (by simp; omega) _
                      case measure => simp [intOf]; omega
                  | true =>
                    have HG1 : Hid (gw rs f p (i + 1) = true) := by show gw rs f p (i + 1) = true; rw [gw, HNB.out, hb]; rfl
                    by_cases hlog : (tr && (gg != ts)) = true
                    · rw [Bool.and_eq_true] at hlog
                      obtain ⟨htr, hne⟩ := hlog
                      subst htr
                      have hl : logB rs ls f p true ts i = true := by rw [logB, HNB.out, hb, ← HG.out, hne]; rfl
                      have HL : Hid (Lg rs ls f p true ts (i + 1) = (Lg rs ls f p true ts i).set (p + i) ts ∧ nC rs ls f p true ts (i + 1) = nC rs ls f p true ts i + 1 ∧ Cg rs ls f p true ts (i + 1) = Cg rs ls f p true ts i ++ [.int .i64 (p + i : Nat), .int .u64 r]) := by
                        show _ ∧ _; rw [HR.out]; simp [Lg, nC, Cg, hl]
                      have hnl := nC_le (rs := rs) (ls := ls) (f := f) (p := p) (tr := true) (ts := ts) i
                      clear hl
                      cases hx0 : (x != 0) <;> cases hf0 : decide (fV < 0)
                      all_goals
                        have HK : Hid _ := HFS.out _ _ hx0 hf0
                        clear HFS
                        have ho2 : (wr.setCell ⟨gE2, p + i, none⟩ (.int .i32 ts)).ownsRow W5.heap.size 29 2 v2 (lenC + nC rs ls f p true ts i) (prs l0 ++ Cg rs ls f p true ts i) := owns_same HTO.out (fun g hg => Below.heap_setCell _ _ _ _ (by have := (HTO.out.lt g hg).1; simp; omega))
                        have HO2 : Hid _ := ho2
                        clear ho2
                        go_wp2_with (at_builtin; go_must (refine wpList_append_own _ rfl (.tmp 230) (.tmp 241) 27 rfl W5.heap.size 29 i0 (.agg #[.int .i64 0, .int .u64 0]) 2 16 Yba.underlying27 hi hz0 hzz1 hzz2 rfl (by decide) v2 (lenC + nC rs ls f p true ts i) (prs l0 ++ Cg rs ls f p true ts i) rfl (World.ownsRow.alloc HO2.out _) ⟨wr.heap.size, 0, none⟩ 1 1 [.int .i64 ((p : Int) + (i : Int)), .int .u64 r] rfl rfl (news2 _ _ (by simp) _ _ _) (by intro u hu; simp at hu; rcases hu with rfl | rfl <;> rfl) (by unfold maxLen; omega) (by omega) (by simp; omega) ?_; intro v' w1' hown' hgrow hnil'; have cr' : w1'.cell? ⟨w.heap.size, p + i, none⟩ = some (.int .u64 r) := hgrow.cell (by rw [World.cell?_alloc_lt _ _ _ (by simp; omega), World.cell?_setCell_other _ _ _ _ (fun h => hne2w (congrArg Addr.block h))]; exact cr) (fun h => by have : W5.heap.size ≤ w.heap.size := (HTO.out.lt _ h.symm).1; omega); have ce1' : w1'.cell? ⟨gE1, p + i, none⟩ = some (.int .u64 y1) := hgrow.cell (by rw [World.cell?_alloc_lt _ _ _ (by simp; omega), World.cell?_setCell_other _ _ _ _ (fun h => hne21 (congrArg Addr.block h))]; exact ce1) (fun h => by have : W5.heap.size ≤ gE1 := (HTO.out.lt _ h.symm).1; omega); have fe1' : w1'.frozen? ⟨gE1, p + i, none⟩ = false := (hgrow.frozen_far ⟨gE1, p + i, none⟩ (by simp; omega) (fun h => by have : W5.heap.size ≤ gE1 := (HTO.out.lt _ h.symm).1; omega)).trans (by rw [World.frozen?_alloc_past _ _ _ (by simp; omega), World.frozen?_setCell]; exact fe1); have HW1 : Hid _ := hown'; have HGR : Hid _ := hgrow; clear hown' hgrow hnil'))
                        go_roundw
                        case rel =>
                          have hnv : ∀ g, g < W5.heap.size → some g ≠ v2.ownBlock := fun g hg h => by have : W5.heap.size ≤ g := (HTO.out.lt _ h.symm).1; omega
                          have hgs := HGR.out.size
                          simp only [World.size_alloc, World.size_setCell] at hgs
                          refine ⟨i + 1, _, _, by omega, by go_num, rfl, rfl, HG1.out.symm, HK.out.symm, HN1.out _ (((HT1.out.other ⟨gE2, p + i, none⟩ _ hne12).alloc _).grown HGR.out (hnv _ (by omega))), ?_, ?_, ?_, ?_⟩
                          · have h := HT2.out.set (p + i) (.int .i32 ts)
                            rw [ints_set, ← HL.out.1] at h
                            exact ((h.alloc _).grown HGR.out (hnv _ (by omega))).other ⟨gE1, p + i, none⟩ _ hne21
                          · rw [HL.out.2.1, HL.out.2.2, ← Nat.add_assoc, ← List.append_assoc, show ((p + i : Nat) : Int) = (p : Int) + (i : Int) by omega]
                            exact owns_same HW1.out (fun g hg => Below.heap_setCell _ _ _ _ (by have h2 : W5.heap.size ≤ g := (World.ownsRow.lt HW1.out g hg).1; simp; omega))
                          · exact (((HTB.out.setCell (p := ⟨gE2, p + i, none⟩) (by simp; omega) _).alloc (by simp; omega) _).grown HGR.out (by simp; omega) (fun j hj => by have : W5.heap.size ≤ j := (HTO.out.lt _ hj).1; omega)).setCell (p := ⟨gE1, p + i, none⟩) (by simp; omega) _
                          · simp; omega
                        case measure => simp [intOf]; omega
                    · have hlog' : (tr && (gg != ts)) = false := by simpa using hlog
                      have hl : logB rs ls f p tr ts i = false := by rw [logB, HNB.out, hb, ← HG.out, hlog']; rfl
                      have HL : Hid (Lg rs ls f p tr ts (i + 1) = Lg rs ls f p tr ts i ∧ nC rs ls f p tr ts (i + 1) = nC rs ls f p tr ts i ∧ Cg rs ls f p tr ts (i + 1) = Cg rs ls f p tr ts i) := by
                        show _ ∧ _; simp [Lg, nC, Cg, hl]
                      clear hl hlog
                      cases tr
                      · clear hlog'
                        cases hx0 : (x != 0) <;> cases hf0 : decide (fV < 0)
                        all_goals
                          have HK : Hid _ := HFS.out _ _ hx0 hf0
                          clear HFS
                          go_wp2_with fail
                          go_roundw
                          case rel =>
                            refine ⟨i + 1, _, _, by omega, by go_num, rfl, rfl, HG1.out.symm, HK.out.symm, HN1.out _ HT1.out, ?_, ?_, ?_, by simpa using hsz⟩
                            · rw [HL.out.1]; exact HT2.out.other ⟨gE1, p + i, none⟩ _ hne21
                            · rw [HL.out.2.1, HL.out.2.2]; exact owns_same HTO.out (fun g hg => Below.heap_setCell _ _ _ _ (by have := (HTO.out.lt g hg).1; simp; omega))
                            · exact HTB.out.setCell (p := ⟨gE1, p + i, none⟩) (by simp; omega) _
                          case measure => simp [intOf]; omega
                      · have hgt : (gg != ts) = false := by simpa using hlog'
                        clear hlog'
                        cases hx0 : (x != 0) <;> cases hf0 : decide (fV < 0)
                        all_goals
                          have HK : Hid _ := HFS.out _ _ hx0 hf0
                          clear HFS
                          go_wp2_with fail
                          go_roundw
                          case rel =>
                            refine ⟨i + 1, _, _, by omega, by go_num, rfl, rfl, HG1.out.symm, HK.out.symm, HN1.out _ HT1.out, ?_, ?_, ?_, by simpa using hsz⟩
                            · rw [HL.out.1]; exact HT2.out.other ⟨gE1, p + i, none⟩ _ hne21
                            · rw [HL.out.2.1, HL.out.2.2]; exact owns_same HTO.out (fun g hg => Below.heap_setCell _ _ _ _ (by have := (HTO.out.lt g hg).1; simp; omega))
                            · exact HTB.out.setCell (p := ⟨gE1, p + i, none⟩) (by simp; omega) _
                          case measure => simp [intOf]; omega
                · have hinf : nf = i := by omega
                  subst hinf
                  obtain ⟨W7, hW7⟩ : ∃ W7, W7 = wr := ⟨_, rfl⟩
                  subst hW7
                  obtain ⟨lw, hlw⟩ : ∃ lw, lw = full m (g3 lenL words fL) := ⟨_, rfl⟩
                  obtain ⟨st, hst⟩ : ∃ st, st = full m (g4 lenS fS) := ⟨_, rfl⟩
                  rw [← hlw] at H3
                  rw [← hst] at H4
                  have HLW : Hid (lw.length = m) := by show lw.length = m; rw [hlw, full_len]
                  have HST : Hid (st.length = m) := by show st.length = m; rw [hst, full_len]
                  clear hlw hst hi' hlt
                  have H3' : Hid (Row W7 G3 (ints .i32 lw)) := H3.out.below HTB.out (by omega)
                  go_wp2_with fail
                  refine (clone6_some ⟨G3, 0, none⟩ m m (ints .i32 lw) _ (by omega) (by rw [ints_len, HLW.out]; omega) (ints_one _ _) H3'.out.cells).mono ?_
                  rintro e W8 ⟨gE3, capE3, rfl, hgE3, hE3, hB8⟩
                  have hlE3 := hE3.lt
                  have hs8 := hB8.size
                  have HE3 : Hid (Row W8 gE3 (ints .i32 lw)) := hE3
                  have HB8 : Hid (Below W7.heap.size W7 W8) := hB8
                  clear hE3 hB8 H3'
                  have hcy : W8.cell? ⟨gE3, u, none⟩ = some (.int .i32 (lw.getD u 0)) := HE3.out.cell (ints_at _ _ _ (by rw [HLW.out]; omega))
                  have hfy := HE3.out.frozen u
                  obtain ⟨y, hy⟩ : ∃ y, y = lw.getD u 0 := ⟨_, rfl⟩
                  rw [← hy] at hcy
                  have HY : Hid (y = lw.getD u 0) := hy
                  clear hy
                  obtain ⟨bT, hbT⟩ : ∃ bT, bT = decide (0 ≤ fV ∧ (lo : Int) + fV < y) := ⟨_, rfl⟩
                  have HT : Hid (bT = decide (0 ≤ fV ∧ (lo : Int) + fV < y)) := hbT
                  clear hbT
                  go_upto_region 50 with (fail)
                  go_cut [270] from 256 to 270 (fun t w' => t = .bool bT ∧ w' = W8)
                  case first =>
                    by_cases hneg : fV < 0
                    · have HBV : Hid (false = bT) := by show false = bT; rw [HT.out]; simp; omega
                      go_wp2_with fail
                      go_meet
                      case rel => exact ⟨by rw [HBV.out], rfl⟩
                    · by_cases hless : (lo : Int) + fV < y
                      · have HBV : Hid (true = bT) := by show true = bT; rw [HT.out]; simp; omega
                        go_wp2_with fail
                        go_meet
                        case rel => exact ⟨by rw [HBV.out], rfl⟩
                      · have HBV : Hid (false = bT) := by show false = bT; rw [HT.out]; simp; omega
                        go_wp2_with fail
                        go_meet
                        case rel => exact ⟨by rw [HBV.out], rfl⟩
                  case rest =>
                    obtain ⟨rfl, rfl⟩ := hcut
                    go_upto_if 270 with (fail)
                    go_cut [] from 256 to 277 (fun w' => Hid (Row w' gE3 (ints .i32 (lowOf lw fV u lo))) ∧ Hid (Below W7.heap.size W7 w') ∧ wc.heap.size ≤ w'.heap.size)
                    case first =>
                      cases bT
                      · go_wp2_with fail
                        go_meet
                        case rel => exact ⟨by show Row _ _ _; rw [lowOf, ← HY.out, if_neg (of_decide_eq_false HT.out.symm)]; exact HE3.out, HB8.out, Nat.le_refl _⟩
                      · have hbd := of_decide_eq_true HT.out.symm
                        go_wp2_with fail
                        go_meet
                        case rel =>
                          refine ⟨?_, HB8.out.setCell (p := ⟨gE3, u, none⟩) (by simp; omega) _, by simp⟩
                          show Row _ _ _
                          rw [lowOf, ← HY.out, if_pos hbd, ← ints_set]
                          exact HE3.out.set u _
                    case rest =>
                      obtain ⟨HE3x, HB8x, hs8x⟩ := hcut
                      have H4' : Hid (Row wc (G3 + 1) (bools st)) := (H4.out.below HTB.out (by omega)).below HB8x.out (by omega)
                      go_wp2_with fail
                      refine (clone8_some ⟨G3 + 1, 0, none⟩ m m (bools st) _ (by omega) (by rw [bools, List.length_map, HST.out]; omega) (bools_one _) H4'.out.cells).mono ?_
                      rintro e W9 ⟨gE4, capE4, rfl, hgE4, hE4, hB9⟩
                      have hlE4 := hE4.lt
                      have hs9 := hB9.size
                      have hcs : W9.cell? ⟨gE4, u, none⟩ = some (.bool (st.getD u false)) := hE4.cell (bools_at _ _ (by rw [HST.out]; omega))
                      have hfs4 := hE4.frozen u
                      have HE4 : Hid (Row W9 gE4 (bools st)) := hE4
                      have HB9 : Hid (Below W7.heap.size W7 W9) := HB8x.out.trans (hB9.mono (by omega))
                      have HE39 : Hid (Row W9 gE3 (ints .i32 (lowOf lw fV u lo))) := HE3x.out.below hB9 (by omega)
                      clear hE4 hB9 H4' HE3x HB8x HE3 HB8
                      go_upto_if 280 with (fail)
                      go_cut [] from 278 to 283 (fun w' => Hid (Row w' gE4 (bools (if gB then st.set u true else st))) ∧ Hid (Row w' gE3 (ints .i32 (lowOf lw fV u lo))) ∧ Hid (Below W7.heap.size W7 w') ∧ W9.heap.size ≤ w'.heap.size)
                      case first =>
                        cases gB
                        · go_wp2_with fail
                          go_meet
                          case rel => exact ⟨HE4.out, HE39.out, HB9.out, Nat.le_refl _⟩
                        · go_wp2_with fail
                          go_meet
                          case rel =>
                            refine ⟨?_, HE39.out.other ⟨gE4, u, none⟩ _ (by simp; omega), HB9.out.setCell (p := ⟨gE4, u, none⟩) (by simp; omega) _, by simp⟩
                            show Row _ _ _
                            simp only [if_true]
                            rw [← bools_set]
                            exact HE4.out.set u _
                      case rest =>
                        obtain ⟨HE4, HE3, HB9', hs9x⟩ := hcut
                        obtain ⟨W10, hW10⟩ : ∃ W10, W10 = wc := ⟨_, rfl⟩
                        subst hW10
                        obtain ⟨st2, hst2⟩ : ∃ st2, st2 = (if gB then st.set u true else st) := ⟨_, rfl⟩
                        rw [← hst2] at HE4
                        have HST2 : Hid (st2 = (if gB then st.set u true else st)) := hst2
                        have HSL : Hid (st2.length = m) := by show st2.length = m; rw [hst2]; split <;> simp [HST.out]
                        clear hst2
                        have hs10 := HB9'.out.size
                        go_wp2_with fail
                        refine (queue_any m gE4 capE4 st2 _ (by omega) (by omega) HSL.out HE4.out).mono ?_
                        rintro e W11 ⟨vq1, rfl, hQ1, hB11⟩
                        have hs11 := hB11.size
                        obtain ⟨ga, na, ca, hqf⟩ := q_form hQ1
                        subst hqf
                        have HQ1 : Hid (QAt W11 W10.heap.size W11.heap.size (.slice (some ⟨ga, 0, none⟩) na ca) st2 m) := hQ1
                        have HB11 : Hid (Below W7.heap.size W7 W11) := HB9'.out.trans (hB11.mono (by omega))
                        have HE411 : Hid (Row W11 gE4 (bools st2)) := HE4.out.below hB11 HE4.out.lt
                        have HE311 : Hid (Row W11 gE3 (ints .i32 (lowOf lw fV u lo))) := HE3.out.below hB11 HE3.out.lt
                        have hlE4' := HE4.out.lt
                        have H411 : Hid (Row W11 (G3 + 1) (bools st)) := (H4.out.below HTB.out (by omega)).below HB11.out (by omega)
                        clear hQ1 hB11 HB9' HE4 HE3 HB9 HE39 hcs hfs4 hcy hfy
                        go_wp2_with fail
                        refine (queue_any m (G3 + 1) m st _ (by omega) (by omega) HST.out (H411.out.alloc _)).mono ?_
                        rintro e W12 ⟨vq2, rfl, hQ2, hB12⟩
                        obtain ⟨gb, nb, cb, hqf⟩ := q_form hQ2
                        subst hqf
                        have hs12 := hB12.size
                        simp only [World.size_alloc] at hs12
                        have HQ2 : Hid (QAt W12 (W11.heap.size + 1) W12.heap.size (.slice (some ⟨gb, 0, none⟩) nb cb) st m) := by show QAt _ _ _ _ _ _; simpa using hQ2
                        have HB12 : Hid (Below (W11.heap.size + 1) (W11.alloc (.cells #[.slice (some ⟨ga, 0, none⟩) na ca] 36)) W12) := by show Below _ _ _; simpa using hB12
                        have HBw12 : Hid (Below w.heap.size w W12) := (((HBw.out.trans (HTB.out.mono (by omega))).trans (HB11.out.mono (by omega))).alloc (by omega) _).trans (HB12.out.mono (by omega))
                        clear hQ2 hB12
                        go_wp2_with fail
                        refine (clone5_arg a4 nf cf f _ w (by omega) HA.out.nil4 HA.out.h4 (HBw12.out.alloc (by omega) _)).mono ?_
                        rintro e W13 ⟨v50, rfl, hCp, hB13⟩
                        have hs13 := hB13.size
                        simp only [World.size_alloc] at hs13
                        have HCp : Hid (Copied (W12.alloc (.cells #[.slice (some ⟨gb, 0, none⟩) nb cb] 36)) W13 nf f v50) := hCp
                        have HB13 : Hid (Below (W12.heap.size + 1) (W12.alloc (.cells #[.slice (some ⟨gb, 0, none⟩) nb cb] 36)) W13) := by show Below _ _ _; simpa using hB13
                        clear hCp hB13
                        go_wp2_with fail
                        have hE4g : HE411.out = HE411.out := rfl
                        have hfin : Calls Yba.prog 10 #[.pointer (some ⟨W13.heap.size, 0, none⟩), .int .i64 u, .slice a4 nf cf, .int .i64 lo] (W13.alloc (.cells (foCells w.heap.size N G3 m W12.heap.size lenC cv words av tr ts) 48)) fun e w' => e = .returned (.tuple #[]) ∧ ∃ n l, n ≤ 1000000 ∧ Done w W13.heap.size w.heap.size G3 N m W12.heap.size W11.heap.size words nf gE1 gE2 gE3 gE4 v2 (.slice (some ⟨ga, 0, none⟩) na ca) (.slice (some ⟨gb, 0, none⟩) nb cb) v50 tr ts (R rs f p nf) (Lg rs ls f p tr ts nf) (lowOf lw (fs f nf) u lo) (if gw rs f p nf then st.set u true else st) n l a4 f w' := by
                          have hE3 := HE311.out
                          have hE4 := HE411.out
                          have hQ := HQ1.out
                          rw [HfV.out] at hE3
                          rw [HST2.out, HgB.out] at hE4 hQ
                          exact fin_unite w W3 W7 W10 W11 W12 W13 G3 N m words u lo p nf cf lenC cv B3 ga na ca gb nb cb gE1 gE2 gE3 gE4 W5.heap.size av a4 v2 v50 tr ts rs ls lw st f l0 (by omega) (by omega) (by omega) (by omega) (by omega) (by omega) (by omega) (by omega) H1.out H2.out H3.out H4.out HO.out HTB.out HT1.out HT2.out HTO.out (by omega) (by omega) (by omega) HB11.out hE3 hE4 (by omega) (by omega) hQ HB12.out HQ2.out HB13.out HCp.out HBw.out HRL.out HLL.out HLW.out HST.out HRW.out HA.out.w4 HA.out.h4 (by omega) (by omega) (by omega) (by omega) ep uw0 (by omega) (by omega) (by omega) (by omega)
                        refine Calls.mono hfin ?_
                        rintro e W15 ⟨rfl, nn, ll, hnn, hD⟩
                        have HD : Hid (Done w W13.heap.size w.heap.size G3 N m W12.heap.size W11.heap.size words nf gE1 gE2 gE3 gE4 v2 (.slice (some ⟨ga, 0, none⟩) na ca) (.slice (some ⟨gb, 0, none⟩) nb cb) v50 tr ts (R rs f p nf) (Lg rs ls f p tr ts nf) (lowOf lw (fs f nf) u lo) (if gw rs f p nf then st.set u true else st) nn ll a4 f W15) := hD
                        obtain ⟨vc, b1', hFO, hvc⟩ := hD.fo
                        have HVC : Hid (W15.ownsRow b1' 29 2 vc nn (prs ll)) := hvc
                        have cq := hD.cq
                        have cx := hD.cx
                        obtain ⟨c13, c14, c15, c22, c23, c28, c30, c31, c32, fz, ltF⟩ := hFO
                        clear hfin hD hvc hE4g
                        clear H1 H2 H3 H4 HO HTB HT1 HT2 HTO HB11 HB12 HQ2 HB13 HCp HBw HRL HLL HLW HST HRW HE311 HE411 HQ1 HST2 HSL HBw12 H411 HfV HgB HE1 HE2 HOE HB6 HCB HY HT
                        have kF : ∀ (x : OkW W15) o, x.val.cell? ⟨W13.heap.size, o, none⟩ = W15.cell? ⟨W13.heap.size, o, none⟩ := fun x o => x.ok.cell (p := ⟨W13.heap.size, o, none⟩) ltF
                        have k13 : ∀ x : OkW W15, x.val.cell? ⟨W13.heap.size, 13, none⟩ = some (.int .i64 words) := fun x => (kF x 13).trans c13
                        have k14 : ∀ x : OkW W15, x.val.cell? ⟨W13.heap.size, 14, none⟩ = some (.slice (some ⟨w.heap.size, 0, none⟩) N N) := fun x => (kF x 14).trans c14
                        have k15 : ∀ x : OkW W15, x.val.cell? ⟨W13.heap.size, 15, none⟩ = some (.slice (some ⟨G3, 0, none⟩) m m) := fun x => (kF x 15).trans c15
                        have k22 : ∀ x : OkW W15, x.val.cell? ⟨W13.heap.size, 22, none⟩ = some (.pointer (some ⟨W12.heap.size, 0, none⟩)) := fun x => (kF x 22).trans c22
                        have k23 : ∀ x : OkW W15, x.val.cell? ⟨W13.heap.size, 23, none⟩ = some (.slice (some ⟨G3 + 1, 0, none⟩) m m) := fun x => (kF x 23).trans c23
                        have k28 : ∀ x : OkW W15, x.val.cell? ⟨W13.heap.size, 28, none⟩ = some (.bool tr) := fun x => (kF x 28).trans c28
                        have k30 : ∀ x : OkW W15, x.val.cell? ⟨W13.heap.size, 30, none⟩ = some vc := fun x => (kF x 30).trans c30
                        have k31 : ∀ x : OkW W15, x.val.cell? ⟨W13.heap.size, 31, none⟩ = some (.slice (some ⟨w.heap.size + 1, 0, none⟩) N N) := fun x => (kF x 31).trans c31
                        have k32 : ∀ x : OkW W15, x.val.cell? ⟨W13.heap.size, 32, none⟩ = some (.int .i32 ts) := fun x => (kF x 32).trans c32
                        have kq : ∀ x : OkW W15, x.val.cell? ⟨W12.heap.size, 0, none⟩ = some (.slice (some ⟨gb, 0, none⟩) nb cb) := fun x => (done_below HD.out x.ok).cq
                        have kx : ∀ x : OkW W15, x.val.cell? ⟨W11.heap.size, 0, none⟩ = some (.slice (some ⟨ga, 0, none⟩) na ca) := fun x => (done_below HD.out x.ok).cx
                        have hneW : Nonempty (OkW W15) := ⟨⟨W15, Below.refl _ _⟩⟩
                        clear kF c13 c14 c15 c22 c23 c28 c30 c31 c32 cq cx fz ltF
                        go_wp2_with fail
                        simp only [List.append_eq, List.cons_append, List.nil_append]
                        refine wp_region_quiet (C := fun w' => ∃ x : OkW W15, w' = x.val) (by kernel_rfl) (by kernel_rfl) ⟨⟨_, below_drewN (Below.refl _ _) 1⟩, rfl⟩ ?_
                        simp only
                        repeat (go_big_quiet_step ((first | (go_at_call_of 11 (Value.slice a4 nf cf); exact ok_draws _ (end1 (done_below HD.out (OkW.ok _)) 0 cf (by omega))) | (go_at_call_of 11 (Value.slice (some ⟨w.heap.size, 0, none⟩) N N); exact ok_draws _ (end2 (done_below HD.out (OkW.ok _)) 0 _ _ (by omega))) | (go_at_call_of 12 (Value.slice (some ⟨G3, 0, none⟩) m m); exact ok_draws _ (end3 (done_below HD.out (OkW.ok _)) 0 _ _ (by omega))) | (go_at_call 13; exact ok_draws _ (end4 (done_below HD.out (OkW.ok _)) 0 _ _ (by omega))) | (go_at_call_of 12 (Value.slice (some ⟨gE2, 0, none⟩) N capE2); exact ok_draws _ (end5 (done_below HD.out (OkW.ok _)) 0 _ _ (by omega))) | (go_at_call 14; exact ok_draws _ (end6 (done_below HD.out (OkW.ok _)) 0 (owns_below (B := 0) HVC.out (OkW.ok _)) hnn)) | (go_at_call 15; exact ok_end7 _ HD.out))))
                        refine wpQuiet_nil ?_
                        intro w' hw'
                        obtain ⟨x, hx⟩ := hw'
                        subst hx
                        go_wp2_with fail
                        go_ret
                        exact ⟨rfl, HD.out.below.trans (x.ok.mono HD.out.below.size)⟩
end Go.Proofs.Ybulkebqk
