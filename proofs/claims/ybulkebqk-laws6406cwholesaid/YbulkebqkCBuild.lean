/-
  zzs6406cbuild: the schedule that drawn operations stand for.
-/
import Derived.Test.YbulkebqkCTx
import Derived.Laws.MakeOwn
namespace Go.Proofs.Ybulkebqk
open Go.RowKit
set_option linter.unusedVariables false

theorem Yba.info64 : (Yba.prog.info? 64).map (fun i => (i.zero, i.size, i.bytes)) = some (some (.agg #[.int .u8 0, .int .i64 0, .string { data := #[] }]), 3, 32) := by kernel_rfl

/-- What is known of a slice of drawn operations that came in. -/
def ArgO (w : World) (a : Option Addr) (n : Nat) (f : Nat → Int × Int × Int) : Prop :=
  0 < n → ∃ b o, a = some ⟨b, o, none⟩ ∧ b < w.heap.size ∧ ∀ i, i < n → w.cell? ⟨b, o + i * 3, none⟩ = some (.int .u8 (f i).1) ∧ w.cell? ⟨b, o + i * 3 + 1, none⟩ = some (.int .u8 (f i).2.1) ∧ w.cell? ⟨b, o + i * 3 + 2, none⟩ = some (.int .u8 (f i).2.2)
def ByteO (n : Nat) (f : Nat → Int × Int × Int) : Prop := ∀ i, i < n → (0 ≤ (f i).1 ∧ (f i).1 ≤ 255) ∧ (0 ≤ (f i).2.1 ∧ (f i).2.1 ≤ 255) ∧ (0 ≤ (f i).2.2 ∧ (f i).2.2 ≤ 255)

/-- The operation that a drawn one stands for. -/
def opOf (x : Int × Int × Int) : OpV := ⟨kOf x.1, tOf x.2.1, iOf x.2.2⟩
def opsUp (f : Nat → Int × Int × Int) (n : Nat) : List OpV := (List.range n).map fun i => opOf (f i)
theorem opsUp_len (f : Nat → Int × Int × Int) (n : Nat) : (opsUp f n).length = n := by simp [opsUp]
theorem opCells_app (l l' : List OpV) : opCells (l ++ l') = opCells l ++ opCells l' := by simp [opCells]
theorem opsUp_succ (f : Nat → Int × Int × Int) (n : Nat) : opCells (opsUp f (n + 1)) = opCells (opsUp f n) ++ [.int .u8 (kOf (f n).1), .int .i64 (tOf (f n).2.1), .string (iOf (f n).2.2)] := by
  simp [opsUp, List.range_succ, opCells, OpV.cells, opOf]

theorem build16 (a : Option Addr) (n cap : Nat) (f : Nat → Int × Int × Int) (w : World) (hn : n ≤ 65536) (hA : ArgO w a n f) (hb : ByteO n f) :
    Calls Yba.prog 16 #[.slice a n cap] w fun e w' => ∃ g cap', e = .returned (.slice (some ⟨g, 0, none⟩) n cap') ∧ w'.ownsRow w.heap.size 64 3 (.slice (some ⟨g, 0, none⟩) n cap') n (opCells (opsUp f n)) ∧ Below w.heap.size w w' := by
  obtain ⟨i0, hi, hz0, hz1, hz2⟩ := info_parts Yba.info64
  obtain ⟨w0, hmk, hown0, hgrow0⟩ := run_make_own (P := Yba.prog) w w.heap.size 59 64 i0 _ 3 Yba.underlying59 hi hz0 hz1 .i64 .i64 n (by rw [hz2]; omega) (by unfold maxLen; omega) (Nat.le_refl _)
  have HA : Hid (ArgO w a n f) := hA
  have HB : Hid (ByteO n f) := hb
  have HO0 : Hid (w0.ownsRow w.heap.size 64 3 (.slice (some ⟨w.heap.size, 0, none⟩) 0 n) 0 []) := hown0
  have hB0 : Below w.heap.size w w0 := (Below.refl _ _).grown hgrow0 (Nat.le_refl _) (by intro k hk; cases hk)
  clear hA hb hown0 hgrow0
  go_enter Yba.func16, Yba.ntmps16
  go_wp2_with fail
  go_loopw [3, 11] (fun v i wr => ∃ (k g c : Nat), k ≤ n ∧ i = .int .i64 k ∧ v = .slice (some ⟨g, 0, none⟩) k c ∧ Hid (wr.ownsRow w.heap.size 64 3 (.slice (some ⟨g, 0, none⟩) k c) k (opCells (opsUp f k))) ∧ Below w.heap.size w wr) (fun _ i _ => n - (intOf i).toNat)
  case atStart => exact ⟨0, _, _, Nat.zero_le _, rfl, rfl, HO0.out, hB0⟩
  case round =>
    obtain ⟨k, g, c, hk, rfl, rfl, HO, hB⟩ := hrel
    clear hmk HO0 hB0
    by_cases hlt : k < n
    · obtain ⟨b, o, rfl, hbl, hc⟩ := HA.out (by omega)
      obtain ⟨c0, c1, c2⟩ := hc k hlt
      obtain ⟨⟨x0, x0'⟩, ⟨x1, x1'⟩, ⟨x2, x2'⟩⟩ := HB.out k hlt
      have d0 := (hB.cell (p := ⟨b, o + k * 3, none⟩) hbl).trans c0
      have d1 := (hB.cell (p := ⟨b, o + k * 3 + 1, none⟩) hbl).trans c1
      have d2 := (hB.cell (p := ⟨b, o + k * 3 + 2, none⟩) hbl).trans c2
      obtain ⟨xk, hxk⟩ : ∃ x, x = (f k).1 := ⟨_, rfl⟩
      obtain ⟨xt, hxt⟩ : ∃ x, x = (f k).2.1 := ⟨_, rfl⟩
      obtain ⟨xi, hxi⟩ : ∃ x, x = (f k).2.2 := ⟨_, rfl⟩
      rw [← hxk] at d0 x0 x0'
      rw [← hxt] at d1 x1 x1'
      rw [← hxi] at d2 x2 x2'
      have HE : Hid (opCells (opsUp f (k + 1)) = opCells (opsUp f k) ++ [.int .u8 (kOf xk), .int .i64 (tOf xt), .string (iOf xi)]) := by
        show _ = _; rw [opsUp_succ, hxk, hxt, hxi]
      clear c0 c1 c2 hc hxk hxt hxi
      have kn : (k : Int) < (n : Int) := by omega
      go_wp2_with fail
      have e0 : (wr.alloc (.cells #[.int .u8 xk, .int .u8 xt, .int .u8 xi] 98)).cell? ⟨wr.heap.size, 0, none⟩ = some (.int .u8 xk) := (row_block (heap_alloc_new wr _)).cell rfl
      have e1 : (wr.alloc (.cells #[.int .u8 xk, .int .u8 xt, .int .u8 xi] 98)).cell? ⟨wr.heap.size, 1, none⟩ = some (.int .u8 xt) := (row_block (heap_alloc_new wr _)).cell rfl
      have e2 : (wr.alloc (.cells #[.int .u8 xk, .int .u8 xt, .int .u8 xi] 98)).cell? ⟨wr.heap.size, 2, none⟩ = some (.int .u8 xi) := (row_block (heap_alloc_new wr _)).cell rfl
      have HO1 : Hid ((wr.alloc (.cells #[.int .u8 xk, .int .u8 xt, .int .u8 xi] 98)).ownsRow w.heap.size 64 3 (.slice (some ⟨g, 0, none⟩) k c) k (opCells (opsUp f k))) := HO.out.alloc _
      have hB1 : Below w.heap.size w (wr.alloc (.cells #[.int .u8 xk, .int .u8 xt, .int .u8 xi] 98)) := hB.alloc hB.size _
      have hs1 : (wr.alloc (.cells #[.int .u8 xk, .int .u8 xt, .int .u8 xi] 98)).heap.size = wr.heap.size + 1 := by simp
      have hgl : g < wr.heap.size := (row_owned HO.out).lt
      have hws := hB.size
      obtain ⟨W1, hW1⟩ : ∃ W1, wr.alloc (.cells #[.int .u8 xk, .int .u8 xt, .int .u8 xi] 98) = W1 := ⟨_, rfl⟩
      obtain ⟨P1, hP1⟩ : ∃ P1, wr.heap.size = P1 := ⟨_, rfl⟩
      rw [hW1] at e0 e1 e2 HO1 hB1 hs1 ⊢
      rw [hP1] at e0 e1 e2 hs1 hgl hws ⊢
      clear d0 d1 d2 hB HO hW1 hP1
      go_region_held3 (fun w' => w'.cell? ⟨P1, 0, none⟩ = some (.int .u8 xk) ∧ w'.cell? ⟨P1, 1, none⟩ = some (.int .u8 xt) ∧ w'.cell? ⟨P1, 2, none⟩ = some (.int .u8 xi))
        (first
          | go_keep
          | (go_split_ands
             refine ⟨?_, ?_, ?_⟩
             · (rw [hgrow.cell_far _ (by simp; omega) (by simp [Value.ownBlock]; omega)]; assumption)
             · (rw [hgrow.cell_far _ (by simp; omega) (by simp [Value.ownBlock]; omega)]; assumption)
             · (rw [hgrow.cell_far _ (by simp; omega) (by simp [Value.ownBlock]; omega)]; assumption)))
        (first
          | (go_at_call 36; refine (kind36 xk _ x0 x0').mono ?_; rintro e w' ⟨rfl, rfl⟩)
          | (go_at_call 37; refine (txn37 xt _ x1 x1').mono ?_; rintro e w' ⟨rfl, rfl⟩)
          | (go_at_call 38; refine (item38 xi _ x2 x2').mono ?_; rintro e w' ⟨rfl, rfl⟩)
          | (refine step_append_lies _ (by rfl) _ _ _ (by rfl) w.heap.size 64 i0 _ 3 32 Yba.underlying59 hi hz0 hz1 hz2 rfl (by omega) _ k (opCells (opsUp f k)) (by rfl) ((HO1.out.alloc _).drew)
              ⟨P1 + 1, 0, none⟩ 1 1 [.int .u8 (kOf xk), .int .i64 (tOf xt), .string (iOf xi)] (by rfl) (by rfl) (by rw [← hs1]; exact World.news_of_block (cs := #[.int .u8 (kOf xk), .int .i64 (tOf xt), .string (iOf xi)]) (t := 64) (fr := (0, 0)) (heap_alloc_new W1 _)) (by simp [Value.oneCell'])
              (by omega) (by unfold maxLen; omega) (by omega) (by simp; omega) (P1 + 2) (by simp; omega) ?_; intro gg cap1 w1 hown1 hgrow hat hlt1))
      go_wp2_with fail
      go_roundw
      case rel =>
        refine ⟨k + 1, gg, cap1, by omega, by go_num, rfl, ?_, ?_⟩
        · show World.ownsRow _ _ _ _ _ _ _
          rw [HE.out]; exact hown1
        · exact ((hB1.alloc (by omega) _).drew).grown hgrow (by simp; omega) (by intro q hq; cases hq; exact (HO1.out.lt _ rfl).1)
      case measure => simp [intOf]; omega
    · have hkn : k = n := by omega
      subst hkn
      have kn : ¬ (k : Int) < (k : Int) := by omega
      go_wp2_with fail
      go_ret
      exact ⟨g, c, rfl, HO.out, hB⟩
end Go.Proofs.Ybulkebqk
