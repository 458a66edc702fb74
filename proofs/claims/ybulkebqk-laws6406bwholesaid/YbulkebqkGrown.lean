/-
  push and grown, in one word: the queue of the stale indices gains one.
-/
import Derived.Test.YbulkebqkPlain
namespace Go.Proofs.Ybulkebqk
open Go.RowKit
set_option linter.unusedVariables false

/-- w' is w but for the blocks in S (and new ones). -/
structure KB (S : Nat → Prop) (w w' : World) : Prop where
  os : w'.os = w.os
  tape : w'.tape = w.tape
  output : w'.output = w.output
  size : w.heap.size ≤ w'.heap.size
  block : ∀ k, k < w.heap.size → ¬ S k → w'.heap[k]? = w.heap[k]?
theorem KB.refl (S : Nat → Prop) (w : World) : KB S w w := ⟨rfl, rfl, rfl, Nat.le_refl _, fun _ _ _ => rfl⟩
theorem KB.trans {S : Nat → Prop} {a b c : World} (h : KB S a b) (k : KB S b c) : KB S a c :=
  ⟨k.os.trans h.os, k.tape.trans h.tape, k.output.trans h.output, Nat.le_trans h.size k.size, fun i h1 h2 => (k.block i (Nat.lt_of_lt_of_le h1 h.size) h2).trans (h.block i h1 h2)⟩
theorem KB.mono {S T : Nat → Prop} {a b : World} (h : KB S a b) (hS : ∀ k, S k → T k) : KB T a b := ⟨h.os, h.tape, h.output, h.size, fun i h1 h2 => h.block i h1 (fun hs => h2 (hS i hs))⟩
theorem KB.setCell {S : Nat → Prop} {a b : World} (h : KB S a b) (x : Addr) (v : Value) (hx : S x.block) : KB S a (b.setCell x v) :=
  ⟨h.os, h.tape, h.output, by simpa using h.size, fun i h1 h2 => (Below.heap_setCell b x v i (fun e => h2 (e ▸ hx))).trans (h.block i h1 h2)⟩
theorem KB.drewN {S : Nat → Prop} {a b : World} (h : KB S a b) (n : Nat) : KB S a (b.drewN n) := ⟨h.os, h.tape, h.output, h.size, h.block⟩
theorem KB.row {S : Nat → Prop} {a b : World} {g : Nat} {vs : List Value} (h : KB S a b) (r : Row a g vs) (hg : ¬ S g) : Row b g vs := r.same (h.block g r.lt hg)
theorem KB.below {S : Nat → Prop} {a b : World} (h : KB S a b) {B : Nat} (hB : B ≤ a.heap.size) (hS : ∀ k, S k → B ≤ k) : Below B a b :=
  ⟨h.os, h.tape, h.output, h.size, fun k hk => h.block k (Nat.lt_of_lt_of_le hk hB) (fun hs => by have := hS k hs; omega)⟩

/-- The queue whose levels v leads to holds the stale indices st; its blocks lie from B up to H. -/
def QAt (w : World) (B H : Nat) (v : Value) (st : List Bool) (m : Nat) : Prop :=
  (1 ≤ m ∧ m ≤ 64 ∧ ∃ gl g0 cap, v = .slice (some ⟨gl, 0, none⟩) 1 cap ∧ (B ≤ gl ∧ gl < H) ∧ (B ≤ g0 ∧ g0 < H) ∧ g0 ≠ gl ∧ Row w gl [.slice (some ⟨g0, 0, none⟩) 1 1] ∧ Row w g0 (ints .u64 (L0 st 1 m))) ∨
  (65 ≤ m ∧ m ≤ 130 ∧ ∃ gl g0 g1 cap, v = .slice (some ⟨gl, 0, none⟩) 2 cap ∧ (B ≤ gl ∧ gl < H) ∧ (B ≤ g0 ∧ g0 < H) ∧ (B ≤ g1 ∧ g1 < H) ∧ g0 ≠ gl ∧ g1 ≠ gl ∧ g0 ≠ g1 ∧
    Row w gl [.slice (some ⟨g0, 0, none⟩) ((m + 63) / 64) ((m + 63) / 64), .slice (some ⟨g1, 0, none⟩) 1 1] ∧ Row w g0 (ints .u64 (L0 st ((m + 63) / 64) m)) ∧ Row w g1 (ints .u64 [L1 st m]))

theorem QAt.same {w w' : World} {B H : Nat} {v : Value} {st : List Bool} {m : Nat} (h : QAt w B H v st m) (e : ∀ k, B ≤ k → k < H → w'.heap[k]? = w.heap[k]?) : QAt w' B H v st m := by
  rcases h with ⟨h1, h2, gl, g0, cap, hv, hl, h0, hne, rl, r0⟩ | ⟨h1, h2, gl, g0, g1, cap, hv, hl, h0, h1', n1, n2, n3, rl, r0, r1⟩
  · exact .inl ⟨h1, h2, gl, g0, cap, hv, hl, h0, hne, rl.same (e _ hl.1 hl.2), r0.same (e _ h0.1 h0.2)⟩
  · exact .inr ⟨h1, h2, gl, g0, g1, cap, hv, hl, h0, h1', n1, n2, n3, rl.same (e _ hl.1 hl.2), r0.same (e _ h0.1 h0.2), r1.same (e _ h1'.1 h1'.2)⟩

theorem push_q {w : World} {B H : Nat} {v : Value} {st : List Bool} {m : Nat} (h : QAt w B H v st m) (qb u : Nat) (hq : w.cell? ⟨qb, 0, none⟩ = some v) (hu : u < m) (hst : st.length = m) (hs : st.getD u false = false) :
    Calls Yba.prog 46 #[.pointer (some ⟨qb, 0, none⟩), .int .i64 u] w fun e w' => e = .returned (.tuple #[]) ∧ QAt w' B H v (st.set u true) m ∧ KB (fun k => B ≤ k ∧ k < H) w w' := by
  rcases h with ⟨h1, h2, gl, g0, cap, rfl, hl, h0, hne, rl, r0⟩ | ⟨h1, h2, gl, g0, g1, cap, rfl, hl, h0, h1', n1, n2, n3, rl, r0, r1⟩
  · have hlen := L0_len st 1 m
    have cx := r0.cell (ints_at .u64 _ 0 (by omega))
    have cl := rl.cell (i := 0) rfl
    have hd : u / 64 = 0 := by omega
    have fin : ∀ (e : Ending) (w' : World), (e = .returned (.tuple #[]) ∧ ∃ k, w' = (w.setCell ⟨g0, 0, none⟩ (.int .u64 (bits .or .u64 ((L0 st 1 m).getD 0 0) (bt (u % 64))))).drewN k) → e = .returned (.tuple #[]) ∧ QAt w' B H (.slice (some ⟨gl, 0, none⟩) 1 cap) (st.set u true) m ∧ KB (fun k => B ≤ k ∧ k < H) w w' := by
      rintro e w' ⟨rfl, k, rfl⟩
      refine ⟨rfl, .inl ⟨h1, h2, gl, g0, cap, rfl, hl, h0, hne, rl.other ⟨g0, 0, none⟩ _ (fun h => hne h.symm), ?_⟩, ((KB.refl _ w).setCell _ _ h0).drewN _⟩
      rw [L0_add st 1 u (by omega) hs (by omega), if_pos hu, hd, ← ints_set]
      exact r0.set 0 _
    cases hx : ((L0 st 1 m).getD 0 0 != 0) with
    | true => exact (push_had qb gl g0 1 cap 1 u 0 (u % 64) _ w hd rfl (by omega) (by omega) (by omega) (by omega) hq cl cx (r0.frozen 0) hx).mono fin
    | false => exact (push_one qb gl g0 cap u (u % 64) _ w hd rfl hq cl cx (r0.frozen 0) hx).mono fin
  · obtain ⟨n0, hn0⟩ : ∃ n0, n0 = (m + 63) / 64 := ⟨_, rfl⟩
    rw [← hn0] at rl r0
    have hlen := L0_len st n0 m
    have cx := r0.cell (ints_at .u64 _ (u / 64) (by omega))
    have cl := rl.cell (i := 0) rfl
    have cl1 := rl.cell (i := 1) rfl
    have cy := r1.cell (i := 0) rfl
    cases hx : ((L0 st n0 m).getD (u / 64) 0 != 0) with
    | true =>
      refine (push_had qb gl g0 2 cap n0 u (u / 64) (u % 64) _ w rfl rfl (by omega) (by omega) (by omega) (by omega) hq cl cx (r0.frozen _) hx).mono ?_
      rintro e w' ⟨rfl, k, rfl⟩
      refine ⟨rfl, .inr ⟨h1, h2, gl, g0, g1, cap, rfl, hl, h0, h1', n1, n2, n3, ?_, ?_, ?_⟩, ((KB.refl _ w).setCell _ _ h0).drewN _⟩
      · rw [← hn0]; exact rl.other ⟨g0, u / 64, none⟩ _ (fun h => n1 h.symm)
      · rw [← hn0, L0_add st n0 u (by omega) hs (by omega), if_pos hu, ← ints_set]
        exact r0.set (u / 64) _
      · rw [L1_add st u (by omega) hs, if_pos hu, L1_had st n0 (u / 64) m (by simpa using hx)]
        exact r1.other ⟨g0, u / 64, none⟩ _ (fun h => n3 h.symm)
    | false =>
      refine (push_two qb gl g0 g1 cap n0 u (u / 64) (u % 64) _ _ w rfl rfl (by omega) (by omega) hq cl cl1 cx (r0.frozen _) cy (r1.frozen 0) n3 n1 n2 hx).mono ?_
      rintro e w' ⟨rfl, k, rfl⟩
      refine ⟨rfl, .inr ⟨h1, h2, gl, g0, g1, cap, rfl, hl, h0, h1', n1, n2, n3, ?_, ?_, ?_⟩, (((KB.refl _ w).setCell _ _ h0).setCell _ _ h1').drewN _⟩
      · rw [← hn0]; exact (rl.other ⟨g0, u / 64, none⟩ _ (fun h => n1 h.symm)).other ⟨g1, 0, none⟩ _ (fun h => n2 h.symm)
      · rw [← hn0, L0_add st n0 u (by omega) hs (by omega), if_pos hu, ← ints_set]
        exact (r0.set (u / 64) _).other ⟨g1, 0, none⟩ _ n3
      · rw [L1_add st u (by omega) hs, if_pos hu]
        exact (r1.other ⟨g0, u / 64, none⟩ (.int .u64 (bits .or .u64 ((L0 st n0 m).getD (u / 64) 0) (bt (u % 64)))) (fun h => n3 h.symm)).set 0 _

theorem grown_no (F G4 m u : Nat) (g b : Bool) (wd : Int) (vr vl vc vg : Value) (qb : Nat) (tr : Bool) (ts : Int) (w : World) (hm : (m : Int) ≤ 1000) (hu : (u : Int) < (m : Int)) (hF : FO w F wd vr vl (.slice (some ⟨G4, 0, none⟩) m m) vc vg qb tr ts) (hb : w.cell? ⟨G4, u, none⟩ = some (.bool b)) (h : (g && !b) = false) :
    Calls Yba.prog 35 #[.pointer (some ⟨F, 0, none⟩), .int .i64 u, .bool g] w fun e w' => e = .returned (.tuple #[]) ∧ w' = w := by
  obtain ⟨c13, c14, c15, c22, c23, c28, c30, c31, c32, fz, lt⟩ := hF
  cases g
  · go_enter Yba.func35, Yba.ntmps35
    go_wp2
    go_end0
    exact ⟨rfl, rfl⟩
  · obtain rfl : b = true := by simpa using h
    go_enter Yba.func35, Yba.ntmps35
    go_wp2
    go_end0
    exact ⟨rfl, rfl⟩

theorem grown_yes (F G4 m u : Nat) (wd : Int) (vr vl vc vg : Value) (qb : Nat) (tr : Bool) (ts : Int) (w : World) (Post : World → Prop) (hm : (m : Int) ≤ 1000) (hu : (u : Int) < (m : Int)) (hF : FO w F wd vr vl (.slice (some ⟨G4, 0, none⟩) m m) vc vg qb tr ts) (hb : w.cell? ⟨G4, u, none⟩ = some (.bool false)) (hf : w.frozen? ⟨G4, u, none⟩ = false) (hne : G4 ≠ F)
    (hp : Calls Yba.prog 46 #[.pointer (some ⟨qb, 0, none⟩), .int .i64 u] (w.setCell ⟨G4, u, none⟩ (.bool true)) fun e w' => e = .returned (.tuple #[]) ∧ Post w') :
    Calls Yba.prog 35 #[.pointer (some ⟨F, 0, none⟩), .int .i64 u, .bool true] w fun e w' => e = .returned (.tuple #[]) ∧ Post w' := by
  obtain ⟨c13, c14, c15, c22, c23, c28, c30, c31, c32, fz, lt⟩ := hF
  have hne' : F ≠ G4 := fun h => hne h.symm
  have HP : Hid _ := hp
  clear hp
  go_enter Yba.func35, Yba.ntmps35
  go_wp2_with fail
  refine Calls.mono HP.out ?_
  rintro e w' ⟨rfl, hpost⟩
  go_wp2_with fail
  go_end0
  exact ⟨rfl, hpost⟩
end Go.Proofs.Ybulkebqk
