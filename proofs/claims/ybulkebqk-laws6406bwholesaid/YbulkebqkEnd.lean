/-
  The last expression's calls, each in whatever world the draws before it have left.
-/
import Derived.Test.YbulkebqkFin
namespace Go.Proofs.Ybulkebqk
open Go.RowKit
set_option linter.unusedVariables false

theorem rowsEq11 {g h n' c1 c2 : Nat} {zs : List Int} {W : World} (hg : Row W g (ints .u64 zs)) (hh : Row W h (ints .u64 zs)) (hn : zs.length = n') (hm : n' ≤ 1000000) : Calls Yba.prog 11 #[.slice (some ⟨g, 0, none⟩) n' c1, .slice (some ⟨h, 0, none⟩) n' c2] W fun e w'' => e = .returned (.bool true) ∧ ∃ k, w'' = W.drewN k :=
  equal11_some g 0 h 0 n' c1 c2 (fun i => zs.getD i 0) W (by omega) (fun i hi => by rw [Nat.zero_add]; exact hg.cell (ints_at _ _ _ (by omega))) (fun i hi => by rw [Nat.zero_add]; exact hh.cell (ints_at _ _ _ (by omega)))
theorem rowsEq12 {g h n' c1 c2 : Nat} {zs : List Int} {W : World} (hg : Row W g (ints .i32 zs)) (hh : Row W h (ints .i32 zs)) (hn : zs.length = n') (hm : n' ≤ 1000000) : Calls Yba.prog 12 #[.slice (some ⟨g, 0, none⟩) n' c1, .slice (some ⟨h, 0, none⟩) n' c2] W fun e w'' => e = .returned (.bool true) ∧ ∃ k, w'' = W.drewN k :=
  equal12_some g 0 h 0 n' c1 c2 (fun i => zs.getD i 0) W (by omega) (fun i hi => by rw [Nat.zero_add]; exact hg.cell (ints_at _ _ _ (by omega))) (fun i hi => by rw [Nat.zero_add]; exact hh.cell (ints_at _ _ _ (by omega)))
theorem rowsEq13 {g h n' c1 c2 : Nat} {zs : List Bool} {W : World} (hg : Row W g (bools zs)) (hh : Row W h (bools zs)) (hn : zs.length = n') (hm : n' ≤ 1000000) : Calls Yba.prog 13 #[.slice (some ⟨g, 0, none⟩) n' c1, .slice (some ⟨h, 0, none⟩) n' c2] W fun e w'' => e = .returned (.bool true) ∧ ∃ k, w'' = W.drewN k :=
  equal13_some g 0 h 0 n' c1 c2 (fun i => zs.getD i false) W (by omega) (fun i hi => by rw [Nat.zero_add]; exact hg.cell (bools_at _ _ (by omega))) (fun i hi => by rw [Nat.zero_add]; exact hh.cell (bools_at _ _ (by omega)))

theorem end1 {w : World} {F G1 G3 N m qb xb words nf gE1 gE2 gE3 gE4 : Nat} {v2 vqa vqb v50 : Value} {tr : Bool} {ts : Int} {rr ll lw' : List Int} {st2 : List Bool} {n : Nat} {l : List (Int × Int)} {a4 : Option Addr} {f : Nat → Int} {w' : World}
    (D : Done w F G1 G3 N m qb xb words nf gE1 gE2 gE3 gE4 v2 vqa vqb v50 tr ts rr ll lw' st2 n l a4 f w') (d : Nat) (cf : Nat) (hnf : nf ≤ 4096) : Calls Yba.prog 11 #[.slice a4 nf cf, v50] (w'.drewN d) fun e w'' => e = .returned (.bool true) ∧ ∃ k, w'' = (w'.drewN d).drewN k := by
  obtain ⟨wc, wd, hc, hk⟩ := D.cp
  exact equal11_arg a4 nf cf f v50 w wc wd (w'.drewN d) hnf D.arg (below_drewN D.below d) hc (fun g h1 h2 => hk g h1 h2)


theorem end2 {w : World} {F G1 G3 N m qb xb words nf gE1 gE2 gE3 gE4 : Nat} {v2 vqa vqb v50 : Value} {tr : Bool} {ts : Int} {rr ll lw' : List Int} {st2 : List Bool} {n : Nat} {l : List (Int × Int)} {a4 : Option Addr} {f : Nat → Int} {w' : World}
    (D : Done w F G1 G3 N m qb xb words nf gE1 gE2 gE3 gE4 v2 vqa vqb v50 tr ts rr ll lw' st2 n l a4 f w') (d : Nat) (c1 c2 : Nat) (h : N ≤ 1000000) : Calls Yba.prog 11 #[.slice (some ⟨G1, 0, none⟩) N c1, .slice (some ⟨gE1, 0, none⟩) N c2] (w'.drewN d) fun e w'' => e = .returned (.bool true) ∧ ∃ k, w'' = (w'.drewN d).drewN k :=
  rowsEq11 (D.r1.drewN d) (D.e1.drewN d) D.lens.1 h
theorem end3 {w : World} {F G1 G3 N m qb xb words nf gE1 gE2 gE3 gE4 : Nat} {v2 vqa vqb v50 : Value} {tr : Bool} {ts : Int} {rr ll lw' : List Int} {st2 : List Bool} {n : Nat} {l : List (Int × Int)} {a4 : Option Addr} {f : Nat → Int} {w' : World}
    (D : Done w F G1 G3 N m qb xb words nf gE1 gE2 gE3 gE4 v2 vqa vqb v50 tr ts rr ll lw' st2 n l a4 f w') (d : Nat) (c1 c2 : Nat) (h : m ≤ 1000000) : Calls Yba.prog 12 #[.slice (some ⟨G3, 0, none⟩) m c1, .slice (some ⟨gE3, 0, none⟩) m c2] (w'.drewN d) fun e w'' => e = .returned (.bool true) ∧ ∃ k, w'' = (w'.drewN d).drewN k :=
  rowsEq12 (D.r3.drewN d) (D.e3.drewN d) D.lens.2.2.1 h
theorem end4 {w : World} {F G1 G3 N m qb xb words nf gE1 gE2 gE3 gE4 : Nat} {v2 vqa vqb v50 : Value} {tr : Bool} {ts : Int} {rr ll lw' : List Int} {st2 : List Bool} {n : Nat} {l : List (Int × Int)} {a4 : Option Addr} {f : Nat → Int} {w' : World}
    (D : Done w F G1 G3 N m qb xb words nf gE1 gE2 gE3 gE4 v2 vqa vqb v50 tr ts rr ll lw' st2 n l a4 f w') (d : Nat) (c1 c2 : Nat) (h : m ≤ 1000000) : Calls Yba.prog 13 #[.slice (some ⟨G3 + 1, 0, none⟩) m c1, .slice (some ⟨gE4, 0, none⟩) m c2] (w'.drewN d) fun e w'' => e = .returned (.bool true) ∧ ∃ k, w'' = (w'.drewN d).drewN k :=
  rowsEq13 (D.r4.drewN d) (D.e4.drewN d) D.lens.2.2.2 h
theorem end5 {w : World} {F G1 G3 N m qb xb words nf gE1 gE2 gE3 gE4 : Nat} {v2 vqa vqb v50 : Value} {tr : Bool} {ts : Int} {rr ll lw' : List Int} {st2 : List Bool} {n : Nat} {l : List (Int × Int)} {a4 : Option Addr} {f : Nat → Int} {w' : World}
    (D : Done w F G1 G3 N m qb xb words nf gE1 gE2 gE3 gE4 v2 vqa vqb v50 tr ts rr ll lw' st2 n l a4 f w') (d : Nat) (c1 c2 : Nat) (h : N ≤ 1000000) : Calls Yba.prog 12 #[.slice (some ⟨G1 + 1, 0, none⟩) N c1, .slice (some ⟨gE2, 0, none⟩) N c2] (w'.drewN d) fun e w'' => e = .returned (.bool true) ∧ ∃ k, w'' = (w'.drewN d).drewN k :=
  rowsEq12 (D.r2.drewN d) (D.e2.drewN d) D.lens.2.1 h
theorem end6 {w : World} {F G1 G3 N m qb xb words nf gE1 gE2 gE3 gE4 : Nat} {v2 vqa vqb v50 : Value} {tr : Bool} {ts : Int} {rr ll lw' : List Int} {st2 : List Bool} {n : Nat} {l : List (Int × Int)} {a4 : Option Addr} {f : Nat → Int} {w' : World}
    (D : Done w F G1 G3 N m qb xb words nf gE1 gE2 gE3 gE4 v2 vqa vqb v50 tr ts rr ll lw' st2 n l a4 f w') (d : Nat) {vc : Value} {b1 : Nat} (ho : w'.ownsRow b1 29 2 vc n (prs l)) (h : n ≤ 1000000) : Calls Yba.prog 14 #[vc, v2] (w'.drewN d) fun e w'' => e = .returned (.bool true) ∧ ∃ k, w'' = (w'.drewN d).drewN k := by
  obtain ⟨b2, h2⟩ := D.oE
  exact equal14_own b1 b2 n vc v2 l (w'.drewN d) h ho h2
theorem end7 {w : World} {F G1 G3 N m qb xb words nf gE1 gE2 gE3 gE4 : Nat} {v2 vqa vqb v50 : Value} {tr : Bool} {ts : Int} {rr ll lw' : List Int} {st2 : List Bool} {n : Nat} {l : List (Int × Int)} {a4 : Option Addr} {f : Nat → Int} {w' : World}
    (D : Done w F G1 G3 N m qb xb words nf gE1 gE2 gE3 gE4 v2 vqa vqb v50 tr ts rr ll lw' st2 n l a4 f w') (d : Nat) : Calls Yba.prog 15 #[.agg #[vqb], .agg #[vqa]] (w'.drewN d) fun e w'' => e = .returned (.bool true) ∧ Below w.heap.size w w'' := by
  obtain ⟨B1, H1, h1⟩ := D.q1
  obtain ⟨B2, H2, h2⟩ := D.q2
  refine (sameq_any (w := w'.drewN d) (h2.same (fun k _ _ => rfl)) (h1.same (fun k _ _ => rfl))).mono ?_
  rintro e w'' ⟨rfl, hb⟩
  exact ⟨rfl, (below_drewN D.below d).trans (hb.mono D.below.size)⟩

theorem owns_below {B base n : Nat} {w w' : World} {v : Value} {xs : List Value} (h : w.ownsRow base 29 2 v n xs) (hb : Below w.heap.size w w') : w'.ownsRow base 29 2 v n xs := owns_same h (fun g hg => hb.block g (h.lt g hg).2)
theorem q_below {w w' : World} {B H m : Nat} {v : Value} {st : List Bool} (h : QAt w B H v st m) (hb : Below w.heap.size w w') : QAt w' B H v st m := by
  rcases h with ⟨h1, h2, gl, g0, cap, hv, hl, h0, hne, rl, r0⟩ | ⟨h1, h2, gl, g0, g1, cap, hv, hl, h0, h1', n1, n2, n3, rl, r0, r1⟩
  · exact .inl ⟨h1, h2, gl, g0, cap, hv, hl, h0, hne, rl.below hb rl.lt, r0.below hb r0.lt⟩
  · exact .inr ⟨h1, h2, gl, g0, g1, cap, hv, hl, h0, h1', n1, n2, n3, rl.below hb rl.lt, r0.below hb r0.lt, r1.below hb r1.lt⟩

/-- What was held stays held while nothing that is there is written. -/
theorem done_below {w : World} {F G1 G3 N m qb xb words nf gE1 gE2 gE3 gE4 : Nat} {v2 vqa vqb v50 : Value} {tr : Bool} {ts : Int} {rr ll lw' : List Int} {st2 : List Bool} {n : Nat} {l : List (Int × Int)} {a4 : Option Addr} {f : Nat → Int} {w' : World} {V : World}
    (D : Done w F G1 G3 N m qb xb words nf gE1 gE2 gE3 gE4 v2 vqa vqb v50 tr ts rr ll lw' st2 n l a4 f w') (hb : Below w'.heap.size w' V) : Done w F G1 G3 N m qb xb words nf gE1 gE2 gE3 gE4 v2 vqa vqb v50 tr ts rr ll lw' st2 n l a4 f V := by
  obtain ⟨⟨vc, b1, hF, ho⟩, ⟨b2, h2⟩, r1, e1, r2, e2, r3, e3, r4, e4, ⟨B1, H1, q1⟩, ⟨B2, H2, q2⟩, cq, cx, ⟨wc, wd, hc, hk⟩, arg, bel, lens⟩ := D
  exact {
    fo := ⟨vc, b1, hF.same (hb.block _ hF.lt), owns_below (B := 0) ho hb⟩
    oE := ⟨b2, owns_below (B := 0) h2 hb⟩
    r1 := r1.below hb r1.lt, e1 := e1.below hb e1.lt, r2 := r2.below hb r2.lt, e2 := e2.below hb e2.lt, r3 := r3.below hb r3.lt, e3 := e3.below hb e3.lt, r4 := r4.below hb r4.lt, e4 := e4.below hb e4.lt
    q1 := ⟨B1, H1, q_below q1 hb⟩
    q2 := ⟨B2, H2, q_below q2 hb⟩
    cq := (hb.cell (World.block_lt_of_cell? _ _ cq)).trans cq
    cx := (hb.cell (World.block_lt_of_cell? _ _ cx)).trans cx
    cp := ⟨wc, wd, hc, fun g h1 h2 => by
      have h3 := hk g h1 h2
      have h4 : g < w'.heap.size := by
        rcases Nat.lt_or_ge g w'.heap.size with h | h
        · exact h
        · rw [Array.getElem?_eq_none h, Array.getElem?_eq_getElem h2] at h3; cases h3
      exact (hb.block g h4).trans h3⟩
    arg := arg
    below := bel.trans (hb.mono bel.size)
    lens := lens }

/-- A world in which all is as it was in W, but for new blocks and draws. -/
structure OkW (W : World) where
  val : World
  ok : Below W.heap.size W val
theorem ok_draws {W : World} (x : OkW W) {f : FuncId} {args : Array Value} {v : Value} (h : Calls Yba.prog f args (x.val.drewN 0) fun e w'' => e = .returned v ∧ ∃ k, w'' = (x.val.drewN 0).drewN k) : Calls Yba.prog f args x.val fun e w'' => e = .returned v ∧ ∃ y : OkW W, w'' = y.val :=
  Calls.mono h (fun _ _ ⟨he, k, hk⟩ => ⟨he, ⟨_, below_drewN (below_drewN x.ok 0) k⟩, hk⟩)
/-- sameq, in such a world. -/
theorem ok_end7 {w : World} {F G1 G3 N m qb xb words nf gE1 gE2 gE3 gE4 : Nat} {v2 vqa vqb v50 : Value} {tr : Bool} {ts : Int} {rr ll lw' : List Int} {st2 : List Bool} {n : Nat} {l : List (Int × Int)} {a4 : Option Addr} {f : Nat → Int} {w' : World} (x : OkW w')
    (D : Done w F G1 G3 N m qb xb words nf gE1 gE2 gE3 gE4 v2 vqa vqb v50 tr ts rr ll lw' st2 n l a4 f w') : Calls Yba.prog 15 #[.agg #[vqb], .agg #[vqa]] x.val fun e w'' => e = .returned (.bool true) ∧ ∃ y : OkW w', w'' = y.val := by
  have D' := done_below D x.ok
  obtain ⟨B1, H1, h1⟩ := D'.q1
  obtain ⟨B2, H2, h2⟩ := D'.q2
  refine (sameq_any h2 h1).mono ?_
  rintro e w'' ⟨rfl, hb⟩
  exact ⟨rfl, ⟨w'', x.ok.trans (hb.mono x.ok.size)⟩, rfl⟩
end Go.Proofs.Ybulkebqk
