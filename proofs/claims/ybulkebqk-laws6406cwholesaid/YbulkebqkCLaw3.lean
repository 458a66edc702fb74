/-
  What the law's loops 2, 3 and 4 carry, as one state each, with its steps.
-/
import Derived.Test.YbulkebqkCLaw2
import Derived.Test.YbulkebqkCLawP
namespace Go.Proofs.Ybulkebqk
open Go.RowKit
set_option linter.unusedVariables false

/-- Loop 2's state: the rows of accT, accI, accK, the tables ends (block N) and abs (block N + 1). -/
structure S2 (N : Nat) (W : World) (e : List Nat) (bs : List Bool) (Ts Is : List Nat) (Ks : List Int) (vT vI vK : Value) (w : World) : Prop where
  oT : w.ownsRow (N + 2) 3 1 vT Ts.length (nats Ts)
  oI : w.ownsRow (N + 2) 3 1 vI Is.length (nats Is)
  oK : w.ownsRow (N + 2) 62 1 vK Ks.length (ints .u8 Ks)
  ap : Ap vT vI
  be : Blk w N 3 (nats e)
  bb : Blk w (N + 1) 4 (bools bs)
  sz : N + 2 ≤ w.heap.size
  bl : Below N W w
section
variable {N : Nat} {W w w' : World} {e : List Nat} {bs : List Bool} {Ts Is : List Nat} {Ks : List Int} {vT vI vK v' : Value}
theorem S2.alloc (h : S2 N W e bs Ts Is Ks vT vI vK w) (o : Obj) : S2 N W e bs Ts Is Ks vT vI vK (w.alloc o) :=
  ⟨h.oT.alloc o, h.oI.alloc o, h.oK.alloc o, h.ap, h.be.alloc o, h.bb.alloc o, by have := h.sz; simp; omega, h.bl.alloc (by have := h.sz; omega) o⟩
theorem S2.growT (h : S2 N W e bs Ts Is Ks vT vI vK w) {x : Nat} (ho : w'.ownsRow (N + 2) 3 1 v' (Ts.length + 1) (nats Ts ++ [.int .i64 (x : Int)])) (hg : w.grownBy w' vT.ownBlock) (ha : v'.ownBlock = vT.ownBlock ∨ v'.ownBlock = some w.heap.size) : S2 N W e bs (Ts ++ [x]) Is Ks v' vI vK w' :=
  ⟨by rw [List.length_append, nats, List.map_append]; exact ho, owns_grown h.oI hg h.ap.symm, owns_grown h.oK hg (ap_types h.oK h.oT (by decide)), h.ap.next ha fun g hg => (h.oI.lt g hg).2, h.be.low h.oT hg (by omega), h.bb.low h.oT hg (by omega), Nat.le_trans h.sz hg.size, below_own h.bl h.oT hg (by omega) (by have := h.sz; omega)⟩
theorem S2.growI (h : S2 N W e bs Ts Is Ks vT vI vK w) {x : Nat} (ho : w'.ownsRow (N + 2) 3 1 v' (Is.length + 1) (nats Is ++ [.int .i64 (x : Int)])) (hg : w.grownBy w' vI.ownBlock) (ha : v'.ownBlock = vI.ownBlock ∨ v'.ownBlock = some w.heap.size) : S2 N W e bs Ts (Is ++ [x]) Ks vT v' vK w' :=
  ⟨owns_grown h.oT hg h.ap, by rw [List.length_append, nats, List.map_append]; exact ho, owns_grown h.oK hg (ap_types h.oK h.oI (by decide)), (h.ap.symm.next ha fun g hg => (h.oT.lt g hg).2).symm, h.be.low h.oI hg (by omega), h.bb.low h.oI hg (by omega), Nat.le_trans h.sz hg.size, below_own h.bl h.oI hg (by omega) (by have := h.sz; omega)⟩
theorem S2.growK (h : S2 N W e bs Ts Is Ks vT vI vK w) {x : Int} (ho : w'.ownsRow (N + 2) 62 1 v' (Ks.length + 1) (ints .u8 Ks ++ [.int .u8 x])) (hg : w.grownBy w' vK.ownBlock) : S2 N W e bs Ts Is (Ks ++ [x]) vT vI v' w' :=
  ⟨owns_grown h.oT hg (ap_types h.oT h.oK (by decide)), owns_grown h.oI hg (ap_types h.oI h.oK (by decide)), by rw [List.length_append, ints, List.map_append]; exact ho, h.ap, h.be.low h.oK hg (by omega), h.bb.low h.oK hg (by omega), Nat.le_trans h.sz hg.size, below_own h.bl h.oK hg (by omega) (by have := h.sz; omega)⟩
theorem owns_put {base n size b : Nat} {t : TypeId} {v : Value} {xs : List Value} (h : w.ownsRow base t size v n xs) (hb : b < base) (i : Nat) (u : Value) : (w.setCell ⟨b, i, none⟩ u).ownsRow base t size v n xs :=
  owns_same h fun g e => Below.heap_setCell _ _ _ _ (by have := (h.lt g e).1; show g ≠ b; omega)
theorem S2.setE (h : S2 N W e bs Ts Is Ks vT vI vK w) (i z : Nat) : S2 N W (e.set i z) bs Ts Is Ks vT vI vK (w.setCell ⟨N, i, none⟩ (.int .i64 (z : Int))) :=
  ⟨owns_put h.oT (by omega) _ _, owns_put h.oI (by omega) _ _, owns_put h.oK (by omega) _ _, h.ap, by rw [← nats_set]; exact h.be.set _ _, h.bb.other _ _ (by show N + 1 ≠ N; omega), by have := h.sz; simp [World.setCell]; omega, h.bl.setCell (Nat.le_refl _) _⟩
theorem S2.setB (h : S2 N W e bs Ts Is Ks vT vI vK w) (i : Nat) (b : Bool) : S2 N W e (bs.set i b) Ts Is Ks vT vI vK (w.setCell ⟨N + 1, i, none⟩ (.bool b)) :=
  ⟨owns_put h.oT (by omega) _ _, owns_put h.oI (by omega) _ _, owns_put h.oK (by omega) _ _, h.ap, h.be.other _ _ (by show N ≠ N + 1; omega), by rw [← bools_put]; exact h.bb.set _ _, by have := h.sz; simp [World.setCell]; omega, h.bl.setCell (show N ≤ N + 1 by omega) _⟩
end

/-- Loops 3 and 4's state: the tables wantPair (M), pairStart (M + 1), start (M + 2), the rows of list and seen. -/
structure S4 (M : Nat) (W : World) (wp ps st Ls Ss : List Nat) (vL vS : Value) (w : World) : Prop where
  oL : w.ownsRow (M + 3) 3 1 vL Ls.length (nats Ls)
  oS : w.ownsRow (M + 3) 3 1 vS Ss.length (nats Ss)
  ap : Ap vL vS
  b0 : Blk w M 3 (nats wp)
  b1 : Blk w (M + 1) 3 (nats ps)
  b2 : Blk w (M + 2) 3 (nats st)
  sz : M + 3 ≤ w.heap.size
  bl : Below M W w
section
variable {M : Nat} {W w w' : World} {wp ps st Ls Ss : List Nat} {vL vS v' : Value}
theorem S4.alloc (h : S4 M W wp ps st Ls Ss vL vS w) (o : Obj) : S4 M W wp ps st Ls Ss vL vS (w.alloc o) :=
  ⟨h.oL.alloc o, h.oS.alloc o, h.ap, h.b0.alloc o, h.b1.alloc o, h.b2.alloc o, by have := h.sz; simp; omega, h.bl.alloc (by have := h.sz; omega) o⟩
theorem S4.growL (h : S4 M W wp ps st Ls Ss vL vS w) {x : Nat} (ho : w'.ownsRow (M + 3) 3 1 v' (Ls.length + 1) (nats Ls ++ [.int .i64 (x : Int)])) (hg : w.grownBy w' vL.ownBlock) (ha : v'.ownBlock = vL.ownBlock ∨ v'.ownBlock = some w.heap.size) : S4 M W wp ps st (Ls ++ [x]) Ss v' vS w' :=
  ⟨by rw [List.length_append, nats, List.map_append]; exact ho, owns_grown h.oS hg h.ap.symm, h.ap.next ha fun g hg => (h.oS.lt g hg).2, h.b0.low h.oL hg (by omega), h.b1.low h.oL hg (by omega), h.b2.low h.oL hg (by omega), Nat.le_trans h.sz hg.size, below_own h.bl h.oL hg (by omega) (by have := h.sz; omega)⟩
theorem S4.growS (h : S4 M W wp ps st Ls Ss vL vS w) {x : Nat} (ho : w'.ownsRow (M + 3) 3 1 v' (Ss.length + 1) (nats Ss ++ [.int .i64 (x : Int)])) (hg : w.grownBy w' vS.ownBlock) (ha : v'.ownBlock = vS.ownBlock ∨ v'.ownBlock = some w.heap.size) : S4 M W wp ps st Ls (Ss ++ [x]) vL v' w' :=
  ⟨owns_grown h.oL hg h.ap, by rw [List.length_append, nats, List.map_append]; exact ho, (h.ap.symm.next ha fun g hg => (h.oL.lt g hg).2).symm, h.b0.low h.oS hg (by omega), h.b1.low h.oS hg (by omega), h.b2.low h.oS hg (by omega), Nat.le_trans h.sz hg.size, below_own h.bl h.oS hg (by omega) (by have := h.sz; omega)⟩
theorem S4.nilS (h : S4 M W wp ps st Ls Ss vL vS w) : S4 M W wp ps st Ls [] vL (.slice none 0 0) w :=
  ⟨h.oL, World.ownsRow_nil _ _ _ _, (ap_nil vL).symm, h.b0, h.b1, h.b2, h.sz, h.bl⟩
theorem S4.set0 (h : S4 M W wp ps st Ls Ss vL vS w) (i z : Nat) : S4 M W (wp.set i z) ps st Ls Ss vL vS (w.setCell ⟨M, i, none⟩ (.int .i64 (z : Int))) :=
  ⟨owns_put h.oL (by omega) _ _, owns_put h.oS (by omega) _ _, h.ap, by rw [← nats_set]; exact h.b0.set _ _, h.b1.other _ _ (by show M + 1 ≠ M; omega), h.b2.other _ _ (by show M + 2 ≠ M; omega), by have := h.sz; simp [World.setCell]; omega, h.bl.setCell (Nat.le_refl _) _⟩
theorem S4.set1 (h : S4 M W wp ps st Ls Ss vL vS w) (i z : Nat) : S4 M W wp (ps.set i z) st Ls Ss vL vS (w.setCell ⟨M + 1, i, none⟩ (.int .i64 (z : Int))) :=
  ⟨owns_put h.oL (by omega) _ _, owns_put h.oS (by omega) _ _, h.ap, h.b0.other _ _ (by show M ≠ M + 1; omega), by rw [← nats_set]; exact h.b1.set _ _, h.b2.other _ _ (by show M + 2 ≠ M + 1; omega), by have := h.sz; simp [World.setCell]; omega, h.bl.setCell (show M ≤ M + 1 by omega) _⟩
theorem S4.set2 (h : S4 M W wp ps st Ls Ss vL vS w) (i z : Nat) : S4 M W wp ps (st.set i z) Ls Ss vL vS (w.setCell ⟨M + 2, i, none⟩ (.int .i64 (z : Int))) :=
  ⟨owns_put h.oL (by omega) _ _, owns_put h.oS (by omega) _ _, h.ap, h.b0.other _ _ (by show M ≠ M + 2; omega), h.b1.other _ _ (by show M + 1 ≠ M + 2; omega), by rw [← nats_set]; exact h.b2.set _ _, by have := h.sz; simp [World.setCell]; omega, h.bl.setCell (show M ≤ M + 2 by omega) _⟩
theorem S4.drewN (h : S4 M W wp ps st Ls Ss vL vS w) (d : Nat) : S4 M W wp ps st Ls Ss vL vS (w.drewN d) := ⟨h.oL, h.oS, h.ap, h.b0, h.b1, h.b2, h.sz, below_drewN h.bl d⟩
end
end Go.Proofs.Ybulkebqk
