/-
  The numbering's map as the law looks into it.
-/
import Derived.Test.YbulkebqkCLaw4
namespace Go.Proofs.Ybulkebqk
open Go.RowKit Go.Maps
set_option linter.unusedVariables false

theorem map_same {w w' : World} {b n : Nat} {D : DataW Unit} (h : w.ownsMap Yba.prog 3 (plainElem Yba.prog 3) b n D) (e : w'.heap[b]? = w.heap[b]?) : w'.ownsMap Yba.prog 3 (plainElem Yba.prog 3) b n D := by
  obtain ⟨es, clock, h1, rest⟩ := h
  exact ⟨es, clock, e.trans h1, rest⟩
theorem idx_len {w : World} {b p : Nat} {xs : List Int} (hM : w.ownsMap Yba.prog 3 (plainElem Yba.prog 3) b xs.length (idxMap xs xs.length)) (ha : Apart xs) (hp : xs.length = p) (ty : TypeId) : (Builtin.len_ #[71] ty #[.map (some b)]).run Yba.prog w = .ok (.int .i64 (p : Int)) w := by
  have h := hM.len Yba.underlying71 ty
  rw [idxMap_size xs ha xs.length (Nat.le_refl _), hp] at h
  exact h
theorem idx_look {w : World} {b : Nat} {xs : List Int} (hM : w.ownsMap Yba.prog 3 (plainElem Yba.prog 3) b xs.length (idxMap xs xs.length)) (ha : Apart xs) (k : Nat) (hk : k < xs.length) (hs : (Lit.int .i64 (xs.getD k 0)).wf = true) : (Instr.lookup 71 (.map (some b)) (.int .i64 (xs.getD k 0)) true).run Yba.prog w = .ok (.tuple #[.int .i64 (k : Int), .bool true]) w := by
  obtain ⟨v, ps, h1, h2⟩ := hM.look_ok law3 Yba.underlying71 (zero3 w) (plainElem_int (H := Unit) Yba.underlying3 (a := 0) (by decide)) (keyOf_int_mk Yba.underlying3 hs)
  obtain ⟨c, rfl, h3, _⟩ := plainElem_int_inv Yba.underlying3 h2
  rw [idxMap_has xs xs.length k hk (Nat.le_refl _)] at h1
  have h4 := congrArg Prod.fst h3
  rw [idxMap_at xs ha _ xs.length k hk (Nat.le_refl _)] at h4
  have : c = (k : Int) := by simpa using h4.symm
  rw [this] at h1
  exact h1
end Go.Proofs.Ybulkebqk
