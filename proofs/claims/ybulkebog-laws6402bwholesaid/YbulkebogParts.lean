/-
  Lemmas outside the walk: the State while the law runs; the one store into the fresh map.
-/
import Derived.Test.YbulkebogTrace
namespace Go.Proofs.Ybulkebog
open Go.RowKit Go.Maps

theorem here_of_fresh {w w1 : World} (hF : Fresh w w1) (sup t : Int) : Here w.heap.size w (((((w1.setCell ⟨w.heap.size + 1, 0, none⟩ (.int .u64 sup)).setCell ⟨w.heap.size + 1, 1, none⟩ (.int .u64 0)).setCell ⟨w.heap.size + 1, 2, none⟩ (.int .u64 0)).setCell ⟨w.heap.size + 1, 3, none⟩ (.int .u64 sup)).setCell ⟨w.heap.size + 1, 4, none⟩ (.int .i64 t)) sup t none := by
  obtain ⟨hbel, hsz, hslots, c0, c1, c2, c3, c4, c5, c297, fz⟩ := hF
  refine ⟨((((hbel.setCell (by simp) _).setCell (by simp) _).setCell (by simp) _).setCell (by simp) _).setCell (by simp) _, ?_, ?_, ?_, ?_, ?_, ?_, ?_, ?_, ?_, by simp [hsz]⟩
  any_goals (simp [go_sem, *]; done)
  exact (((((own_empty 83 hslots).setCell (by simp) _).setCell (by simp) _).setCell (by simp) _).setCell (by simp) _).setCell (by simp) _

theorem Here.grown {B m : Nat} {w W W' : World} {sup t : Int} {ch : Option Nat} (h : Here B w W sup t ch) (hg : W.grownBy W' (some m)) (hm : B + 1 < m) : Here B w W' sup t ch := by
  obtain ⟨below, s0, s1, s2, s3, s4, s5, s297, fz, slots, big⟩ := h
  have hc : ∀ {o : Nat} {v : Value}, W.cell? ⟨B + 1, o, none⟩ = some v → W'.cell? ⟨B + 1, o, none⟩ = some v := fun h => hg.cell h (by simp; omega)
  refine ⟨below.grown hg (by omega) (fun k hk => by cases hk; omega), hc s0, hc s1, hc s2, hc s3, hc s4, hc s5, hc s297, ?_, slots.kept hg (by simp; omega), Nat.lt_of_lt_of_le big hg.size⟩
  intro o
  exact (World.frozen?_of_block (hg.block (B + 1) big (by simp; omega))).trans (fz o)

theorem law63 : Keyed Yba.prog 63 := int_keyed Yba.underlying63

/-- Behind the store of the fresh map's first entry. -/
theorem after_first {B nb : Nat} {w W W3 : World} {sup t : Int} (h : Here B w W sup t (some nb)) (hn : B + 1 < nb) (ho : W3.ownsMap Yba.prog 63 anyElem nb 1 ((DataW.map [] : DataW Unit).put (.int .i64 7) (.lit (.bool true)))) (hg : W.grownBy W3 (some nb)) :
    Below B w W3 ∧ W3.cell? ⟨B + 1, 297, none⟩ = some (.map (some nb)) ∧ (∀ ty, (Builtin.len_ #[58] ty #[.map (some nb)]).run Yba.prog W3 = .ok (.int .i64 1) W3) := by
  have hH := h.grown hg hn
  refine ⟨hH.below, hH.s297, fun ty => ?_⟩
  have hl := ho.len Yba.underlying58 ty
  have e : Maps.size ((DataW.map [] : DataW Unit).put (.int .i64 7) (.lit (.bool true))) = 1 := by decide
  rw [e] at hl
  exact hl
end Go.Proofs.Ybulkebog
