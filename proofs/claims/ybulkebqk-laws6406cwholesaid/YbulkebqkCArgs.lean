/-
  What the law's row is told of its slices: drawn operations, bytes, and how long they can be.
-/
import Derived.Test.YbulkebqkCBuild
import Derived.OpenShut
import Derived.ChangeOld
import Derived.ProofKit
import Derived.SizedLaws
import Derived.Deep.Slices
namespace Go.Proofs.Ybulkebqk
open Go.ChangeShapes Go.WideShapes Go.ChangeAt Go.RowKit
set_option linter.unusedVariables false
set_option maxRecDepth 20000

section
variable {H : Type} {enc : TypeId × Value → H} {W : World} {base : Nat} {spare : Nat → Bool} {held : Bool}

theorem cells98 : Yba.prog.cellsOf 98 = 3 := by kernel_rfl
theorem cells5 : Yba.prog.cellsOf 5 = 1 := by kernel_rfl

theorem sized_len {ts : List TypeId} {ds : List (DataW H)} (h : (DataW.weightsEach Yba.prog ts ds).all (· ≤ reachBytes) = true) {j fuel len cap : Nat} {t e : TypeId} {d : DataW H} {p : List MemPlace} {a : Option Addr} (ht : ts[j]? = some t) (hd : ds[j]? = some d) (hu : Yba.prog.underlying t = some (.slice e)) (hb : Yba.prog.bytesOf e ≠ 0)
    (hf : DataW.trod enc Yba.prog W base spare held fuel t [.slice a len cap] = some (d, p)) : len ≤ reachBytes := by
  rcases Go.Deep.open_slice hu hf with ⟨hcs, _⟩ | ⟨x, l, c, m, n, D, Pl, hcs, _, hl, hm, hmm, hx, _⟩
  · injection hcs with hcs
    injection hcs with h1 h2 h3
    rw [h2]; exact Nat.zero_le _
  · injection hcs with hcs
    injection hcs with h1 h2 h3
    have hd' : d = _ := congrArg Prod.fst hx
    have := sized_slice h ht (by rw [hd, hd']) hu
    rw [List.length_map, List.length_range] at this
    refine Nat.le_trans ?_ this
    rw [h2]
    exact Nat.le_trans (Nat.le_add_right _ _) (Nat.le_mul_of_pos_right _ (Nat.pos_of_ne_zero hb))

/-- What the walk is told of a slice of drawn operations that came in. -/
theorem ops_of {fuel len cap : Nat} {a : Option Addr} {x : DataW H × List MemPlace} (hf : DataW.trod enc Yba.prog W base spare held fuel 56 [.slice a len cap] = some x) : ∃ f, ArgO W a len f ∧ ByteO len f := by
  rcases Go.Deep.open_slice Yba.underlying56 hf with ⟨hcs, _⟩ | ⟨ad, l, c, m, n, D, Pl, hcs, hb, hl, hm, hmm, _, hx⟩
  · injection hcs with hcs
    injection hcs with h1 h2 h3
    subst h2
    exact ⟨fun _ => (0, 0, 0), fun h => absurd h (by omega), fun i h => absurd h (by omega)⟩
  · injection hcs with hcs
    injection hcs with h1 h2 h3
    subst h1 h2 h3
    have hle : len ≤ m := by rw [hmm]; split <;> omega
    have each : ∀ i, i < len → ∃ q : Int × Int × Int, (W.cell? (ad.add (i * 3)) = some (.int .u8 q.1) ∧ W.cell? (ad.add (i * 3 + 1)) = some (.int .u8 q.2.1) ∧ W.cell? (ad.add (i * 3 + 2)) = some (.int .u8 q.2.2)) ∧ (Lit.int .u8 q.1).wf = true ∧ (Lit.int .u8 q.2.1).wf = true ∧ (Lit.int .u8 q.2.2).wf = true := by
      intro i hi
      obtain ⟨cs', h1, h2⟩ := hx i (by omega)
      rw [cells98] at h1
      obtain ⟨_, hlen, hcell⟩ := World.cells?_some h1
      obtain ⟨xs, k, hk, hxy, _, hxl, hff⟩ := DataW.trod_struct Yba.underlying98 h2
      match xs, hxl, cs', hlen with
      | [y0, y1, y2], _, [v0, v1, v2], _ =>
        have g0 := hff 0 _ rfl
        have g1 := hff 1 _ rfl
        have g2 := hff 2 _ rfl
        simp [cells5] at g0 g1 g2
        obtain ⟨z0, e0, _, w0⟩ := DataW.trod_int Yba.underlying5 g0
        obtain ⟨z1, e1, _, w1⟩ := DataW.trod_int Yba.underlying5 g1
        obtain ⟨z2, e2, _, w2⟩ := DataW.trod_int Yba.underlying5 g2
        have c0 := hcell 0 (by omega)
        have c1 := hcell 1 (by omega)
        have c2 := hcell 2 (by omega)
        rw [Go.Deep.add_add] at c0 c1 c2
        injection e0 with e0
        injection e1 with e1
        injection e2 with e2
        subst e0 e1 e2
        exact ⟨(z0, z1, z2), ⟨by simpa using c0, by simpa using c1, by simpa using c2⟩, w0, w1, w2⟩
    obtain ⟨f, hfq⟩ := Go.Deep.choose_lt each
    refine ⟨f, fun h0 => ?_, fun i hi => ?_⟩
    · obtain ⟨b, off, spot⟩ := ad
      have hspot : spot = none := by simpa [Addr.add] using World.cell?_spot (hfq 0 h0).1.1
      subst hspot
      have hc : ∀ i, i < len → W.cell? ⟨b, off + i * 3, none⟩ = some (.int .u8 (f i).1) ∧ W.cell? ⟨b, off + i * 3 + 1, none⟩ = some (.int .u8 (f i).2.1) ∧ W.cell? ⟨b, off + i * 3 + 2, none⟩ = some (.int .u8 (f i).2.2) := fun i hi => by
        obtain ⟨h1, h2, h3⟩ := (hfq i hi).1
        rw [add_plain] at h1 h2 h3
        exact ⟨h1, by rw [Nat.add_assoc]; exact h2, by rw [Nat.add_assoc]; exact h3⟩
      exact ⟨b, off, rfl, World.block_lt_of_cell? _ _ (hc 0 h0).1, hc⟩
    · obtain ⟨_, w0, w1, w2⟩ := hfq i hi
      have b0 := bounds_u8 w0
      have b1 := bounds_u8 w1
      have b2 := bounds_u8 w2
      exact ⟨⟨b0.1, by omega⟩, ⟨b1.1, by omega⟩, ⟨b2.1, by omega⟩⟩

theorem bytes_of {fuel len cap : Nat} {a : Option Addr} {x : DataW H × List MemPlace} (hf : DataW.trod enc Yba.prog W base spare held fuel 57 [.slice a len cap] = some x) : ∃ f, ArgI .u8 W a len f ∧ ∀ i, i < len → 0 ≤ f i ∧ f i ≤ 255 := by
  rcases open_ints Yba.underlying57 Yba.underlying5 cells5 hf with ⟨hcs, _⟩ | ⟨ad, l, c, zs, hcs, _, hl, hm, hz, _, hcell, hwz⟩
  · injection hcs with hcs
    injection hcs with h1 h2 h3
    subst h2
    exact ⟨fun _ => 0, fun h => absurd h (by omega), fun i h => absurd h (by omega)⟩
  · injection hcs with hcs
    injection hcs with h1 h2 h3
    subst h1 h2 h3
    have hzl : len ≤ zs.length := by rw [hz]; split <;> omega
    refine ⟨fun i => zs.getD i 0, fun h0 => ?_, fun i hi => ?_⟩
    · obtain ⟨b, o, rfl, hc'⟩ := _root_.Go.ints_at hcell (by omega)
      exact ⟨b, o, rfl, World.block_lt_of_cell? _ _ (hc' 0 (by omega)), fun i hi => hc' i (by omega)⟩
    · have hm : zs.getD i 0 ∈ zs := by rw [List.getD_eq_getElem?_getD, List.getElem?_eq_getElem (by omega)]; simp
      have := bounds_u8 (hwz _ hm)
      show 0 ≤ zs.getD i 0 ∧ zs.getD i 0 ≤ 255
      omega
end
end Go.Proofs.Ybulkebqk
