/-
  Rows of one type kept apart; the numbers of a schedule's reads and writes; what loop 2 of the law carries.
-/
import Derived.Test.YbulkebqkCLaw1
namespace Go.Proofs.Ybulkebqk
open Go.RowKit
set_option linter.unusedVariables false

/-- Two slices that own no block in common. -/
def Ap (v u : Value) : Prop := ∀ g, v.ownBlock = some g → u.ownBlock ≠ some g
theorem Ap.symm {v u : Value} (h : Ap v u) : Ap u v := fun g hu hv => h g hv hu
theorem Ap.next {v u v' : Value} {s : Nat} (h : Ap v u) (hv : v'.ownBlock = v.ownBlock ∨ v'.ownBlock = some s) (hu : ∀ g, u.ownBlock = some g → g < s) : Ap v' u := by
  intro g hg hug
  rcases hv with e | e
  · exact h g (e ▸ hg) hug
  · rw [e] at hg
    simp only [Option.some.injEq] at hg
    have := hu g hug
    omega
theorem ap_nil (u : Value) : Ap (.slice none 0 0) u := fun g hg => by simp [Value.ownBlock] at hg
theorem owns_grown {w w' : World} {base n size : Nat} {e : TypeId} {v : Value} {xs : List Value} {u : Value} (h : w.ownsRow base e size v n xs) (hg : w.grownBy w' u.ownBlock) (ha : Ap v u) : w'.ownsRow base e size v n xs :=
  owns_same h fun g e => hg.block g (h.lt g e).2 fun e' => ha g e e'.symm
theorem ap_types {w : World} {base n size base' n' size' : Nat} {e e' : TypeId} {v v' : Value} {xs xs' : List Value} (h : w.ownsRow base e size v n xs) (ho : w.ownsRow base' e' size' v' n' xs') (ht : e ≠ e') : Ap v v' := own_not_own h ho ht
theorem At.under {w w' : World} {B : Nat} {a : Option Addr} {vs : List Value} (h : At w a vs) (hb : Below B w w') (hw : w.heap.size ≤ B) : At w' a vs := fun hl => by
  obtain ⟨g, rfl, hR⟩ := h hl
  exact ⟨g, rfl, hR.below hb (by have := hR.lt; omega)⟩
theorem Blk.low {w w' : World} {base n size b : Nat} {e t : TypeId} {v : Value} {xs vs : List Value} (h : Blk w b t vs) (ho : w.ownsRow base e size v n xs) (hg : w.grownBy w' v.ownBlock) (hb : b < base) : Blk w' b t vs :=
  h.grown hg fun e => by have := (ho.lt b e.symm).1; omega
theorem below_own {w0 w w' : World} {base n size B : Nat} {e : TypeId} {v : Value} {xs : List Value} (h : Below B w0 w) (ho : w.ownsRow base e size v n xs) (hg : w.grownBy w' v.ownBlock) (hb : B ≤ base) (hw : B ≤ w.heap.size) : Below B w0 w' :=
  h.grown hg hw fun j hj => by have := (ho.lt j hj).1; omega

/-- What the schedule's reads and writes were numbered by. -/
theorem items_like {la lb : List OpV} {xa : List Int} (hb : Tx lb xa) (hs : SameP la lb xa) : ∀ o, o ∈ accs lb → o.i ∈ itemsUp la la.length := by
  intro o ho
  have ho' : o ∈ lb := (List.mem_filter.1 ho).1
  have ht : o.t ∈ xa := (hb.2 o.t).2 ⟨o, ho', rfl⟩
  have h1 : (⟨o.k, 0, o.i⟩ : OpV) ∈ progOf lb o.t := by
    rw [progOf_eq]
    exact List.mem_map.2 ⟨o, List.mem_filter.2 ⟨ho, by simp⟩, rfl⟩
  rw [← hs o.t ht, progOf_eq] at h1
  obtain ⟨o', h2, h3⟩ := List.mem_map.1 h1
  have h4 := (List.mem_filter.1 h2).1
  have h5 := items_mem la o' h4
  have : o'.i = o.i := by
    have := congrArg OpV.i h3
    exact this
  rw [← this]; exact h5
/-- The flags as a plain list. -/
def absL (xs : List Int) (l : List OpV) (q : Nat) : List Bool := (absUp xs l q).getD (List.replicate xs.length false)
theorem absL_len (xs : List Int) (l : List OpV) (q : Nat) : (absL xs l q).length = xs.length := by
  unfold absL
  cases h : absUp xs l q with
  | none => simp
  | some bs => exact absUp_len xs l q bs h
theorem absL_yes (xs : List Int) (l : List OpV) (q : Nat) (h : (l.getD q default).k = 3) : absL xs l (q + 1) = (absL xs l q).set (xs.idxOf (l.getD q default).t) true ∧ (absUp xs l (q + 1)).isSome = true := by
  unfold absL
  rw [absUp, if_pos h]
  exact ⟨rfl, rfl⟩
theorem absL_no (xs : List Int) (l : List OpV) (q : Nat) (h : ¬ (l.getD q default).k = 3) : absL xs l (q + 1) = absL xs l q ∧ (absUp xs l (q + 1)).isSome = (absUp xs l q).isSome := by
  unfold absL
  rw [absUp, if_neg h]
  exact ⟨rfl, rfl⟩
theorem bools_put (bs : List Bool) (i : Nat) (b : Bool) : (bools bs).set i (.bool b) = bools (bs.set i b) := by simp [bools, List.map_set]
theorem bools_get (bs : List Bool) (i : Nat) (h : i < bs.length) : (bools bs)[i]? = some (.bool (bs.getD i false)) := by
  simp [bools, List.getD_eq_getElem?_getD, List.getElem?_eq_getElem h]
theorem tx_mem {l : List OpV} {xs : List Int} (h : Tx l xs) (q : Nat) (hq : q < l.length) : (l.getD q default).t ∈ xs := by
  refine (h.2 _).2 ⟨l.getD q default, ?_, rfl⟩
  rw [List.getD_eq_getElem?_getD, List.getElem?_eq_getElem hq]
  exact List.getElem_mem hq
theorem accs_mem {l : List OpV} (q : Nat) (hq : q < l.length) (h : acc (l.getD q default).k = true) : l.getD q default ∈ accs l := by
  refine List.mem_filter.2 ⟨?_, h⟩
  rw [List.getD_eq_getElem?_getD, List.getElem?_eq_getElem hq]
  exact List.getElem_mem hq
theorem Yba.inf62 : (Yba.prog.info? 62).map (fun i => (i.zero, i.size, i.bytes)) = some (some (.int .u8 0), 1, 1) := by kernel_rfl
theorem Yba.und91 : Yba.prog.underlying 91 = some (.slice 62) := by kernel_rfl
end Go.Proofs.Ybulkebqk
