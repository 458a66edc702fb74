/-
  The plain side of the law: no Go in sight. What unite makes of the rows, word by word; the bits of a queue.
-/
import Derived.Test.YbulkebqkSameq
import Derived.Laws.BitsAllLaws
namespace Go.Proofs.Ybulkebqk
open Go.RowKit
set_option linter.unusedVariables false

/-- A word of 64 bits. -/
def W64 (x : Int) : Prop := 0 ≤ x ∧ x < 18446744073709551616

theorem or_nat {a b : Int} (ha : W64 a) (hb : W64 b) : bits .or .u64 a b = ((a.toNat ||| b.toNat : Nat) : Int) := u64_or a b ha.1 ha.2 hb.1 hb.2
theorem or_w64 {a b : Int} (ha : W64 a) (hb : W64 b) : W64 (bits .or .u64 a b) := by
  rw [or_nat ha hb]
  obtain ⟨h1, h2⟩ := ha
  obtain ⟨h3, h4⟩ := hb
  have := Nat.or_lt_two_pow (x := a.toNat) (y := b.toNat) (n := 64) (by omega) (by omega)
  exact ⟨by omega, by omega⟩
theorem toNat_or {a b : Int} (ha : W64 a) (hb : W64 b) : (bits .or .u64 a b).toNat = a.toNat ||| b.toNat := by rw [or_nat ha hb]; simp
theorem or_comm' {a b c : Int} (ha : W64 a) (hb : W64 b) (hc : W64 c) : bits .or .u64 (bits .or .u64 a b) c = bits .or .u64 (bits .or .u64 a c) b := by
  rw [or_nat (or_w64 ha hb) hc, or_nat (or_w64 ha hc) hb, toNat_or ha hb, toNat_or ha hc]
  rw [Nat.or_assoc, Nat.or_comm b.toNat, ← Nat.or_assoc]
theorem or_again {a b : Int} (ha : W64 a) (hb : W64 b) : bits .or .u64 (bits .or .u64 a b) b = bits .or .u64 a b := by
  rw [or_nat (or_w64 ha hb) hb, toNat_or ha hb, or_nat ha hb, Nat.or_assoc, Nat.or_self]
theorem or_zero {b : Int} (hb : W64 b) : bits .or .u64 0 b = b := by
  rw [or_nat ⟨by omega, by omega⟩ hb]
  obtain ⟨h1, h2⟩ := hb
  simp; omega

theorem or_absorb {r b : Int} (hr : W64 r) (hb : W64 b) (h : bits .andNot .u64 b r = 0) : bits .or .u64 r b = r := by
  have h1 := u64_andNot b r hb.1 hb.2 hr.1 hr.2
  rw [h] at h1
  have h2 : b.toNat &&& (18446744073709551615 - r.toNat) = 0 := by omega
  rw [or_nat hr hb]
  obtain ⟨r1, r2⟩ := hr
  obtain ⟨b1, b2⟩ := hb
  have h3 : r.toNat ||| b.toNat = r.toNat := by
    apply Nat.eq_of_testBit_eq
    intro i
    rw [Nat.testBit_or]
    by_cases hi : i < 64
    · have h4 : (b.toNat &&& (18446744073709551615 - r.toNat)).testBit i = false := by rw [h2]; simp
      rw [Nat.testBit_and] at h4
      have h5 : (2 ^ 64 - (r.toNat + 1)).testBit i = (decide (i < 64) && !r.toNat.testBit i) := Nat.testBit_two_pow_sub_succ (by omega) i
      have h6 : (18446744073709551615 - r.toNat).testBit i = !r.toNat.testBit i := by
        rw [show 18446744073709551615 - r.toNat = 2 ^ 64 - (r.toNat + 1) by omega, h5]; simp [hi]
      rw [h6] at h4
      revert h4
      generalize r.toNat.testBit i = x
      generalize b.toNat.testBit i = y
      cases x <;> cases y <;> simp
    · have h4 : b.toNat.testBit i = false := Nat.testBit_lt_two_pow (Nat.lt_of_lt_of_le (show b.toNat < 2 ^ 64 by omega) (Nat.pow_le_pow_right (by omega) (by omega)))
      rw [h4]; simp
  rw [h3]; omega

theorem bt_w64 (r : Nat) : W64 (bt r) := by
  unfold bt
  rw [IntKind.wrap_u64]
  exact ⟨by omega, by omega⟩

/-! ### unite, word by word. rs, ls: the rows as they were; f: the words that come; at: where; tr, ts: is a try on, and which -/
section
variable (rs ls : List Int) (f : Nat → Int) (p : Nat) (tr : Bool) (ts : Int)
def newB (i : Nat) : Bool := !(bits .andNot .u64 (f i) (rs.getD (p + i) 0) == 0)
def logB (i : Nat) : Bool := newB rs f p i && (tr && (ls.getD (p + i) 0 != ts))
def R : Nat → List Int
  | 0 => rs
  | i + 1 => (R i).set (p + i) (bits .or .u64 (rs.getD (p + i) 0) (f i))
def Lg : Nat → List Int
  | 0 => ls
  | i + 1 => if logB rs ls f p tr ts i then (Lg i).set (p + i) ts else Lg i
def Cg : Nat → List Value
  | 0 => []
  | i + 1 => if logB rs ls f p tr ts i then Cg i ++ [.int .i64 (p + i : Nat), .int .u64 (rs.getD (p + i) 0)] else Cg i
def nC : Nat → Nat
  | 0 => 0
  | i + 1 => if logB rs ls f p tr ts i then nC i + 1 else nC i
def gw : Nat → Bool
  | 0 => false
  | i + 1 => newB rs f p i || gw i
def fs : Nat → Int
  | 0 => -1
  | i + 1 => if (f i != 0) && decide (fs i < 0) then (i : Int) else fs i
end

section
variable {rs ls : List Int} {f : Nat → Int} {p : Nat} {tr : Bool} {ts : Int}
theorem R_len (i : Nat) : (R rs f p i).length = rs.length := by
  induction i with
  | zero => rfl
  | succ i ih => simp [R, ih]
theorem Lg_len (i : Nat) : (Lg rs ls f p tr ts i).length = ls.length := by
  induction i with
  | zero => rfl
  | succ i ih => unfold Lg; split <;> simp [ih]
theorem R_at (i j : Nat) (h : i ≤ j) : (R rs f p i).getD (p + j) 0 = rs.getD (p + j) 0 := by
  induction i with
  | zero => rfl
  | succ i ih =>
    rw [R, List.getD_eq_getElem?_getD, List.getElem?_set_ne (by omega), ← List.getD_eq_getElem?_getD]
    exact ih (by omega)
theorem Lg_at (i j : Nat) (h : i ≤ j) : (Lg rs ls f p tr ts i).getD (p + j) 0 = ls.getD (p + j) 0 := by
  induction i with
  | zero => rfl
  | succ i ih =>
    rw [Lg]
    split
    · rw [List.getD_eq_getElem?_getD, List.getElem?_set_ne (by omega), ← List.getD_eq_getElem?_getD]
      exact ih (by omega)
    · exact ih (by omega)
theorem nC_le (i : Nat) : nC rs ls f p tr ts i ≤ i := by
  induction i with
  | zero => exact Nat.le_refl _
  | succ i ih => unfold nC; split <;> omega
theorem Cg_len (i : Nat) : (Cg rs ls f p tr ts i).length = nC rs ls f p tr ts i * 2 := by
  induction i with
  | zero => rfl
  | succ i ih => unfold Cg nC; split <;> simp [ih]; omega
theorem fs_bd (i : Nat) : -1 ≤ fs f i ∧ fs f i ≤ i := by
  induction i with
  | zero => exact ⟨by show (-1 : Int) ≤ -1; decide, by show (-1 : Int) ≤ 0; decide⟩
  | succ i ih => unfold fs; split <;> omega
theorem fs_lt (i : Nat) (h : 0 < i) : fs f i < i := by
  induction i with
  | zero => omega
  | succ i ih =>
    unfold fs
    split
    · omega
    · rcases Nat.eq_zero_or_pos i with h0 | h0
      · subst h0; show (-1 : Int) < _; omega
      · have := ih h0; omega

/-- A word that brings nothing new leaves the row as it is. -/
theorem R_stay {i : Nat} (hr : W64 (rs.getD (p + i) 0)) (hf : W64 (f i)) (h : newB rs f p i = false) (hi : p + i < rs.length) : R rs f p (i + 1) = R rs f p i := by
  have h0 : bits .andNot .u64 (f i) (rs.getD (p + i) 0) = 0 := by simpa [newB] using h
  rw [R, or_absorb hr hf h0, ← R_at (rs := rs) (f := f) (p := p) i i (Nat.le_refl _)]
  apply List.ext_getElem?
  intro j
  by_cases hj : p + i = j
  · subst hj
    rw [List.getElem?_set_self (by rw [R_len]; exact hi), List.getD_eq_getElem?_getD, List.getElem?_eq_getElem (by rw [R_len]; exact hi)]; rfl
  · rw [List.getElem?_set_ne hj]
end

/-! ### The queue's bits -/
theorem L0_w64 (st : List Bool) (n k j : Nat) : W64 ((L0 st n k).getD j 0) := by
  induction k generalizing j with
  | zero =>
    rw [L0, List.getD_eq_getElem?_getD, List.getElem?_replicate]
    split <;> exact ⟨by decide, by decide⟩
  | succ k ih =>
    unfold L0
    split
    · rw [List.getD_eq_getElem?_getD, List.getElem?_set]
      split
      · split
        · exact or_w64 (ih _) (bt_w64 _)
        · exact ⟨by decide, by decide⟩
      · rw [← List.getD_eq_getElem?_getD]; exact ih j
    · exact ih j
theorem L1_w64 (st : List Bool) (k : Nat) : W64 (L1 st k) := by
  induction k with
  | zero => exact ⟨by show (0 : Int) ≤ 0; decide, by show (0 : Int) < _; decide⟩
  | succ k ih =>
    unfold L1
    split
    · exact or_w64 ih (bt_w64 _)
    · exact ih

/-- One index more, as L0 gains it. -/
theorem L0_add (st : List Bool) (n u : Nat) (hu : u < st.length) (hs : st.getD u false = false) (hn : u / 64 < n) : ∀ k, L0 (st.set u true) n k = if u < k then (L0 st n k).set (u / 64) (bits .or .u64 ((L0 st n k).getD (u / 64) 0) (bt (u % 64))) else L0 st n k := by
  intro k
  induction k with
  | zero => simp [L0]
  | succ k ih =>
    have hget : ∀ j, j ≠ u → (st.set u true).getD j false = st.getD j false := fun j hj => by
      rw [List.getD_eq_getElem?_getD, List.getElem?_set_ne (fun h => hj h.symm), ← List.getD_eq_getElem?_getD]
    by_cases hk : k = u
    · subst hk
      have h1 : (st.set k true).getD k false = true := by rw [List.getD_eq_getElem?_getD, List.getElem?_set_self hu]; rfl
      rw [L0_yes h1, L0_no hs, ih, if_neg (by omega), if_pos (by omega)]
    · cases hv : st.getD k false with
      | false =>
        rw [L0_no (by rw [hget k hk]; exact hv), L0_no hv, ih]
        by_cases hlt : u < k
        · rw [if_pos hlt, if_pos (by omega)]
        · rw [if_neg hlt, if_neg (by omega)]
      | true =>
        rw [L0_yes (by rw [hget k hk]; exact hv), L0_yes hv, ih]
        by_cases hlt : u < k
        · rw [if_pos hlt, if_pos (by omega)]
          have hl := L0_len st n k
          by_cases he : k / 64 = u / 64
          · rw [he]
            have e1 : ∀ x, ((L0 st n k).set (u / 64) x).getD (u / 64) 0 = x := fun x => by rw [List.getD_eq_getElem?_getD, List.getElem?_set_self (by omega)]; rfl
            rw [e1, e1, List.set_set, List.set_set, or_comm' (L0_w64 st n k _) (bt_w64 _) (bt_w64 _)]
          · have e1 : ∀ x, ((L0 st n k).set (u / 64) x).getD (k / 64) 0 = (L0 st n k).getD (k / 64) 0 := fun x => by rw [List.getD_eq_getElem?_getD, List.getElem?_set_ne (fun h => he h.symm), ← List.getD_eq_getElem?_getD]
            have e2 : ∀ x, ((L0 st n k).set (k / 64) x).getD (u / 64) 0 = (L0 st n k).getD (u / 64) 0 := fun x => by rw [List.getD_eq_getElem?_getD, List.getElem?_set_ne he, ← List.getD_eq_getElem?_getD]
            rw [e1, e2, List.set_comm _ _ (fun h => he h.symm)]
        · rw [if_neg hlt, if_neg (by omega)]
theorem L1_add (st : List Bool) (u : Nat) (hu : u < st.length) (hs : st.getD u false = false) : ∀ k, L1 (st.set u true) k = if u < k then bits .or .u64 (L1 st k) (bt (u / 64)) else L1 st k := by
  intro k
  induction k with
  | zero => simp [L1]
  | succ k ih =>
    have hget : ∀ j, j ≠ u → (st.set u true).getD j false = st.getD j false := fun j hj => by
      rw [List.getD_eq_getElem?_getD, List.getElem?_set_ne (fun h => hj h.symm), ← List.getD_eq_getElem?_getD]
    by_cases hk : k = u
    · subst hk
      have h1 : (st.set k true).getD k false = true := by rw [List.getD_eq_getElem?_getD, List.getElem?_set_self hu]; rfl
      rw [L1_yes h1, L1_no hs, ih, if_neg (by omega), if_pos (by omega)]
    · cases hv : st.getD k false with
      | false =>
        rw [L1_no (by rw [hget k hk]; exact hv), L1_no hv, ih]
        by_cases hlt : u < k
        · rw [if_pos hlt, if_pos (by omega)]
        · rw [if_neg hlt, if_neg (by omega)]
      | true =>
        rw [L1_yes (by rw [hget k hk]; exact hv), L1_yes hv, ih]
        by_cases hlt : u < k
        · rw [if_pos hlt, if_pos (by omega), or_comm' (L1_w64 st k) (bt_w64 _) (bt_w64 _)]
        · rw [if_neg hlt, if_neg (by omega)]
/-- A word that is not empty is known above. -/
theorem L1_had (st : List Bool) (n d : Nat) : ∀ k, (L0 st n k).getD d 0 ≠ 0 → bits .or .u64 (L1 st k) (bt d) = L1 st k := by
  intro k
  induction k with
  | zero =>
    intro h
    exact absurd (by rw [L0, List.getD_eq_getElem?_getD, List.getElem?_replicate]; split <;> rfl) h
  | succ k ih =>
    intro h
    cases hv : st.getD k false with
    | false => rw [L0_no hv] at h; rw [L1_no hv]; exact ih h
    | true =>
      rw [L0_yes hv] at h
      rw [L1_yes hv]
      by_cases he : k / 64 = d
      · rw [he]; exact or_again (L1_w64 st k) (bt_w64 _)
      · rw [List.getD_eq_getElem?_getD, List.getElem?_set_ne he, ← List.getD_eq_getElem?_getD] at h
        rw [or_comm' (L1_w64 st k) (bt_w64 _) (bt_w64 _), ih h]
end Go.Proofs.Ybulkebqk
