/-
  zzs6406cidx, zzs6406csidx: the first place of a number, of a string; -1 where it is not there.
-/
import Derived.Test.YbulkebqkCIndex
namespace Go.Proofs.Ybulkebqk
open Go.RowKit
set_option linter.unusedVariables false

/-- Where a slice has elements it leads to a block that begins with these cells. -/
def At (w : World) (a : Option Addr) (vs : List Value) : Prop := 0 < vs.length → ∃ g, a = some ⟨g, 0, none⟩ ∧ Row w g vs

section
variable {α : Type} [DecidableEq α]
/-- The first place of v in xs; -1 where it is not there. -/
def find (xs : List α) (v : α) : Int := if v ∈ xs then (xs.idxOf v : Int) else -1
theorem find_hit (xs : List α) (v : α) (k : Nat) (hk : k < xs.length) (he : xs[k] = v) (hno : ∀ j (h : j < k), xs[j] ≠ v) : find xs v = (k : Int) := by
  have hm : v ∈ xs := by rw [← he]; exact List.getElem_mem hk
  have hs : xs = xs.take k ++ v :: xs.drop (k + 1) := by
    rw [← he, List.getElem_cons_drop hk, List.take_append_drop]
  have hnot : v ∉ xs.take k := by
    intro h
    obtain ⟨j, hj, e⟩ := List.mem_iff_getElem.1 h
    rw [List.getElem_take] at e
    exact hno j (by simp at hj; omega) e
  rw [find, if_pos hm]
  have : xs.idxOf v = k := by
    rw [hs, List.idxOf_append, if_neg hnot]
    simp; omega
  rw [this]
theorem find_miss (xs : List α) (v : α) (hno : ∀ j (h : j < xs.length), xs[j] ≠ v) : find xs v = -1 := by
  rw [find, if_neg]
  intro h
  obtain ⟨j, hj, e⟩ := List.mem_iff_getElem.1 h
  exact hno j hj e
end

theorem cidx32 (a : Option Addr) (n cap : Nat) (xs : List Int) (v : Int) (w : World) (hn : xs.length = n) (hb : n ≤ 1000000) (hA : At w a (ints .i64 xs)) :
    Calls Yba.prog 32 #[.slice a n cap, .int .i64 v] w fun e w' => e = .returned (.int .i64 (find xs v)) ∧ w' = w := by
  have HL : Hid (xs.length = n) := hn
  have HA : Hid (At w a (ints .i64 xs)) := hA
  clear hn hA
  go_enter Yba.func32, Yba.ntmps32
  go_wp2_with fail
  go_loopw [9] (fun i wr => ∃ k : Nat, k ≤ n ∧ i = .int .i64 k ∧ wr = w ∧ Hid (∀ j (h : j < k), xs.getD j 0 ≠ v)) (fun i _ => n - (intOf i).toNat)
  case atStart => exact ⟨0, Nat.zero_le _, rfl, rfl, fun j h => by omega⟩
  case round =>
    obtain ⟨k, hk, rfl, rfl, HN⟩ := hrel
    by_cases hlt : k < n
    · have hkl : k < xs.length := by rw [HL.out]; exact hlt
      obtain ⟨g, rfl, hR⟩ := HA.out (by rw [ints_len]; omega)
      have c := hR.cell (ints_at .i64 xs k hkl)
      obtain ⟨z, hz⟩ : ∃ z, z = xs.getD k 0 := ⟨_, rfl⟩
      rw [← hz] at c
      have HZ : Hid (z = xs.getD k 0) := hz
      have kn : (k : Int) < (n : Int) := by omega
      clear hR hz
      by_cases hv : z = v
      · subst hv
        go_wp2_with fail
        go_ret
        refine ⟨?_, rfl⟩
        rw [find_hit xs z k hkl (by have := HZ.out; rw [List.getD_eq_getElem?_getD, List.getElem?_eq_getElem hkl] at this; exact this.symm) fun j h => by
          have := HN.out j h; rwa [List.getD_eq_getElem?_getD, List.getElem?_eq_getElem (by omega)] at this]
        simp
      · have hv' : (z == v) = false := by simpa using hv
        go_wp2_with fail
        go_roundw
        case rel =>
          refine ⟨k + 1, by omega, by go_num, by trivial, fun j h => ?_⟩
          by_cases e : j = k
          · subst e; rw [← HZ.out]; exact hv
          · exact HN.out j (by omega)
        case measure => simp [intOf]; omega
    · have kn : ¬ (k : Int) < (n : Int) := by omega
      have hkn : n = k := by omega
      have HF : Hid (find xs v = -1) := find_miss xs v fun j h => by
        have := HN.out j (by rw [HL.out] at h; omega); rwa [List.getD_eq_getElem?_getD, List.getElem?_eq_getElem h] at this
      clear hkn
      go_wp2_with fail
      go_ret
      exact ⟨by rw [HF.out]; simp, rfl⟩

/-- Strings as cells. -/
def strs (xs : List ByteArray) : List Value := xs.map Value.string
theorem strs_len (xs : List ByteArray) : (strs xs).length = xs.length := by simp [strs]
theorem strs_at (xs : List ByteArray) (i : Nat) (h : i < xs.length) : (strs xs)[i]? = some (.string (xs.getD i default)) := by
  simp [strs, List.getElem?_map, List.getElem?_eq_getElem h, List.getD_eq_getElem?_getD]

end Go.Proofs.Ybulkebqk
