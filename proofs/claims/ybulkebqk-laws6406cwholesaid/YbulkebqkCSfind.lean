/-
  zzs6406csidx: the first place of a string.
-/
import Derived.Test.YbulkebqkCFind
namespace Go.Proofs.Ybulkebqk
open Go.RowKit
set_option linter.unusedVariables false

theorem bytes_inj {a b : ByteArray} (h : a.toList = b.toList) : a = b := by
  rw [Go.ByteArray.toList_eq, Go.ByteArray.toList_eq] at h
  cases a; cases b
  simpa using h
theorem bytes_ne {a b : ByteArray} (h : ¬ a = b) : (a.toList == b.toList) = false := by
  simp only [beq_eq_false_iff_ne]
  exact fun e => h (bytes_inj e)

theorem csidx31 (a : Option Addr) (n cap : Nat) (xs : List ByteArray) (v : ByteArray) (w : World) (hn : xs.length = n) (hb : n ≤ 1000000) (hA : At w a (strs xs)) :
    Calls Yba.prog 31 #[.slice a n cap, .string v] w fun e w' => e = .returned (.int .i64 (find xs v)) ∧ w' = w := by
  have HL : Hid (xs.length = n) := hn
  have HA : Hid (At w a (strs xs)) := hA
  clear hn hA
  go_enter Yba.func31, Yba.ntmps31
  go_wp2_with fail
  go_loopw [9] (fun i wr => ∃ k : Nat, k ≤ n ∧ i = .int .i64 k ∧ wr = w ∧ Hid (∀ j (h : j < k), xs.getD j default ≠ v)) (fun i _ => n - (intOf i).toNat)
  case atStart => exact ⟨0, Nat.zero_le _, rfl, rfl, fun j h => by omega⟩
  case round =>
    obtain ⟨k, hk, rfl, rfl, HN⟩ := hrel
    by_cases hlt : k < n
    · have hkl : k < xs.length := by rw [HL.out]; exact hlt
      obtain ⟨g, rfl, hR⟩ := HA.out (by rw [strs_len]; omega)
      have c := hR.cell (strs_at xs k hkl)
      obtain ⟨z, hz⟩ : ∃ z, z = xs.getD k default := ⟨_, rfl⟩
      rw [← hz] at c
      have HZ : Hid (z = xs.getD k default) := hz
      have kn : (k : Int) < (n : Int) := by omega
      clear hR hz
      by_cases hv : z = v
      · subst hv
        go_wp2_with fail
        go_ret
        refine ⟨?_, rfl⟩
        rw [find_hit xs z k hkl (by have := HZ.out; rw [List.getD_eq_getElem?_getD, List.getElem?_eq_getElem hkl] at this; exact this.symm) fun j h => by
          have := HN.out j h; rwa [List.getD_eq_getElem?_getD, List.getElem?_eq_getElem (by omega)] at this]
        simp
      · have hv' : (z.toList == v.toList) = false := bytes_ne hv
        go_wp2_with fail
        go_roundw
        case rel =>
          refine ⟨k + 1, by omega, by go_num, by trivial, fun j h => ?_⟩
          by_cases e : j = k
          · subst e; rw [← HZ.out]; exact hv
          · exact HN.out j (by omega)
        case measure => simp [intOf]; omega
    · have kn : ¬ (k : Int) < (n : Int) := by omega
      have hkn : n = k := by omega
      have HF : Hid (find xs v = -1) := find_miss xs v fun j h => by
        have := HN.out j (by rw [HL.out] at h; omega); rwa [List.getD_eq_getElem?_getD, List.getElem?_eq_getElem h] at this
      clear hkn
      go_wp2_with fail
      go_ret
      exact ⟨by rw [HF.out]; simp, rfl⟩
end Go.Proofs.Ybulkebqk
