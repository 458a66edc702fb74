/-
  The contract of zzs6404amake.
-/
import Derived.Test.YbulkebpiParts
import Derived.Deep.OwnRows
namespace Go.Proofs.Ybulkebpi
open Go.RowKit
set_option linter.unusedVariables false
theorem Yba.info29 : (Yba.prog.info? 29).map (fun i => (i.zero, i.size, i.bytes)) = some (some (.pointer none), 1, 8) := by kernel_rfl

theorem ring_made (w : World) (n : Nat) : Ring (w.alloc (.cells (madeCells #[.pointer none] n) 29)) w.heap.size (List.replicate n none) := by
  have h := (MapKept.heap_alloc w (.cells (madeCells #[.pointer none] n) 29)).1
  unfold Ring
  rw [h]
  congr 2
  apply Array.ext'
  rw [toList_madeCells_one]
  simp

set_option maxHeartbeats 400000 in
theorem mk_some (b o len cap : Nat) (f : Nat → Int) (w : World) (hlen : (len : Int) ≤ 65536) (hb : b < w.heap.size) (hc : ∀ i, i < len → w.cell? ⟨b, o + i, none⟩ = some (.int .u8 (f i))) (hw : ∀ i, i < len → 0 ≤ f i ∧ f i ≤ 255) :
    Calls Yba.prog 4 #[.slice (some ⟨b, o, none⟩) len cap] w fun e w' => ∃ ps, e = .returned (.slice (some ⟨w.heap.size, 0, none⟩) len len) ∧ ps.length = len ∧ Ring w' w.heap.size ps ∧ Below w.heap.size w w' := by
  have hmk := fun wx => run_make_row' (P := Yba.prog) 24 29 (.pointer none) 8 Yba.underlying24 Yba.info29 rfl .i64 .i64 len (by omega) (by omega) wx
  go_enter Yba.func4, Yba.ntmps4
  go_wp2
  go_loopw [4] (fun i wr => ∃ (k : Nat) (ps : List (Option Addr)), k ≤ len ∧ i = .int .i64 k ∧ ps.length = len ∧ Ring wr w.heap.size ps ∧ Below w.heap.size w wr) (fun i _ => len - (intOf i).toNat)
  case atStart => exact ⟨0, List.replicate len none, Nat.zero_le _, rfl, by simp, ring_made w len, (Below.refl _ _).alloc (Nat.le_refl _) _⟩
  case round =>
    obtain ⟨k, ps, hk, rfl, hps, hR, hB⟩ := hrel
    clear hmk
    by_cases hlt : k < len
    · have hcx : wr.cell? ⟨b, o + k, none⟩ = some (.int .u8 (f k)) := (hB.cell (p := ⟨b, o + k, none⟩) hb).trans (hc k hlt)
      have hf := hw k hlt
      have hcr : wr.cell? ⟨w.heap.size, k, none⟩ = some (.pointer (ps.getD k none)) := by
        rw [hR.cell, List.getD_eq_getElem?_getD, List.getElem?_eq_getElem (by omega)]; rfl
      have hfr := hR.frozen k
      have hsz := hR.lt
      by_cases h4 : f k % 4 = 0
      · have HR : Hid (Ring wr w.heap.size ps) := hR
        clear hR
        go_wp2
        go_roundw
        case rel => exact ⟨k + 1, ps, by omega, by go_num, hps, HR.out, hB⟩
        case measure => simp [intOf]; omega
      · have HR : Hid (Ring wr w.heap.size ps) := hR
        clear hR
        go_wp2
        go_roundw
        case rel => exact ⟨k + 1, _, by omega, by go_num, by simpa using hps, (HR.out.set _ _).alloc _, (hB.setCell (by simp) _).alloc (by simp; omega) _⟩
        case measure => simp [intOf]; omega
    · go_wp2
      go_ret
      exact ⟨ps, rfl, hps, hR, hB⟩

theorem mk_none (a : Option Addr) (len cap : Nat) (w : World) (hlen : len = 0) :
    Calls Yba.prog 4 #[.slice a len cap] w fun e w' => ∃ ps, e = .returned (.slice (some ⟨w.heap.size, 0, none⟩) len len) ∧ ps.length = len ∧ Ring w' w.heap.size ps ∧ Below w.heap.size w w' := by
  have hmk := fun wx => run_make_row' (P := Yba.prog) 24 29 (.pointer none) 8 Yba.underlying24 Yba.info29 rfl .i64 .i64 len (by omega) (by omega) wx
  have HL : Hid (len = 0) := hlen
  have hle : len ≤ 0 := by omega
  clear hlen
  go_enter Yba.func4, Yba.ntmps4
  go_wp2
  go_loopw [4] (fun i wr => ∃ (k : Nat) (ps : List (Option Addr)), k ≤ len ∧ i = .int .i64 k ∧ ps.length = len ∧ Ring wr w.heap.size ps ∧ Below w.heap.size w wr) (fun i _ => len - (intOf i).toNat)
  case atStart => exact ⟨0, List.replicate len none, Nat.zero_le _, rfl, by simp, ring_made w len, (Below.refl _ _).alloc (Nat.le_refl _) _⟩
  case round =>
    obtain ⟨k, ps, hk, rfl, hps, hR, hB⟩ := hrel
    clear hmk
    have hge : ¬ k < len := by omega
    go_wp2
    go_ret
    exact ⟨ps, rfl, hps, hR, hB⟩
end Go.Proofs.Ybulkebpi
