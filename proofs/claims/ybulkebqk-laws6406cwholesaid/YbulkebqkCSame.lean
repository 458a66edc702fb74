/-
  zzs6406csame: have two schedules the same programs?
-/
import Derived.Test.YbulkebqkCEqualO
import Derived.Test.YbulkebqkCProg
namespace Go.Proofs.Ybulkebqk
open Go.RowKit
set_option linter.unusedVariables false

/-- The program of a transaction. -/
def progOf (l : List OpV) (t : Int) : List OpV := progUp l t l.length
def sameB (la lb : List OpV) (ta tb : List Int) : Bool := decide (ta = tb) && ta.all fun t => decide (progOf la t = progOf lb t)

theorem At.below {w w' : World} {a : Option Addr} {vs : List Value} (h : At w a vs) (hb : Below w.heap.size w w') : At w' a vs := fun hl => by
  obtain ⟨g, rfl, hR⟩ := h hl
  exact ⟨g, rfl, hR.below hb hR.lt⟩
theorem at_owned {w : World} {base n c : Nat} {e : TypeId} {size : Nat} {a : Option Addr} {vs : List Value} (h : w.ownsRow base e size (.slice a n c) n vs) : At w a vs := fun hl => by
  rcases h.2 with ⟨hz, h0⟩ | ⟨g, cap, cur, hv, hb, _⟩
  · rw [h.1, h0] at hl; omega
  · simp only [Value.slice.injEq, true_and] at hv
    obtain ⟨rfl, rfl⟩ := hv
    exact ⟨g, rfl, row_owned h⟩

set_option maxRecDepth 20000 in
theorem same29 (ga gb na nb ca cb nt mt ct dt : Nat) (aT bT : Option Addr) (la lb : List OpV) (ta tb : List Int) (w : World) (hla : la.length = na) (hlb : lb.length = nb) (hta : ta.length = nt) (htb : tb.length = mt)
    (ba : na ≤ 65536) (bb : nb ≤ 65536) (bt : nt ≤ 1000000) (hA : Row w ga (opCells la)) (hB : Row w gb (opCells lb)) (hT : At w aT (ints .i64 ta)) (hU : At w bT (ints .i64 tb)) :
    Calls Yba.prog 29 #[.slice (some ⟨ga, 0, none⟩) na ca, .slice (some ⟨gb, 0, none⟩) nb cb, .slice aT nt ct, .slice bT mt dt] w fun e w' => e = .returned (.bool (sameB la lb ta tb)) ∧ Below w.heap.size w w' := by
  have HA : Hid (Row w ga (opCells la)) := hA
  have HB : Hid (Row w gb (opCells lb)) := hB
  have HT : Hid (At w aT (ints .i64 ta)) := hT
  have HLA : Hid (la.length = na) := hla
  have HLB : Hid (lb.length = nb) := hlb
  have HLT : Hid (ta.length = nt) := hta
  have heq := equal24 aT bT nt mt ct dt ta tb w hta htb bt hT hU
  clear hA hB hT hU hla hlb hta htb
  by_cases hteq : ta = tb
  · have hdec : decide (ta = tb) = true := by simpa using hteq
    rw [hdec] at heq
    have HD : Hid (ta = tb) := hteq
    clear hteq hdec
    go_enter Yba.func29, Yba.ntmps29
    go_wp2_with fail
    refine heq.mono ?_
    rintro e w1 ⟨rfl, d, rfl⟩
    clear heq
    go_wp2_with fail
    go_loopw [10, 17] (fun _ i wr => ∃ k : Nat, k ≤ nt ∧ i = .int .i64 k ∧ Hid (∀ j, j < k → progOf la (ta.getD j 0) = progOf lb (ta.getD j 0)) ∧ Below w.heap.size w wr) (fun _ i _ => nt - (intOf i).toNat)
    case atStart => exact ⟨0, Nat.zero_le _, rfl, fun j h => by omega, below_drewN (Below.refl _ _) d⟩
    case round =>
      obtain ⟨k, hk, rfl, HN, hBw⟩ := hrel
      by_cases hlt : k < nt
      · have hx : k < ta.length := by rw [HLT.out]; exact hlt
        obtain ⟨g1, rfl, hR1⟩ := (HT.out.below hBw) (by rw [ints_len]; omega)
        have e1 := hR1.cell (ints_at .i64 ta k hx)
        obtain ⟨x, hxx⟩ : ∃ x, x = ta.getD k 0 := ⟨_, rfl⟩
        rw [← hxx] at e1
        have H1 : Hid (x = ta.getD k 0) := hxx
        have kn : (k : Int) < (nt : Int) := by omega
        clear hR1 hxx
        have hpa := prog45 ga na ca la x wr HLA.out ba (HA.out.below hBw HA.out.lt)
        go_wp2_with fail
        refine hpa.mono ?_
        clear hpa
        rintro e W1 ⟨a1, c1, rfl, ho1, hB1⟩
        have hBw1 : Below w.heap.size w W1 := hBw.trans (hB1.mono hBw.size)
        have hpb := prog45 gb nb cb lb x W1 HLB.out bb (HB.out.below hBw1 HB.out.lt)
        have HO1 : Hid (W1.ownsRow wr.heap.size 64 3 (.slice a1 (progUp la x na).length c1) (progUp la x na).length (opCells (progUp la x na))) := ho1
        clear ho1 hB1
        go_wp2_with fail
        refine hpb.mono ?_
        clear hpb
        rintro e W2 ⟨a2, c2, rfl, ho2, hB2⟩
        have hBw2 : Below w.heap.size w W2 := hBw1.trans (hB2.mono hBw1.size)
        have hcmp := equal44 a1 a2 _ _ c1 c2 (progUp la x na) (progUp lb x nb) W2 rfl rfl (Nat.le_trans (progUp_len la x na) (by omega)) (at_owned (owns_below (B := 0) HO1.out hB2)) (at_owned ho2)
        clear ho2 hB2 HO1
        by_cases hp : progUp la x na = progUp lb x nb
        · have hdec : decide (progUp la x na = progUp lb x nb) = true := by simpa using hp
          rw [hdec] at hcmp
          have HP : Hid (progUp la x na = progUp lb x nb) := hp
          clear hp hdec
          go_wp2_with fail
          refine hcmp.mono ?_
          rintro e W3 ⟨rfl, d3, rfl⟩
          clear hcmp
          go_wp2_with fail
          go_roundw
          case rel =>
            refine ⟨k + 1, by omega, by go_num, fun j h => ?_, below_drewN hBw2 d3⟩
            by_cases e : j = k
            · subst e; rw [← H1.out, progOf, progOf, HLA.out, HLB.out]; exact HP.out
            · exact HN.out j (by omega)
          case measure => simp [intOf]; omega
        · have hdec : decide (progUp la x na = progUp lb x nb) = false := by simpa using hp
          rw [hdec] at hcmp
          have HF : Hid (sameB la lb ta tb = false) := by
            show _ = _
            rw [sameB, Bool.and_eq_false_iff]
            refine .inr ?_
            rw [List.all_eq_false]
            refine ⟨x, ?_, ?_⟩
            · rw [H1.out, List.getD_eq_getElem?_getD, List.getElem?_eq_getElem hx]; simp
            · rw [progOf, progOf, HLA.out, HLB.out]; simpa using hp
          clear hp hdec
          go_wp2_with fail
          refine hcmp.mono ?_
          rintro e W3 ⟨rfl, d3, rfl⟩
          clear hcmp
          go_wp2_with fail
          go_ret
          exact ⟨by rw [HF.out]; simp, below_drewN hBw2 d3⟩
      · have kn : ¬ (k : Int) < (nt : Int) := by omega
        have HF : Hid (sameB la lb ta tb = true) := by
          show _ = _
          rw [sameB, Bool.and_eq_true, List.all_eq_true]
          refine ⟨by simpa using HD.out, fun x hx => ?_⟩
          obtain ⟨j, hj, rfl⟩ := List.mem_iff_getElem.1 hx
          have := HN.out j (by rw [HLT.out] at hj; omega)
          rw [List.getD_eq_getElem?_getD, List.getElem?_eq_getElem hj] at this
          simpa using this
        go_wp2_with fail
        go_ret
        exact ⟨by rw [HF.out]; simp, hBw⟩
  · have hdec : decide (ta = tb) = false := by simpa using hteq
    rw [hdec] at heq
    have HF : Hid (sameB la lb ta tb = false) := by show _ = _; rw [sameB, hdec]; rfl
    clear hteq hdec
    go_enter Yba.func29, Yba.ntmps29
    go_wp2_with fail
    refine heq.mono ?_
    rintro e w1 ⟨rfl, d, rfl⟩
    clear heq
    go_wp2_with fail
    go_ret
    exact ⟨by rw [HF.out]; simp, below_drewN (Below.refl _ _) d⟩
end Go.Proofs.Ybulkebqk
