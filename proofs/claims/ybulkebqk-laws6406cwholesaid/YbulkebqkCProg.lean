/-
  zzs6406cprog: what a transaction reads and writes, in its order.
-/
import Derived.Test.YbulkebqkCSfind
import Derived.Test.YbulkebqkCBuild
namespace Go.Proofs.Ybulkebqk
open Go.RowKit
set_option linter.unusedVariables false

/-- The reads and writes of transaction t among l's first k operations. -/
def progUp (l : List OpV) (t : Int) (k : Nat) : List OpV := ((l.take k).filter fun o => o.t == t && acc o.k).map fun o => ⟨o.k, 0, o.i⟩
theorem progUp_zero (l : List OpV) (t : Int) : progUp l t 0 = [] := rfl
theorem take_succ_getD (l : List OpV) (k : Nat) (hk : k < l.length) : l.take (k + 1) = l.take k ++ [l.getD k default] := by
  rw [List.take_add_one, List.getD_eq_getElem?_getD, List.getElem?_eq_getElem hk]; simp
theorem progUp_yes (l : List OpV) (t : Int) (k : Nat) (hk : k < l.length) (h : ((l.getD k default).t == t && acc (l.getD k default).k) = true) : opCells (progUp l t (k + 1)) = opCells (progUp l t k) ++ [.int .u8 (l.getD k default).k, .int .i64 0, .string (l.getD k default).i] := by
  rw [progUp, take_succ_getD l k hk, List.filter_append, List.map_append, opCells_app]
  simp only [List.filter_cons, h, if_true]
  rfl
theorem progUp_no (l : List OpV) (t : Int) (k : Nat) (hk : k < l.length) (h : ((l.getD k default).t == t && acc (l.getD k default).k) = false) : progUp l t (k + 1) = progUp l t k := by
  rw [progUp, take_succ_getD l k hk, List.filter_append, List.map_append]
  simp only [List.filter_cons, h]
  simp [progUp]
theorem progUp_len (l : List OpV) (t : Int) (k : Nat) : (progUp l t k).length ≤ k := by
  simp only [progUp, List.length_map]
  exact Nat.le_trans (List.length_filter_le _ _) (by simp; omega)

theorem news3 (W : World) (H : Nat) (hH : W.heap.size = H) (x y z : Value) (t : TypeId) : ∀ j u, [x, y, z][j]? = some u → (W.alloc (.cells #[x, y, z] t)).cell? ((⟨H, 0, none⟩ : Addr).add j) = some u := by
  subst hH
  exact World.news_of_block (MapKept.heap_alloc W _).1

set_option maxRecDepth 20000 in
theorem prog45 (g n cap : Nat) (l : List OpV) (t : Int) (w : World) (hn : l.length = n) (hb : n ≤ 65536) (hR : Row w g (opCells l)) :
    Calls Yba.prog 45 #[.slice (some ⟨g, 0, none⟩) n cap, .int .i64 t] w fun e w' => ∃ a c, e = .returned (.slice a (progUp l t n).length c) ∧ w'.ownsRow w.heap.size 64 3 (.slice a (progUp l t n).length c) (progUp l t n).length (opCells (progUp l t n)) ∧ Below w.heap.size w w' := by
  obtain ⟨i0, hi, hz0, hz1, hz2⟩ := info_parts Yba.info64
  have HR : Hid (Row w g (opCells l)) := hR
  have HL : Hid (l.length = n) := hn
  have hgl := hR.lt
  clear hR hn
  go_enter Yba.func45, Yba.ntmps45
  go_wp2_with fail
  go_loopw [5, 10] (fun v i wr => ∃ (k L c : Nat) (a : Option Addr), k ≤ n ∧ i = .int .i64 k ∧ v = .slice a L c ∧ Hid (L = (progUp l t k).length) ∧ Hid (wr.ownsRow w.heap.size 64 3 (.slice a L c) L (opCells (progUp l t k))) ∧ Below w.heap.size w wr) (fun _ i _ => n - (intOf i).toNat)
  case atStart => exact ⟨0, 0, 0, none, Nat.zero_le _, rfl, rfl, rfl, World.ownsRow_nil _ _ _ _, Below.refl _ _⟩
  case round =>
    obtain ⟨k, L, c, a, hk, rfl, rfl, HLn, HO, hB⟩ := hrel
    by_cases hlt : k < n
    · obtain ⟨c0, c1, c2⟩ := opCells_at l k (by rw [HL.out]; exact hlt)
      have hRr := HR.out.below hB hgl
      have d0 := hRr.cell c0
      have d1 := hRr.cell c1
      have d2 := hRr.cell c2
      obtain ⟨o, ho⟩ : ∃ o, o = l.getD k default := ⟨_, rfl⟩
      rw [← ho] at d0 d1 d2
      have HOo : Hid (o = l.getD k default) := ho
      have kn : (k : Int) < (n : Int) := by omega
      have hLb : L ≤ 65536 := by rw [HLn.out]; exact Nat.le_trans (progUp_len l t k) (by omega)
      have hws := hB.size
      clear ho c0 c1 c2 hRr
      by_cases ht : o.t = t
      · have ht' : (o.t == t) = true := by simpa using ht
        cases hac : acc o.k with
        | true =>
          have HE : Hid (opCells (progUp l t (k + 1)) = opCells (progUp l t k) ++ [.int .u8 o.k, .int .i64 0, .string o.i]) := by
            show _ = _
            rw [HOo.out]
            exact progUp_yes l t k (by rw [HL.out]; exact hlt) (by rw [← HOo.out, ht', hac]; rfl)
          have HLe : Hid (L + 1 = (progUp l t (k + 1)).length) := by
            show _ = _
            have := congrArg List.length HE.out
            rw [List.length_append, opCells_len, opCells_len] at this
            rw [HLn.out]; simp at this; omega
          go_wp2_with (first
            | (at_builtin; refine wpList_append_own _ rfl (.tmp 23) (.tmp 29) 58 rfl w.heap.size 64 i0 (.agg #[.int .u8 0, .int .i64 0, .string { data := #[] }]) 3 32 Yba.underlying58 hi hz0 hz1 hz2 rfl (by decide) _ L (opCells (progUp l t k)) rfl ((HO.out.alloc _).alloc _) ⟨wr.heap.size + 1, 0, none⟩ 1 1 [.int .u8 o.k, .int .i64 0, .string o.i] rfl rfl (news3 _ _ (by simp) _ _ _ _) (by intro u hu; simp at hu; rcases hu with rfl | rfl | rfl <;> rfl) (by unfold maxLen; omega) (by omega) (by simp; omega) ?_; intro v' w1 hown' hgrow hnil')
            | (go_at_call 30; refine (acc30 o.k _).mono ?_; rw [hac]; rintro e w' ⟨rfl, rfl⟩))
          go_roundw
          case rel =>
            obtain ⟨g', c', rfl, hgb⟩ := owns_form hown' (by omega)
            refine ⟨k + 1, L + 1, c', some ⟨g', 0, none⟩, by omega, by go_num, rfl, HLe, ?_, ?_⟩
            · show World.ownsRow _ _ _ _ _ _ _
              rw [HE.out]; exact hown'
            · exact ((hB.alloc hws _).alloc (by simp; omega) _).grown hgrow (by simp; omega) (fun j hj => (HO.out.lt j hj).1)
          case measure => simp [intOf]; omega
        | false =>
          have HE : Hid (progUp l t (k + 1) = progUp l t k) := progUp_no l t k (by rw [HL.out]; exact hlt) (by rw [← HOo.out, hac]; simp)
          go_wp2_with (go_at_call 30; refine (acc30 o.k _).mono ?_; rw [hac]; rintro e w' ⟨rfl, rfl⟩)
          go_roundw
          case rel => exact ⟨k + 1, L, c, a, by omega, by go_num, rfl, by rw [HE.out]; exact HLn, by rw [HE.out]; exact HO.out.alloc _, hB.alloc hws _⟩
          case measure => simp [intOf]; omega
      · have ht' : (o.t == t) = false := by simpa using ht
        have HE : Hid (progUp l t (k + 1) = progUp l t k) := progUp_no l t k (by rw [HL.out]; exact hlt) (by rw [← HOo.out, ht']; rfl)
        go_wp2_with fail
        go_roundw
        case rel => exact ⟨k + 1, L, c, a, by omega, by go_num, rfl, by rw [HE.out]; exact HLn, by rw [HE.out]; exact HO.out.alloc _, hB.alloc hws _⟩
        case measure => simp [intOf]; omega
    · have hkn : k = n := by omega
      subst hkn
      have kn : ¬ (k : Int) < (k : Int) := by omega
      go_wp2_with fail
      go_ret
      exact ⟨a, c, by rw [← HLn.out]; simp, by rw [← HLn.out]; exact HO.out, hB⟩
end Go.Proofs.Ybulkebqk
