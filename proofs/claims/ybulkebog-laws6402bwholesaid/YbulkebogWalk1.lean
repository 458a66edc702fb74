/-
  The walk where an empty map stands ahead (pre % 3 = 1).
-/
import Derived.Test.YbulkebogParts
namespace Go.Proofs.Ybulkebog
open Go.RowKit Go.Maps

/-- The empty map that the law lays behind the State. -/
theorem old_made {w w1 : World} (hF : Fresh w w1) (sup t : Int) : (((((((w1.setCell ⟨w.heap.size + 1, 0, none⟩ (.int .u64 sup)).setCell ⟨w.heap.size + 1, 1, none⟩ (.int .u64 0)).setCell ⟨w.heap.size + 1, 2, none⟩ (.int .u64 0)).setCell ⟨w.heap.size + 1, 3, none⟩ (.int .u64 sup)).setCell ⟨w.heap.size + 1, 4, none⟩ (.int .i64 t)).setCell ⟨w.heap.size + 1, 297, none⟩ (.map (some (w.heap.size + 2)))).alloc (.map #[] 0)).ownsMap Yba.prog 63 anyElem (w.heap.size + 2) 0 (.map []) := by
  refine own_empty 63 ?_
  have := (MapKept.heap_alloc ((((((w1.setCell ⟨w.heap.size + 1, 0, none⟩ (.int .u64 sup)).setCell ⟨w.heap.size + 1, 1, none⟩ (.int .u64 0)).setCell ⟨w.heap.size + 1, 2, none⟩ (.int .u64 0)).setCell ⟨w.heap.size + 1, 3, none⟩ (.int .u64 sup)).setCell ⟨w.heap.size + 1, 4, none⟩ (.int .i64 t)).setCell ⟨w.heap.size + 1, 297, none⟩ (.map (some (w.heap.size + 2)))) (.map #[] 0)).1
  simpa [hF.size] using this

set_option maxHeartbeats 400000 in
theorem walk1_off (a1 : Int) (a2 : Option Addr) (len2 cap2 : Nat) (a3 : Option Addr) (len3 cap3 : Nat) (a4 : Int) (a5 : Int) (w : World) (hlo : 0 ≤ a1) (hhi : a1 ≤ 255) (hlen : (len2 : Int) ≤ 1048576) (hp1 : (a1 % 3 == 1) = true) :
    Calls Yba.prog 3 #[.bool false, .int .u8 a1, .slice a2 len2 cap2, .slice a3 len3 cap3, .int .u64 a4, .int .i64 a5] w fun e w' => e = .returned (.bool true) ∧ Below w.heap.size w w' := by
  have hmm := @run_makeMap Yba.prog
  have q58 : ∀ (w : World) (r : Option Nat), (binOp .eql 58 (.map r) (.map none)).run Yba.prog w = .ok (.bool r.isNone) w := fun w r => run_eql_map_nil w _ _ _ r Yba.underlying58
  have q29 : ∀ (w : World) (r : Option Nat), (binOp .eql 29 (.map r) (.map none)).run Yba.prog w = .ok (.bool r.isNone) w := fun w r => run_eql_map_nil w _ _ _ r Yba.underlying29
  go_enter Yba.func3, Yba.ntmps3
  go_wp2_with fail
  refine (new_fresh _).mono ?_
  rintro e w1 ⟨rfl, hF⟩
  have HF : Hid (Fresh w w1) := hF
  obtain ⟨hbel, hsz, hslots, c0, c1, c2, c3, c4, c5, c297, fz⟩ := hF
  go_wp2_with (at_len; refine wpList_len_own _ rfl _ 58 rfl 63 28 Yba.underlying58 anyElem (w.heap.size + 2) 0 (.map []) rfl (old_made HF.out a4 a5) ?_)
  have OLD : Hid _ := old_made HF.out a4 a5
  refine (trace_off_here (((here_of_fresh HF.out a4 a5).change (some (w.heap.size + 2))).alloc _)).mono ?_
  clear hbel hsz hslots c0 c1 c2 c3 c4 c5 c297 fz HF
  rintro e w2 ⟨rfl, hH, hkeep⟩
  have ho2 := hkeep _ _ _ (by omega) OLD.out
  clear hkeep OLD
  obtain ⟨hbel, s0, s1, s2, s3, s4, s5, s297, fz, slots, big⟩ := hH
  have lo2 : ∀ ty, (Builtin.len_ #[58] ty #[.map (some (w.heap.size + 2))]).run Yba.prog w2 = .ok (.int .i64 0) w2 := fun ty => ho2.len Yba.underlying58 ty
  have l29 : ∀ ty, (Builtin.len_ #[29] ty #[.map (some w.heap.size)]).run Yba.prog w2 = .ok (.int .i64 0) w2 := fun ty => slots.len Yba.underlying29 ty
  clear ho2 slots
  go_wp2_with fail
  go_ret
  exact ⟨rfl, hbel⟩

set_option maxHeartbeats 400000 in
theorem walk1_on (a1 : Int) (a2 : Option Addr) (len2 cap2 : Nat) (a3 : Option Addr) (len3 cap3 : Nat) (a4 : Int) (a5 : Int) (w : World) (hlo : 0 ≤ a1) (hhi : a1 ≤ 255) (hlen : (len2 : Int) ≤ 1048576) (hp1 : (a1 % 3 == 1) = true) :
    Calls Yba.prog 3 #[.bool true, .int .u8 a1, .slice a2 len2 cap2, .slice a3 len3 cap3, .int .u64 a4, .int .i64 a5] w fun e w' => e = .returned (.bool true) ∧ Below w.heap.size w w' := by
  have hmm := @run_makeMap Yba.prog
  have q58 : ∀ (w : World) (r : Option Nat), (binOp .eql 58 (.map r) (.map none)).run Yba.prog w = .ok (.bool r.isNone) w := fun w r => run_eql_map_nil w _ _ _ r Yba.underlying58
  have q29 : ∀ (w : World) (r : Option Nat), (binOp .eql 29 (.map r) (.map none)).run Yba.prog w = .ok (.bool r.isNone) w := fun w r => run_eql_map_nil w _ _ _ r Yba.underlying29
  go_enter Yba.func3, Yba.ntmps3
  go_wp2_with fail
  refine (new_fresh _).mono ?_
  rintro e w1 ⟨rfl, hF⟩
  have HF : Hid (Fresh w w1) := hF
  obtain ⟨hbel, hsz, hslots, c0, c1, c2, c3, c4, c5, c297, fz⟩ := hF
  go_wp2_with (at_len; refine wpList_len_own _ rfl _ 58 rfl 63 28 Yba.underlying58 anyElem (w.heap.size + 2) 0 (.map []) rfl (old_made HF.out a4 a5) ?_)
  have OLD : Hid _ := old_made HF.out a4 a5
  refine (trace_on_here (((here_of_fresh HF.out a4 a5).change (some (w.heap.size + 2))).alloc _)).mono ?_
  clear hbel hsz hslots c0 c1 c2 c3 c4 c5 c297 fz HF
  rintro e w2 ⟨rfl, nb, hnbe, hnb, hH, hown, hkeep⟩
  have hmn : some (w.heap.size + 2) ≠ some nb := fun h => by have hl := World.ownsMap.lt OLD.out; simp only [Option.some.injEq] at h; omega
  have ho2 := hkeep _ _ _ (by omega) OLD.out
  clear hkeep OLD hnbe
  have l0 : ∀ ty, (Builtin.len_ #[58] ty #[.map (some nb)]).run Yba.prog w2 = .ok (.int .i64 0) w2 := fun ty => hown.len Yba.underlying58 ty
  have HH : Hid (Here w.heap.size w w2 a4 a5 (some nb)) := hH
  obtain ⟨hbel, s0, s1, s2, s3, s4, s5, s297, fz, slots, big⟩ := hH
  have lo2 : ∀ ty, (Builtin.len_ #[58] ty #[.map (some (w.heap.size + 2))]).run Yba.prog w2 = .ok (.int .i64 0) w2 := fun ty => ho2.len Yba.underlying58 ty
  have l29 : ∀ ty, (Builtin.len_ #[29] ty #[.map (some w.heap.size)]).run Yba.prog w2 = .ok (.int .i64 0) w2 := fun ty => slots.len Yba.underlying29 ty
  have HO : Hid (w2.ownsMap Yba.prog 63 anyElem ((w.heap.size + 2)) 0 (.map [])) := ho2
  have HN : Hid (some (w.heap.size + 2) ≠ some nb) := hmn
  clear ho2 slots hmn
  go_wp2_with (at_mapUpdate; refine wpList_mapUpdate_own _ rfl _ _ _ 58 rfl 63 28 law63 Yba.underlying58 anyElem nb 0 (.map []) rfl hown (by decide) _ _ (.int .i64 7) rfl rfl (keyOf_int_mk Yba.underlying63 (by decide)) (.lit (.bool true)) [] rfl ?_; intro w3 hown3 hgrow3; obtain ⟨hbel3, s297', l1⟩ := after_first HH.out hnb hown3 hgrow3; have lo3 : ∀ ty, (Builtin.len_ #[58] ty #[.map (some ((w.heap.size + 2)))]).run Yba.prog w3 = .ok (.int .i64 0) w3 := fun ty => (HO.out.kept hgrow3 HN.out).len Yba.underlying58 ty; clear hown3 hgrow3)
  go_ret
  exact ⟨rfl, by assumption⟩

end Go.Proofs.Ybulkebog
