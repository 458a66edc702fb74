/-
  The walk where no map stands ahead (pre % 3 = 0).
-/
import Derived.Test.YbulkebogParts
namespace Go.Proofs.Ybulkebog
open Go.RowKit Go.Maps

set_option maxHeartbeats 400000 in
theorem walk0 (a0 : Bool) (a1 : Int) (a2 : Option Addr) (len2 cap2 : Nat) (a3 : Option Addr) (len3 cap3 : Nat) (a4 : Int) (a5 : Int) (w : World) (hlo : 0 ≤ a1) (hhi : a1 ≤ 255) (hlen : (len2 : Int) ≤ 1048576) (hp1 : (a1 % 3 == 1) = false) (hp2 : (a1 % 3 == 2) = false) :
    Calls Yba.prog 3 #[.bool a0, .int .u8 a1, .slice a2 len2 cap2, .slice a3 len3 cap3, .int .u64 a4, .int .i64 a5] w fun e w' => e = .returned (.bool true) ∧ Below w.heap.size w w' := by
  have q58 : ∀ (w : World) (r : Option Nat), (binOp .eql 58 (.map r) (.map none)).run Yba.prog w = .ok (.bool r.isNone) w := fun w r => run_eql_map_nil w _ _ _ r Yba.underlying58
  have q29 : ∀ (w : World) (r : Option Nat), (binOp .eql 29 (.map r) (.map none)).run Yba.prog w = .ok (.bool r.isNone) w := fun w r => run_eql_map_nil w _ _ _ r Yba.underlying29
  have l58 : ∀ (w : World) (ty : TypeId), (Builtin.len_ #[58] ty #[.map none]).run Yba.prog w = .ok (.int .i64 0) w := fun w ty => Maps.len_nil Yba.underlying58 ty
  cases a0
  · go_enter Yba.func3, Yba.ntmps3
    go_wp2_with fail
    refine (new_fresh _).mono ?_
    rintro e w1 ⟨rfl, hF⟩
    have HF : Hid (Fresh w w1) := hF
    obtain ⟨hbel, hsz, hslots, c0, c1, c2, c3, c4, c5, c297, fz⟩ := hF
    go_wp2_with fail
    refine (trace_off_here ((here_of_fresh HF.out a4 a5).change none)).mono ?_
    clear hbel hsz hslots c0 c1 c2 c3 c4 c5 c297 fz
    rintro e w2 ⟨rfl, hH, hkeep⟩
    clear HF hkeep
    obtain ⟨hbel, s0, s1, s2, s3, s4, s5, s297, fz, slots, big⟩ := hH
    have l29 : ∀ ty, (Builtin.len_ #[29] ty #[.map (some w.heap.size)]).run Yba.prog w2 = .ok (.int .i64 0) w2 := fun ty => slots.len Yba.underlying29 ty
    go_wp2_with fail
    go_ret
    exact ⟨rfl, hbel⟩
  · go_enter Yba.func3, Yba.ntmps3
    go_wp2_with fail
    refine (new_fresh _).mono ?_
    rintro e w1 ⟨rfl, hF⟩
    have HF : Hid (Fresh w w1) := hF
    obtain ⟨hbel, hsz, hslots, c0, c1, c2, c3, c4, c5, c297, fz⟩ := hF
    go_wp2_with fail
    refine (trace_on_here ((here_of_fresh HF.out a4 a5).change none)).mono ?_
    clear hbel hsz hslots c0 c1 c2 c3 c4 c5 c297 fz
    rintro e w2 ⟨rfl, nb, hnbe, hnb, hH, hown, hkeep⟩
    clear hnbe
    clear HF hkeep
    have l0 : ∀ ty, (Builtin.len_ #[58] ty #[.map (some nb)]).run Yba.prog w2 = .ok (.int .i64 0) w2 := fun ty => hown.len Yba.underlying58 ty
    have HH : Hid (Here w.heap.size w w2 a4 a5 (some nb)) := hH
    obtain ⟨hbel, s0, s1, s2, s3, s4, s5, s297, fz, slots, big⟩ := hH
    have l29 : ∀ ty, (Builtin.len_ #[29] ty #[.map (some w.heap.size)]).run Yba.prog w2 = .ok (.int .i64 0) w2 := fun ty => slots.len Yba.underlying29 ty
    go_wp2_with (at_mapUpdate; refine wpList_mapUpdate_own _ rfl _ _ _ 58 rfl 63 28 law63 Yba.underlying58 anyElem nb 0 (.map []) rfl hown (by decide) _ _ (.int .i64 7) rfl rfl (keyOf_int_mk Yba.underlying63 (by decide)) (.lit (.bool true)) [] rfl ?_; intro w3 hown3 hgrow3; obtain ⟨hbel3, s297', l1⟩ := after_first HH.out hnb hown3 hgrow3; clear hown3 hgrow3)
    go_ret
    exact ⟨rfl, by assumption⟩
end Go.Proofs.Ybulkebog
