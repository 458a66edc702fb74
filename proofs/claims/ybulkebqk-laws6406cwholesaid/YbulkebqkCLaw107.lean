/-
  The law from region 107 on: the least and the greatest transaction, the numbering's map or table.
-/
import Derived.Test.YbulkebqkCLaw5
namespace Go.Proofs.Ybulkebqk
open Go.RowKit Go.Maps
set_option linter.unusedVariables false
set_option maxRecDepth 100000
set_option maxHeartbeats 3200000 in
theorem tail107 (u0 u1 u2 u3 u4 u5 u6 u7 u8 u9 u10 u11 u13 u14 u15 u16 u17 u18 u19 u21 u23 u25 u26 u27 u28 u29 u30 u31 u32 u33 u34 u35 u36 u37 u38 u39 u40 u41 u42 u43 u44 u45 u46 u47 u48 u50 u51 u52 u53 u54 u55 u56 u57 u58 u59 u60 u61 u62 u63 u64 u65 u66 u67 u68 u69 u70 u71 u72 u73 u74 u75 u76 u77 u78 u79 u80 u81 u82 u83 u84 u85 u86 u87 u88 u89 u90 u91 u92 u93 u94 u95 u96 u97 u98 u99 u100 u101 u102 u103 u104 u105 u106 u107 u108 u109 u110 u111 u112 u113 u114 u115 u116 u117 u118 u119 u120 u121 u122 u123 u124 u125 u126 u127 u128 u129 u130 u131 u132 u133 u134 u135 u136 u137 u138 u139 u140 u141 u142 u143 u144 u145 u146 u147 u148 u149 u150 u151 u152 u153 u154 u155 u156 u157 u158 u159 u160 u161 u162 u163 u164 u165 u166 u167 u168 u169 u170 u171 u172 u173 u174 u175 u176 u177 u178 u179 u180 u181 u182 u183 u184 u185 u186 u187 u188 u189 u190 u191 u192 u193 u194 u195 u196 u197 u198 u199 u200 u201 u202 u203 u204 u205 u206 u207 u208 u209 u210 u211 u212 u213 u214 u215 u216 u217 u218 u219 u220 u221 u222 u223 u224 u225 u226 u227 u228 u229 u230 u231 u232 u233 u234 u235 u236 u237 u238 u239 u240 u241 u242 u243 u244 u245 u246 u247 u248 u249 u250 u251 u252 u253 u254 u255 u256 u257 u258 u259 u260 u261 u262 u263 u264 u265 u266 u267 u268 u269 u270 u271 u272 u273 u274 u275 u276 u277 u278 u279 u280 u281 u282 u283 u284 u285 u286 u287 u288 u289 u290 u291 u292 u293 u294 u295 u296 u297 u298 u299 u300 u301 u302 u303 u304 u305 u306 u307 u308 u309 u310 u311 u312 u313 u314 u315 u316 u317 u318 u319 u320 u321 u322 u323 u324 u325 u326 u327 u328 u329 u330 u331 u332 u333 u334 u335 u336 u337 u338 u339 u340 u341 u342 u343 u344 u345 u346 u347 u348 u349 u350 u351 u352 u353 u354 u355 u356 u357 u358 u359 u360 u361 u362 u363 u364 u365 u366 u367 u368 u369 u370 u371 u372 u373 u374 u375 u376 u377 u378 u379 u380 u381 u382 u383 u384 u385 u386 u387 u388 u389 u390 u391 u392 u393 u394 u395 u396 u397 u398 u399 u400 u401 u402 u403 u404 u405 u406 u407 u408 u409 u410 u411 u412 u413 u414 u415 u416 u417 u418 u419 u420 u421 u422 u423 u424 u425 u426 u427 u428 u429 u430 u431 u432 u433 u434 u435 u436 u437 u438 u439 u440 u441 u442 u443 u444 u445 u446 u447 u448 u449 u450 u451 u452 u453 u454 u455 u456 u457 u458 u459 u460 u461 u462 u463 u464 u465 u466 u467 u468 u469 u470 u471 u472 u473 u474 u475 u476 u477 u478 u479 u480 u481 u482 u483 u484 u485 u486 u487 u488 u489 u490 u491 u492 u493 u494 u495 u496 u497 u498 u499 u500 u501 u502 u503 u504 u505 u506 u507 u508 u509 u510 u511 u512 u513 u514 u515 u516 u517 u518 u519 u520 u521 u522 u523 u524 u525 u526 u527 u528 u529 u530 u531 u532 u533 u534 u535 u536 u537 u538 u539 u540 u541 u542 u543 u544 u545 u546 u547 u548 u549 u550 u551 u552 u553 u554 u555 u556 u557 u558 u559 u560 u561 u562 u563 u564 u565 u566 u567 u568 u569 u570 u571 u572 u573 u574 u575 u576 u577 u578 u579 u580 u581 u582 u583 u584 u585 u586 u587 u588 u589 u590 u591 u592 u593 u594 u595 u596 u597 u598 u599 u600 u601 u602 u603 : Value) (g1 g2 n m c2 X p cT Tn B : Nat) (aT : Option Addr) (la lb : List OpV) (xa : List Int) (t9 t10 t11 : Value) (w0 W : World) (H : LawAt B w0 W g1 g2 n m X p aT la lb xa) (hT : Blk W Tn 73 [t9, t10, t11]) (hN : Hid (NumAt 0 W lb xa (.agg #[t9, t10, t11]))) (h0 : 0 < m) (K : Act → World → Prop) (hK : ∀ a w, Code.wp Yba.prog (rest4 44) (lawPost B w0) a w → K a w) :
    Code.wp Yba.prog (first (rest4 43)) (Exit.then K (lawPost B w0)) ⟨#[u0, u1, u2, u3, u4, u5, u6, u7, u8, u9, u10, u11, .slice (some ⟨g2, 0, none⟩) m c2, u13, u14, u15, u16, u17, u18, u19, .pointer (some ⟨X, 0, none⟩), u21, .slice aT p cT, u23, .int .i64 p, u25, u26, u27, u28, u29, u30, u31, u32, u33, u34, u35, u36, u37, u38, u39, u40, u41, u42, u43, u44, u45, u46, u47, u48, .pointer (some ⟨Tn, 0, none⟩), u50, u51, u52, u53, u54, u55, u56, u57, u58, u59, u60, u61, u62, u63, u64, u65, u66, u67, u68, u69, u70, u71, u72, u73, u74, u75, u76, u77, u78, u79, u80, u81, u82, u83, u84, u85, u86, u87, u88, u89, u90, u91, u92, u93, u94, u95, u96, u97, u98, u99, u100, u101, u102, u103, u104, u105, u106, u107, u108, u109, u110, u111, u112, u113, u114, u115, u116, u117, u118, u119, u120, u121, u122, u123, u124, u125, u126, u127, u128, u129, u130, u131, u132, u133, u134, u135, u136, u137, u138, u139, u140, u141, u142, u143, u144, u145, u146, u147, u148, u149, u150, u151, u152, u153, u154, u155, u156, u157, u158, u159, u160, u161, u162, u163, u164, u165, u166, u167, u168, u169, u170, u171, u172, u173, u174, u175, u176, u177, u178, u179, u180, u181, u182, u183, u184, u185, u186, u187, u188, u189, u190, u191, u192, u193, u194, u195, u196, u197, u198, u199, u200, u201, u202, u203, u204, u205, u206, u207, u208, u209, u210, u211, u212, u213, u214, u215, u216, u217, u218, u219, u220, u221, u222, u223, u224, u225, u226, u227, u228, u229, u230, u231, u232, u233, u234, u235, u236, u237, u238, u239, u240, u241, u242, u243, u244, u245, u246, u247, u248, u249, u250, u251, u252, u253, u254, u255, u256, u257, u258, u259, u260, u261, u262, u263, u264, u265, u266, u267, u268, u269, u270, u271, u272, u273, u274, u275, u276, u277, u278, u279, u280, u281, u282, u283, u284, u285, u286, u287, u288, u289, u290, u291, u292, u293, u294, u295, u296, u297, u298, u299, u300, u301, u302, u303, u304, u305, u306, u307, u308, u309, u310, u311, u312, u313, u314, u315, u316, u317, u318, u319, u320, u321, u322, u323, u324, u325, u326, u327, u328, u329, u330, u331, u332, u333, u334, u335, u336, u337, u338, u339, u340, u341, u342, u343, u344, u345, u346, u347, u348, u349, u350, u351, u352, u353, u354, u355, u356, u357, u358, u359, u360, u361, u362, u363, u364, u365, u366, u367, u368, u369, u370, u371, u372, u373, u374, u375, u376, u377, u378, u379, u380, u381, u382, u383, u384, u385, u386, u387, u388, u389, u390, u391, u392, u393, u394, u395, u396, u397, u398, u399, u400, u401, u402, u403, u404, u405, u406, u407, u408, u409, u410, u411, u412, u413, u414, u415, u416, u417, u418, u419, u420, u421, u422, u423, u424, u425, u426, u427, u428, u429, u430, u431, u432, u433, u434, u435, u436, u437, u438, u439, u440, u441, u442, u443, u444, u445, u446, u447, u448, u449, u450, u451, u452, u453, u454, u455, u456, u457, u458, u459, u460, u461, u462, u463, u464, u465, u466, u467, u468, u469, u470, u471, u472, u473, u474, u475, u476, u477, u478, u479, u480, u481, u482, u483, u484, u485, u486, u487, u488, u489, u490, u491, u492, u493, u494, u495, u496, u497, u498, u499, u500, u501, u502, u503, u504, u505, u506, u507, u508, u509, u510, u511, u512, u513, u514, u515, u516, u517, u518, u519, u520, u521, u522, u523, u524, u525, u526, u527, u528, u529, u530, u531, u532, u533, u534, u535, u536, u537, u538, u539, u540, u541, u542, u543, u544, u545, u546, u547, u548, u549, u550, u551, u552, u553, u554, u555, u556, u557, u558, u559, u560, u561, u562, u563, u564, u565, u566, u567, u568, u569, u570, u571, u572, u573, u574, u575, u576, u577, u578, u579, u580, u581, u582, u583, u584, u585, u586, u587, u588, u589, u590, u591, u592, u593, u594, u595, u596, u597, u598, u599, u600, u601, u602, u603], []⟩ W := by
  have bm := H.bm
  have bn := H.bn
  have hpm := H.pm
  have HLb : Hid (lb.length = m) := H.lenB
  have HR : Hid (Row W g2 (opCells lb)) := H.rb
  have hgl := H.rb.lt
  have HH : Hid (LawAt B w0 W g1 g2 n m X p aT la lb xa) := H
  have HTn : Hid (Blk W Tn 73 [t9, t10, t11]) := hT
  have hTl := hT.lt
  obtain ⟨a0, a1, a2⟩ := opCells_at lb 0 (by have := H.lenB; omega)
  simp only [Nat.zero_mul] at a0 a1 a2
  have hk1 := H.rb.cell a1
  obtain ⟨t0, ht0⟩ : ∃ t0, t0 = (lb.getD 0 default).t := ⟨_, rfl⟩
  rw [← ht0] at hk1
  have h00 : (0 : Int) < (m : Int) := by omega
  have HT0 : Hid (t0 = lo lb 0 ∧ t0 = hi lb 0) := ⟨by rw [ht0]; rfl, by rw [ht0]; rfl⟩
  clear H hT a0 a1 a2 ht0
  conv => arg 2; whnf
  go_wp2_with fail
  go_quiet (fail)
  go_wp2_with fail
  conv => arg 2; whnf
  go_wp2_with fail
  clear hk1
  go_loopw [50, 51, 53, 498] (fun a b _ i wr => ∃ (k : Nat) (x y : Int), k ≤ m ∧ i = .int .i64 k ∧ a = .int .i64 x ∧ b = .int .i64 y ∧ Hid (x = lo lb k) ∧ Hid (y = hi lb k) ∧ Below W.heap.size W wr) (fun _ _ _ i _ => m - (intOf i).toNat)
  case atStart => exact ⟨0, t0, t0, Nat.zero_le _, rfl, rfl, rfl, HT0.out.1, HT0.out.2, below_drewN (Below.refl _ _) _⟩
  case round =>
    obtain ⟨k, x, y, hk, rfl, rfl, rfl, HX, HY, hB⟩ := hrel
    by_cases hlt : k < m
    · obtain ⟨c0, c1, c2⟩ := opCells_at lb k (by rw [HLb.out]; exact hlt)
      have hRr := HR.out.below hB hgl
      have d0 := hRr.cell c0
      have d1 := hRr.cell c1
      have d2 := hRr.cell c2
      obtain ⟨o, ho⟩ : ∃ o, o = lb.getD k default := ⟨_, rfl⟩
      rw [← ho] at d0 d1 d2
      have HO : Hid (o = lb.getD k default) := ho
      clear ho c0 c1 c2 hRr
      have kn : (k : Int) < (m : Int) := by omega
      by_cases h1 : o.t < x
      · by_cases h2 : y < o.t
        · go_wp2_with fail
          go_roundw
          case rel =>
            refine ⟨k + 1, _, _, by omega, by go_num, rfl, rfl, ?_, ?_, hB.alloc hB.size _⟩
            · show _ = _; rw [lo_succ, ← HX.out, ← HO.out]; omega
            · show _ = _; rw [hi_succ, ← HY.out, ← HO.out]; omega
          case measure => simp [intOf]; omega
        · go_wp2_with fail
          go_roundw
          case rel =>
            refine ⟨k + 1, _, _, by omega, by go_num, rfl, rfl, ?_, ?_, hB.alloc hB.size _⟩
            · show _ = _; rw [lo_succ, ← HX.out, ← HO.out]; omega
            · show _ = _; rw [hi_succ, ← HY.out, ← HO.out]; omega
          case measure => simp [intOf]; omega
      · by_cases h2 : y < o.t
        · go_wp2_with fail
          go_roundw
          case rel =>
            refine ⟨k + 1, _, _, by omega, by go_num, rfl, rfl, ?_, ?_, hB.alloc hB.size _⟩
            · show _ = _; rw [lo_succ, ← HX.out, ← HO.out]; omega
            · show _ = _; rw [hi_succ, ← HY.out, ← HO.out]; omega
          case measure => simp [intOf]; omega
        · go_wp2_with fail
          go_roundw
          case rel =>
            refine ⟨k + 1, _, _, by omega, by go_num, rfl, rfl, ?_, ?_, hB.alloc hB.size _⟩
            · show _ = _; rw [lo_succ, ← HX.out, ← HO.out]; omega
            · show _ = _; rw [hi_succ, ← HY.out, ← HO.out]; omega
          case measure => simp [intOf]; omega
    · have hkn : k = m := by omega
      subst hkn
      have kn : ¬ (k : Int) < (k : Int) := by omega
      have bx : -1000 ≤ x ∧ x ≤ 1000 := by rw [HX.out]; exact HH.out.small.lo (by rw [HLb.out]; exact h0) k (by rw [HLb.out]; exact Nat.le_refl _)
      have by' : -1000 ≤ y ∧ y ≤ 1000 := by rw [HY.out]; exact HH.out.small.hi (by rw [HLb.out]; exact h0) k (by rw [HLb.out]; exact Nat.le_refl _)
      obtain ⟨bx1, bx2⟩ := bx
      obtain ⟨by1, by2⟩ := by'
      have hxy : x ≤ y := by
        have h1 := lo_le lb k 0 h0
        have h2 := le_hi lb k 0 h0
        rw [HX.out, HY.out]; omega
      have hTn := HTn.out.below hB hTl
      have HB : Hid (Below W.heap.size W wr) := hB
      have HN' : Hid (LawAt B w0 wr g1 g2 n k X p aT la lb xa) := HH.out.next hB
      have hsub : wrap64 (y - x) = y - x := wrap_in _ (by omega)
      have hmul : wrap64 (2 * (k : Int)) = 2 * (k : Int) := wrap_in _ (by omega)
      have hws := hTn.lt
      have hap : Hid (Apart xa) := asc_apart HH.out.ta.1
      have hsm : Hid (∀ j, j < xa.length → -1000 ≤ xa.getD j 0 ∧ xa.getD j 0 ≤ 1000) := by
        intro j hj
        have hm : xa.getD j 0 ∈ xa := by rw [List.getD_eq_getElem?_getD, List.getElem?_eq_getElem hj]; simp
        obtain ⟨o, ho, e⟩ := (HH.out.tb.2 _).1 hm
        obtain ⟨q, hq, rfl⟩ := List.mem_iff_getElem.1 ho
        have := HH.out.small q hq
        rw [List.getD_eq_getElem?_getD, List.getElem?_eq_getElem hq] at this
        rw [← e]; exact this
      rcases hN.out with ⟨h, _⟩ | ⟨_, hsp, b, _, e, hM⟩ | ⟨_, hsp, gt, mt, _, hmt, e, hRt⟩
      · have := HLb.out; rw [h] at this; simp at this; omega
      · rw [HLb.out, ← HX.out, ← HY.out] at hsp
        have hform : t9 = .int .i64 0 ∧ t10 = .slice none 0 0 ∧ t11 = .map (some b) := by
          injection e with e
          injection e with e
          injection e with e1 e
          injection e with e2 e
          injection e with e3 e
          exact ⟨e1, e2, e3⟩
        obtain ⟨rfl, rfl, rfl⟩ := hform
        have hbl := hM.lt
        have HM : Hid (∀ w, Below W.heap.size W w → w.ownsMap Yba.prog 3 (plainElem Yba.prog 3) b xa.length (idxMap xa xa.length)) := fun w hb => map_same hM (hb.block b hbl)
        have v0 : wr.cell? ⟨Tn, 0, none⟩ = some (.int .i64 0) := hTn.cell rfl
        have v1 : wr.cell? ⟨Tn, 1, none⟩ = some (.slice none 0 0) := hTn.cell rfl
        have v2 : wr.cell? ⟨Tn, 2, none⟩ = some (.map (some b)) := hTn.cell rfl
        have hlen := fun ty => idx_len (HM.out wr HB.out) hap.out HH.out.lenX ty
        have q1 : ∀ w : World, (binOp .eql 71 (.map (some b)) (.map none)).run Yba.prog w = .ok (.bool false) w := fun w => run_eql_map_nil w _ _ _ _ Yba.underlying71
        have q2 : ∀ w : World, (binOp .neq 41 (.slice none 0 0) (.slice none 0 0)).run Yba.prog w = .ok (.bool false) w := fun w => run_neq_slice_nil_any w _ _ _ _ _ _ _ Yba.underlying41
        clear e hM hTn
        go_wp2_with fail
        clear v0 v1 v2 hlen q1 q2 hws hB kn hlt
        go_loopw [54, 55, 56] (fun vi _ _ wr => ∃ i : Nat, i ≤ p ∧ vi = .int .i64 i ∧ Below W.heap.size W wr) (fun vi _ _ _ => p - (intOf vi).toNat)
        case atStart => exact ⟨0, Nat.zero_le _, rfl, HB.out⟩
        case round =>
          clear HN' HB
          obtain ⟨i, hi, rfl, hB⟩ := hrel
          by_cases hlt : i < p
          · have kn : (i : Int) < (p : Int) := by omega
            have hTn := HTn.out.below hB hTl
            have v2 : wr.cell? ⟨Tn, 2, none⟩ = some (.map (some b)) := hTn.cell rfl
            have hws := hTn.lt
            have hil : i < xa.length := by rw [HH.out.lenX]; exact hlt
            obtain ⟨gT, rfl, hRT⟩ := HH.out.at' (by rw [ints_len]; omega)
            have hRT' := hRT.below hB hRT.lt
            have hgT := hRT'.lt
            have hlook := fun d => idx_look (HM.out (wr.drewN d) (below_drewN hB d)) hap.out i hil (WalkArith.wf_i64 (by have := hsm.out i hil; omega))
            obtain ⟨xi, Hxi⟩ : ∃ xi, Hid (xi = xa.getD i 0) := ⟨_, rfl⟩
            have ct : wr.cell? ⟨gT, i, none⟩ = some (.int .i64 xi) := by rw [Hxi.out]; exact hRT'.cell (ints_at .i64 xa i hil)
            rw [← Hxi.out] at hlook
            clear hRT hRT' hil hTn
            go_wp2_with fail
            go_quiet (fail)
            go_wp2_with fail
            go_roundw
            case rel => exact ⟨i + 1, by omega, by go_num, below_drewN hB _⟩
            case measure => simp [intOf]; omega
          · have hkn : i = p := by omega
            subst hkn
            have kn : ¬ (i : Int) < (i : Int) := by omega
            go_wp2_with fail
            unfold lawPost
            go_ret
            exact ⟨rfl, (HH.out.next hB).below⟩
      · rw [HLb.out, ← HX.out, ← HY.out] at hsp
        rw [HLb.out, ← HX.out, ← HY.out] at hmt
        rw [HLb.out, ← HX.out] at hRt
        have hform : t9 = .int .i64 x ∧ t10 = .slice (some ⟨gt, 0, none⟩) mt mt ∧ t11 = .map none := by
          rw [HLb.out, ← HX.out] at e
          injection e with e
          injection e with e
          injection e with e1 e
          injection e with e2 e
          injection e with e3 e
          exact ⟨e1, e2, e3⟩
        obtain ⟨rfl, rfl, rfl⟩ := hform
        obtain ⟨d, rfl⟩ : ∃ d, y = x + d := ⟨y - x, by omega⟩
        have hd : d = (mt : Int) - 1 := by omega
        subst hd
        have hbl := hRt.lt
        have HRt : Hid (Row W gt (ints .i64 ((List.range mt).map fun j : Nat => idx0 xa (x + (j : Int))))) := hRt
        have v0 : wr.cell? ⟨Tn, 0, none⟩ = some (.int .i64 x) := hTn.cell rfl
        have v1 : wr.cell? ⟨Tn, 1, none⟩ = some (.slice (some ⟨gt, 0, none⟩) mt mt) := hTn.cell rfl
        have v2 : wr.cell? ⟨Tn, 2, none⟩ = some (.map none) := hTn.cell rfl
        have q1 : ∀ w : World, (binOp .neq 71 (.map none) (.map none)).run Yba.prog w = .ok (.bool false) w := fun w => run_neq_map_nil w _ _ _ _ Yba.underlying71
        have hnsp : ¬ (2 * (k : Int) ≤ x + ((mt : Int) - 1) - x) := by omega
        have hsub' : x + ((mt : Int) - 1) - x = (mt : Int) - 1 := by omega
        have bmt : mt ≤ 2001 := by omega
        clear e hTn hRt hmt hsp hsub
        go_wp2_with fail
        clear v0 v1 v2 q1 hws hB kn hlt hsub' hnsp hmul
        go_loopw [57, 58] (fun vk _ wr => ∃ j : Nat, j ≤ mt ∧ vk = .int .i64 j ∧ Below W.heap.size W wr) (fun vk _ _ => mt - (intOf vk).toNat)
        case atStart => exact ⟨0, Nat.zero_le _, rfl, HB.out⟩
        case round =>
          clear HN' HB
          obtain ⟨j, hj, rfl, hB⟩ := hrel
          have hTn := HTn.out.below hB hTl
          have v1 : wr.cell? ⟨Tn, 1, none⟩ = some (.slice (some ⟨gt, 0, none⟩) mt mt) := hTn.cell rfl
          have hws := hTn.lt
          clear hTn
          by_cases hlt : j < mt
          · have kn : (j : Int) < (mt : Int) := by omega
            obtain ⟨v, Hv⟩ : ∃ v, Hid (v = x + (j : Int)) := ⟨_, rfl⟩
            have hw1 : wrap64 (x + (j : Int)) = x + (j : Int) := wrap_in _ (by omega)
            have h32 := cidx32 aT p cT xa (x + (j : Int)) wr HH.out.lenX (by omega) (HH.out.at'.below hB)
            have hR' := HRt.out.below hB hbl
            have hgl' := hR'.lt
            have ct : wr.cell? ⟨gt, j, none⟩ = some (.int .i64 (idx0 xa (x + (j : Int)))) := by
              have h := hR'.cell (ints_at .i64 ((List.range mt).map fun j : Nat => idx0 xa (x + (j : Int))) j (by rw [rmap_len]; exact hlt))
              rw [rmap_at _ _ _ _ hlt] at h
              exact h
            clear hR'
            by_cases hin : x + (j : Int) ∈ xa
            · obtain ⟨tj, Htj⟩ : ∃ tj, Hid (tj = xa.idxOf (x + (j : Int))) := ⟨_, rfl⟩
              rw [idx0, if_pos hin, ← Htj.out] at ct
              rw [find, if_pos hin, ← Htj.out] at h32
              have tneg : ¬ (tj : Int) < 0 := by omega
              clear hin
              go_wp2_with fail
              refine h32.mono ?_
              clear h32
              rintro e w' ⟨rfl, hw⟩
              obtain rfl := hw.symm
              clear hw
              go_wp2_with fail
              go_roundw
              case rel => exact ⟨j + 1, by omega, by go_num, hB⟩
              case measure => simp [intOf]; omega
            · rw [idx0, if_neg hin] at ct
              rw [find, if_neg hin] at h32
              clear hin
              go_wp2_with fail
              refine h32.mono ?_
              clear h32
              rintro e w' ⟨rfl, hw⟩
              obtain rfl := hw.symm
              clear hw
              go_wp2_with fail
              go_roundw
              case rel => exact ⟨j + 1, by omega, by go_num, hB⟩
              case measure => simp [intOf]; omega
          · have hkn : j = mt := by omega
            subst hkn
            have kn : ¬ (j : Int) < (j : Int) := by omega
            go_wp2_with fail
            unfold lawPost
            go_ret
            exact ⟨rfl, (HH.out.next hB).below⟩
end Go.Proofs.Ybulkebqk
