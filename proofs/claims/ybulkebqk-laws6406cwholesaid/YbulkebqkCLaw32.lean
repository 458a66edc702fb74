import Derived.Test.YbulkebqkCLaw42
namespace Go.Proofs.Ybulkebqk
open Go.RowKit
set_option linter.unusedVariables false
set_option maxRecDepth 100000
set_option maxHeartbeats 3200000 in
theorem tail32 (u0 u1 u2 u3 u4 u5 u6 u7 u8 u9 u10 u13 u14 u15 u16 u17 u18 u19 u21 u23 u24 u25 u26 u27 u28 u29 u30 u31 u32 u33 u34 u35 u36 u37 u38 u39 u40 u41 u42 u43 u44 u45 u46 u47 u48 u49 u50 u51 u52 u53 u54 u55 u56 u57 u58 u59 u60 u61 u62 u63 u64 u65 u66 u67 u68 u69 u70 u71 u72 u73 u74 u75 u76 u77 u78 u79 u80 u81 u82 u83 u84 u85 u86 u87 u88 u89 u90 u91 u92 u93 u94 u95 u96 u97 u98 u99 u100 u101 u102 u103 u104 u105 u106 u107 u108 u109 u110 u111 u112 u113 u114 u115 u116 u117 u118 u119 u120 u121 u122 u123 u124 u125 u126 u127 u128 u129 u130 u131 u132 u133 u134 u135 u136 u137 u138 u139 u140 u141 u142 u143 u144 u145 u146 u147 u148 u149 u150 u151 u152 u153 u154 u155 u156 u157 u158 u159 u160 u161 u162 u163 u164 u165 u166 u167 u168 u169 u170 u171 u172 u173 u174 u175 u176 u177 u178 u179 u180 u181 u182 u183 u184 u185 u186 u187 u188 u189 u190 u191 u192 u193 u194 u195 u196 u197 u198 u199 u200 u201 u202 u203 u204 u205 u206 u207 u208 u209 u210 u211 u212 u213 u214 u215 u216 u217 u218 u219 u220 u221 u222 u223 u224 u225 u226 u227 u228 u229 u230 u231 u232 u233 u234 u235 u236 u237 u238 u239 u240 u241 u242 u243 u244 u245 u246 u247 u248 u249 u250 u251 u252 u253 u254 u255 u256 u257 u258 u259 u260 u261 u262 u263 u264 u265 u266 u267 u268 u269 u270 u271 u272 u273 u274 u275 u276 u277 u278 u279 u280 u281 u282 u283 u284 u285 u286 u287 u288 u289 u290 u291 u292 u293 u294 u295 u296 u297 u298 u299 u300 u301 u302 u303 u304 u305 u306 u307 u308 u309 u310 u311 u312 u313 u314 u315 u316 u317 u318 u319 u320 u321 u322 u323 u324 u325 u326 u327 u328 u329 u330 u331 u332 u333 u334 u335 u336 u337 u338 u339 u340 u341 u342 u343 u344 u345 u346 u347 u348 u349 u350 u351 u352 u353 u354 u355 u356 u357 u358 u359 u360 u361 u362 u363 u364 u365 u366 u367 u368 u369 u370 u371 u372 u373 u374 u375 u376 u377 u378 u379 u380 u381 u382 u383 u384 u385 u386 u387 u388 u389 u390 u391 u392 u393 u394 u395 u396 u397 u398 u399 u400 u401 u402 u403 u404 u405 u406 u407 u408 u409 u410 u411 u412 u413 u414 u415 u416 u417 u418 u419 u420 u421 u422 u423 u424 u425 u426 u427 u428 u429 u430 u431 u432 u433 u434 u435 u436 u437 u438 u439 u440 u441 u442 u443 u444 u445 u446 u447 u448 u449 u450 u451 u452 u453 u454 u455 u456 u457 u458 u459 u460 u461 u462 u463 u464 u465 u466 u467 u468 u469 u470 u471 u472 u473 u474 u475 u476 u477 u478 u479 u480 u481 u482 u483 u484 u485 u486 u487 u488 u489 u490 u491 u492 u493 u494 u495 u496 u497 u498 u499 u500 u501 u502 u503 u504 u505 u506 u507 u508 u509 u510 u511 u512 u513 u514 u515 u516 u517 u518 u519 u520 u521 u522 u523 u524 u525 u526 u527 u528 u529 u530 u531 u532 u533 u534 u535 u536 u537 u538 u539 u540 u541 u542 u543 u544 u545 u546 u547 u548 u549 u550 u551 u552 u553 u554 u555 u556 u557 u558 u559 u560 u561 u562 u563 u564 u565 u566 u567 u568 u569 u570 u571 u572 u573 u574 u575 u576 u577 u578 u579 u580 u581 u582 u583 u584 u585 u586 u587 u588 u589 u590 u591 u592 u593 u594 u595 u596 u597 u598 u599 u600 u601 u602 u603 : Value) (g1 g2 n m c1 c2 X p cT B : Nat) (aT : Option Addr) (la lb : List OpV) (xa : List Int) (w0 W : World) (H : LawAt B w0 W g1 g2 n m X p aT la lb xa) (K : Act → World → Prop) (hK : ∀ a w, Code.wp Yba.prog (rest4 17) (lawPost B w0) a w → K a w) :
    Code.wp Yba.prog (first (rest4 16)) (Exit.then K (lawPost B w0)) ⟨#[u0, u1, u2, u3, u4, u5, u6, u7, u8, u9, u10, .slice (some ⟨g1, 0, none⟩) n c1, .slice (some ⟨g2, 0, none⟩) m c2, u13, u14, u15, u16, u17, u18, u19, .pointer (some ⟨X, 0, none⟩), u21, .slice aT p cT, u23, u24, u25, u26, u27, u28, u29, u30, u31, u32, u33, u34, u35, u36, u37, u38, u39, u40, u41, u42, u43, u44, u45, u46, u47, u48, u49, u50, u51, u52, u53, u54, u55, u56, u57, u58, u59, u60, u61, u62, u63, u64, u65, u66, u67, u68, u69, u70, u71, u72, u73, u74, u75, u76, u77, u78, u79, u80, u81, u82, u83, u84, u85, u86, u87, u88, u89, u90, u91, u92, u93, u94, u95, u96, u97, u98, u99, u100, u101, u102, u103, u104, u105, u106, u107, u108, u109, u110, u111, u112, u113, u114, u115, u116, u117, u118, u119, u120, u121, u122, u123, u124, u125, u126, u127, u128, u129, u130, u131, u132, u133, u134, u135, u136, u137, u138, u139, u140, u141, u142, u143, u144, u145, u146, u147, u148, u149, u150, u151, u152, u153, u154, u155, u156, u157, u158, u159, u160, u161, u162, u163, u164, u165, u166, u167, u168, u169, u170, u171, u172, u173, u174, u175, u176, u177, u178, u179, u180, u181, u182, u183, u184, u185, u186, u187, u188, u189, u190, u191, u192, u193, u194, u195, u196, u197, u198, u199, u200, u201, u202, u203, u204, u205, u206, u207, u208, u209, u210, u211, u212, u213, u214, u215, u216, u217, u218, u219, u220, u221, u222, u223, u224, u225, u226, u227, u228, u229, u230, u231, u232, u233, u234, u235, u236, u237, u238, u239, u240, u241, u242, u243, u244, u245, u246, u247, u248, u249, u250, u251, u252, u253, u254, u255, u256, u257, u258, u259, u260, u261, u262, u263, u264, u265, u266, u267, u268, u269, u270, u271, u272, u273, u274, u275, u276, u277, u278, u279, u280, u281, u282, u283, u284, u285, u286, u287, u288, u289, u290, u291, u292, u293, u294, u295, u296, u297, u298, u299, u300, u301, u302, u303, u304, u305, u306, u307, u308, u309, u310, u311, u312, u313, u314, u315, u316, u317, u318, u319, u320, u321, u322, u323, u324, u325, u326, u327, u328, u329, u330, u331, u332, u333, u334, u335, u336, u337, u338, u339, u340, u341, u342, u343, u344, u345, u346, u347, u348, u349, u350, u351, u352, u353, u354, u355, u356, u357, u358, u359, u360, u361, u362, u363, u364, u365, u366, u367, u368, u369, u370, u371, u372, u373, u374, u375, u376, u377, u378, u379, u380, u381, u382, u383, u384, u385, u386, u387, u388, u389, u390, u391, u392, u393, u394, u395, u396, u397, u398, u399, u400, u401, u402, u403, u404, u405, u406, u407, u408, u409, u410, u411, u412, u413, u414, u415, u416, u417, u418, u419, u420, u421, u422, u423, u424, u425, u426, u427, u428, u429, u430, u431, u432, u433, u434, u435, u436, u437, u438, u439, u440, u441, u442, u443, u444, u445, u446, u447, u448, u449, u450, u451, u452, u453, u454, u455, u456, u457, u458, u459, u460, u461, u462, u463, u464, u465, u466, u467, u468, u469, u470, u471, u472, u473, u474, u475, u476, u477, u478, u479, u480, u481, u482, u483, u484, u485, u486, u487, u488, u489, u490, u491, u492, u493, u494, u495, u496, u497, u498, u499, u500, u501, u502, u503, u504, u505, u506, u507, u508, u509, u510, u511, u512, u513, u514, u515, u516, u517, u518, u519, u520, u521, u522, u523, u524, u525, u526, u527, u528, u529, u530, u531, u532, u533, u534, u535, u536, u537, u538, u539, u540, u541, u542, u543, u544, u545, u546, u547, u548, u549, u550, u551, u552, u553, u554, u555, u556, u557, u558, u559, u560, u561, u562, u563, u564, u565, u566, u567, u568, u569, u570, u571, u572, u573, u574, u575, u576, u577, u578, u579, u580, u581, u582, u583, u584, u585, u586, u587, u588, u589, u590, u591, u592, u593, u594, u595, u596, u597, u598, u599, u600, u601, u602, u603], []⟩ W := by
  obtain ⟨i0, hi, hz0, hz1, hz2⟩ := info_parts Yba.inf9
  have bn := H.bn
  have HL : Hid (la.length = n) := H.lenA
  have HR : Hid (Row W g1 (opCells la)) := H.ra
  have hgl := H.ra.lt
  have HH : Hid (LawAt B w0 W g1 g2 n m X p aT la lb xa) := H
  clear H
  conv => arg 2; whnf
  go_wp2_with fail
  conv => arg 2; whnf
  go_wp2_with fail
  go_loopw [25, 27, 198] (fun v _ i wr => ∃ (k L c : Nat) (a : Option Addr), k ≤ n ∧ i = .int .i64 k ∧ v = .slice a L c ∧ Hid (L = (itemsUp la k).length) ∧ Hid (wr.ownsRow W.heap.size 9 1 (.slice a L c) L (strs (itemsUp la k))) ∧ Below W.heap.size W wr) (fun _ _ i _ => n - (intOf i).toNat)
  case atStart => exact ⟨0, 0, 0, none, Nat.zero_le _, rfl, rfl, rfl, World.ownsRow_nil _ _ _ _, Below.refl _ _⟩
  case round =>
    obtain ⟨k, L, c, a, hk, rfl, rfl, HLn, HO, hB⟩ := hrel
    by_cases hlt : k < n
    · obtain ⟨c0, c1, c2⟩ := opCells_at la k (by rw [HL.out]; exact hlt)
      have hRr := HR.out.below hB hgl
      have d0 := hRr.cell c0
      have d1 := hRr.cell c1
      have d2 := hRr.cell c2
      obtain ⟨o, ho⟩ : ∃ o, o = la.getD k default := ⟨_, rfl⟩
      rw [← ho] at d0 d1 d2
      have HOo : Hid (o = la.getD k default) := ho
      have kn : (k : Int) < (n : Int) := by omega
      have hLb : L ≤ 65536 := by rw [HLn.out]; exact Nat.le_trans (itemsUp_len la k) (by omega)
      have hws := hB.size
      clear ho c0 c1 c2 hRr
      have hsf := fun o' => csidx31 a L c (itemsUp la k) o.i (wr.alloc o') HLn.out.symm (by omega) ((at_owned HO.out).below ((Below.refl _ _).alloc (Nat.le_refl _) _))
      cases hac : acc o.k with
      | true =>
        by_cases hin : o.i ∈ itemsUp la k
        · have hfi : find (itemsUp la k) o.i = (plc (itemsUp la k) o.i : Int) := find_plc hin
          have hpl := plc_lt hin
          have hneg : ¬ (plc (itemsUp la k) o.i : Int) < 0 := by omega
          have HE : Hid (itemsUp la (k + 1) = itemsUp la k) := by
            show _ = _
            rw [itemsUp_yes la k (by rw [HL.out]; exact hlt) (by rw [← HOo.out]; exact hac), nubB1, if_pos (by rw [← HOo.out]; exact hin)]
          go_wp2_with (first
            | (go_at_call 30; refine (acc30 o.k _).mono ?_; rw [hac]; rintro e w' ⟨rfl, rfl⟩)
            | (go_at_call 31; refine (hsf _).mono ?_; rw [hfi]; rintro e w' ⟨rfl, rfl⟩))
          go_roundw
          case rel => exact ⟨k + 1, L, c, a, by omega, by go_num, rfl, by rw [HE.out]; exact HLn, by rw [HE.out]; exact HO.out.alloc _, hB.alloc hws _⟩
          case measure => simp [intOf]; omega
        · have hfi : find (itemsUp la k) o.i = -1 := by rw [find, if_neg hin]
          have HE : Hid (strs (itemsUp la (k + 1)) = strs (itemsUp la k) ++ [.string o.i]) := by
            show _ = _
            rw [itemsUp_yes la k (by rw [HL.out]; exact hlt) (by rw [← HOo.out]; exact hac), nubB1, if_neg (by rw [← HOo.out]; exact hin), ← HOo.out]
            simp [strs]
          have HLe : Hid (L + 1 = (itemsUp la (k + 1)).length) := by
            show _ = _
            have := congrArg List.length HE.out
            rw [List.length_append, strs_len, strs_len] at this
            rw [HLn.out]; simp at this; omega
          go_wp2_with (first
            | (go_at_call 30; refine (acc30 o.k _).mono ?_; rw [hac]; rintro e w' ⟨rfl, rfl⟩)
            | (go_at_call 31; refine (hsf _).mono ?_; rw [hfi]; rintro e w' ⟨rfl, rfl⟩)
            | (at_builtin; refine wpList_append_own _ rfl (.tmp 212) (.tmp 215) 69 rfl W.heap.size 9 i0 (.string { data := #[] }) 1 16 Yba.underlying69 hi hz0 hz1 hz2 rfl (by decide) _ L (strs (itemsUp la k)) rfl ((HO.out.alloc _).alloc _) ⟨wr.heap.size + 1, 0, none⟩ 1 1 [.string o.i] rfl rfl (news1 _ _ (by simp) _ _) (by intro u hu; simp at hu; subst hu; rfl) (by unfold maxLen; omega) (by omega) (by simp; omega) ?_; intro v' w1 hown' hgrow hnil'))
          go_roundw
          case rel =>
            obtain ⟨g', c', rfl, hgb⟩ := owns_form hown' (by omega)
            refine ⟨k + 1, L + 1, c', some ⟨g', 0, none⟩, by omega, by go_num, rfl, HLe, ?_, ?_⟩
            · show World.ownsRow _ _ _ _ _ _ _
              rw [HE.out]; exact hown'
            · exact ((hB.alloc hws _).alloc (by simp; omega) _).grown hgrow (by simp; omega) (fun j hj => (HO.out.lt j hj).1)
          case measure => simp [intOf]; omega
      | false =>
        have HE : Hid (itemsUp la (k + 1) = itemsUp la k) := itemsUp_no la k (by rw [HL.out]; exact hlt) (by rw [← HOo.out]; exact hac)
        go_wp2_with (go_at_call 30; refine (acc30 o.k _).mono ?_; rw [hac]; rintro e w' ⟨rfl, rfl⟩)
        go_roundw
        case rel => exact ⟨k + 1, L, c, a, by omega, by go_num, rfl, by rw [HE.out]; exact HLn, by rw [HE.out]; exact HO.out.alloc _, hB.alloc hws _⟩
        case measure => simp [intOf]; omega
    · have hkn : k = n := by omega
      subst hkn
      have kn : ¬ (k : Int) < (k : Int) := by omega
      have HN : Hid (LawAt B w0 wr g1 g2 k m X p aT la lb xa) := HH.out.next hB
      obtain ⟨gT, cT', k1, G, cO, Sg, Lg, ml, Pg, E, n1, a1, abv, t9, t10, t11, os, T, I, hos, hT, hI, hn1, hX, hRT, hA1, hG, hml, hSg, hLg, hPg, hE, hAb, hNum⟩ := HN.out.ix
      have HLn2 : Hid (L = (itemsUp la la.length).length) := by rw [HL.out]; exact HLn
      have hAI : At wr a (strs (itemsUp la la.length)) := by rw [HL.out]; exact at_owned HO.out
      have hx0 : wr.cell? ⟨X, 0, none⟩ = some (.slice (some ⟨gT, 0, none⟩) xa.length cT') := hX.cell rfl
      have hx1 : wr.cell? ⟨X, 1, none⟩ = some (.slice a1 (itemsUp la la.length).length k1) := hX.cell rfl
      have lX : X < wr.heap.size := hX.lt
      have hil : (itemsUp la la.length).length ≤ 65536 := by have := itemsUp_len la la.length; have := HL.out; omega
      have he1 := equal24 (some ⟨gT, 0, none⟩) aT xa.length p cT' cT xa xa wr rfl HN.out.lenX (by have := HN.out.lenX; have := HN.out.pn; omega) (fun _ => ⟨gT, rfl, hRT⟩) HN.out.at'
      have he2 := fun d => equal25 a1 a (itemsUp la la.length).length L k1 c (itemsUp la la.length) (itemsUp la la.length) (wr.drewN d) rfl HLn2.out.symm (by omega) hA1 hAI
      simp only [decide_true] at he1 he2
      have HAI : Hid (At wr a (strs (itemsUp la la.length))) := hAI
      clear hAI hos hT hI hn1 hX hRT hA1 hG hml hSg hLg hPg hE hAb hNum
      go_wp2_with fail
      refine he1.mono ?_
      clear he1
      rintro e w' ⟨rfl, d1, rfl⟩
      go_wp2_with fail
      refine (he2 _).mono ?_
      clear he2
      rintro e w' ⟨rfl, d2, rfl⟩
      go_upto_region 42 with (fail)
      have hBd : Below wr.heap.size wr (wr.drewN (d1 + d2)) := below_drewN (Below.refl _ _) _
      exact tail42 _ _ _ _ _ _ _ _ _ _ _ _ _ _ _ _ _ _ _ _ _ _ _ _ _ _ _ _ _ _ _ _ _ _ _ _ _ _ _ _ _ _ _ _ _ _ _ _ _ _ _ _ _ _ _ _ _ _ _ _ _ _ _ _ _ _ _ _ _ _ _ _ _ _ _ _ _ _ _ _ _ _ _ _ _ _ _ _ _ _ _ _ _ _ _ _ _ _ _ _ _ _ _ _ _ _ _ _ _ _ _ _ _ _ _ _ _ _ _ _ _ _ _ _ _ _ _ _ _ _ _ _ _ _ _ _ _ _ _ _ _ _ _ _ _ _ _ _ _ _ _ _ _ _ _ _ _ _ _ _ _ _ _ _ _ _ _ _ _ _ _ _ _ _ _ _ _ _ _ _ _ _ _ _ _ _ _ _ _ _ _ _ _ _ _ _ _ _ _ _ _ _ _ _ _ _ _ _ _ _ _ _ _ _ _ _ _ _ _ _ _ _ _ _ _ _ _ _ _ _ _ _ _ _ _ _ _ _ _ _ _ _ _ _ _ _ _ _ _ _ _ _ _ _ _ _ _ _ _ _ _ _ _ _ _ _ _ _ _ _ _ _ _ _ _ _ _ _ _ _ _ _ _ _ _ _ _ _ _ _ _ _ _ _ _ _ _ _ _ _ _ _ _ _ _ _ _ _ _ _ _ _ _ _ _ _ _ _ _ _ _ _ _ _ _ _ _ _ _ _ _ _ _ _ _ _ _ _ _ _ _ _ _ _ _ _ _ _ _ _ _ _ _ _ _ _ _ _ _ _ _ _ _ _ _ _ _ _ _ _ _ _ _ _ _ _ _ _ _ _ _ _ _ _ _ _ _ _ _ _ _ _ _ _ _ _ _ _ _ _ _ _ _ _ _ _ _ _ _ _ _ _ _ _ _ _ _ _ _ _ _ _ _ _ _ _ _ _ _ _ _ _ _ _ _ _ _ _ _ _ _ _ _ _ _ _ _ _ _ _ _ _ _ _ _ _ _ _ _ _ _ _ _ _ _ _ _ _ _ _ _ _ _ _ _ _ _ _ _ _ _ _ _ _ _ _ _ _ _ _ _ _ _ _ _ _ _ _ _ _ _ _ _ _ _ _ _ _ _ _ _ _ _ _ _ _ _ _ _ _ _ _ _ _ _ _ _ _ _ _ _ _ _ _ _ _ _ _ _ _ _ _ _ _ _ _ _ _ _ _ _ _ _ _ _ _ _ _ _ _ _ _ _ _ _ _ _ _ _ _ _ _ _ _ _ _ _ _ _ _ _ _ _ _ _ _ _ _ _ _ _ _ _ _ _ _ _ _ g1 g2 k m c1 c2 X p cT L c B aT a la lb xa w0 _ (HN.out.next hBd) HLn2 (HAI.out.below hBd) _ (by assumption)
end Go.Proofs.Ybulkebqk
