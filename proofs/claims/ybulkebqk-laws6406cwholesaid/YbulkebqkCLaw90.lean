/-
  The law from region 90 on: the checks of pairs and programs, the operations one by one.
-/
import Derived.Test.YbulkebqkCLaw104
namespace Go.Proofs.Ybulkebqk
open Go.RowKit
set_option linter.unusedVariables false
set_option maxRecDepth 100000
set_option maxHeartbeats 3200000 in
theorem tail90 (u0 u1 u2 u3 u4 u5 u6 u7 u8 u9 u10 u11 u13 u14 u15 u16 u17 u18 u19 u21 u23 u25 u26 u27 u31 u32 u33 u34 u35 u36 u43 u44 u45 u46 u47 u48 u49 u50 u51 u52 u53 u54 u55 u56 u57 u58 u59 u60 u61 u62 u63 u64 u65 u66 u67 u68 u69 u70 u71 u72 u73 u74 u75 u76 u77 u78 u79 u80 u81 u82 u83 u84 u85 u86 u87 u88 u89 u90 u91 u92 u93 u94 u95 u96 u97 u98 u99 u100 u101 u102 u103 u104 u105 u106 u107 u108 u109 u110 u111 u112 u113 u114 u115 u116 u117 u118 u119 u120 u121 u122 u123 u124 u125 u126 u127 u128 u129 u130 u131 u132 u133 u134 u135 u136 u137 u138 u139 u140 u141 u142 u143 u144 u145 u146 u147 u148 u149 u150 u151 u152 u153 u154 u155 u156 u157 u158 u159 u160 u161 u162 u163 u164 u165 u166 u167 u168 u169 u170 u171 u172 u173 u174 u175 u176 u177 u178 u179 u180 u181 u182 u183 u184 u185 u186 u187 u188 u189 u190 u191 u192 u193 u194 u195 u196 u197 u198 u199 u200 u201 u202 u203 u204 u205 u206 u207 u208 u209 u210 u211 u212 u213 u214 u215 u216 u217 u218 u219 u220 u221 u222 u223 u224 u225 u226 u227 u228 u229 u230 u231 u232 u233 u234 u235 u236 u237 u238 u239 u240 u241 u242 u243 u244 u245 u246 u247 u248 u249 u250 u251 u252 u253 u254 u255 u256 u257 u258 u259 u260 u261 u262 u263 u264 u265 u266 u267 u268 u269 u270 u271 u272 u273 u274 u275 u276 u277 u278 u279 u280 u281 u282 u283 u284 u285 u286 u287 u288 u289 u290 u291 u292 u293 u294 u295 u296 u297 u298 u299 u300 u301 u302 u303 u304 u305 u306 u307 u308 u309 u310 u311 u312 u313 u314 u315 u316 u317 u318 u319 u320 u321 u322 u323 u324 u325 u326 u327 u328 u329 u330 u331 u332 u333 u334 u335 u336 u337 u338 u339 u340 u341 u342 u343 u344 u345 u346 u347 u348 u349 u350 u351 u352 u353 u354 u355 u356 u357 u358 u359 u360 u361 u362 u363 u364 u365 u366 u367 u368 u369 u370 u371 u372 u373 u374 u375 u376 u377 u378 u379 u380 u381 u382 u383 u384 u385 u386 u387 u388 u389 u390 u391 u392 u393 u394 u395 u396 u397 u398 u399 u400 u401 u402 u403 u404 u405 u406 u407 u408 u409 u410 u411 u412 u413 u414 u415 u416 u417 u418 u419 u420 u421 u422 u423 u424 u425 u426 u427 u428 u429 u430 u431 u432 u433 u434 u435 u436 u437 u438 u439 u440 u441 u442 u443 u444 u445 u446 u447 u448 u449 u450 u451 u452 u453 u454 u455 u456 u457 u458 u459 u460 u461 u462 u463 u464 u465 u466 u467 u468 u469 u470 u471 u472 u473 u474 u475 u476 u477 u478 u479 u480 u481 u482 u483 u484 u485 u486 u487 u488 u489 u490 u491 u492 u493 u494 u495 u496 u497 u498 u499 u500 u501 u502 u503 u504 u505 u506 u507 u508 u509 u510 u511 u512 u513 u514 u515 u516 u517 u518 u519 u520 u521 u522 u523 u524 u525 u526 u527 u528 u529 u530 u531 u532 u533 u534 u535 u536 u537 u538 u539 u540 u541 u542 u543 u544 u545 u546 u547 u548 u549 u550 u551 u552 u553 u554 u555 u556 u557 u558 u559 u560 u561 u562 u563 u564 u565 u566 u567 u568 u569 u570 u571 u572 u573 u574 u575 u576 u577 u578 u579 u580 u581 u582 u583 u584 u585 u586 u587 u588 u589 u590 u591 u592 u593 u594 u595 u596 u597 u598 u599 u600 u601 u602 u603 : Value) (g1 g2 n m c2 X p cT Lo cA cB cK M n1 LL cL cn B : Nat) (aT aA aB aK aL : Option Addr) (la lb : List OpV) (xa : List Int) (os : List IOp) (T I : List Nat) (vS : Value) (Ss : List Nat) (w0 W0 W : World) (H : LawAt B w0 W0 g1 g2 n m X p aT la lb xa) (hos : Hid (os = iops xa (itemsUp la la.length) lb)) (hLo : Hid (os.length = Lo)) (hT : Hid (T = os.map (·.t))) (hI : Hid (I = os.map (·.x))) (hA : At W0 aA (nats T)) (hB : At W0 aB (nats I)) (hC : At W0 aK (ints .u8 (os.map (·.k)))) (hM : Hid (M = W0.heap.size)) (hn1 : Hid (n1 = p + 1)) (hcn : Hid (cn = cnt T I p)) (hLL : Hid (LL = (liUp T p 0).length)) (hS : Hid (S4 M W0 (wpUp T I p 0) (psUp T I p p) (stUp T p p) (liUp T p 0) Ss (.slice aL LL cL) vS W)) (K : Act → World → Prop) (hK : ∀ a w, Code.wp Yba.prog (rest4 36) (lawPost B w0) a w → K a w) :
    Code.wp Yba.prog (first (rest4 35)) (Exit.then K (lawPost B w0)) ⟨#[u0, u1, u2, u3, u4, u5, u6, u7, u8, u9, u10, u11, .slice (some ⟨g2, 0, none⟩) m c2, u13, u14, u15, u16, u17, u18, u19, .pointer (some ⟨X, 0, none⟩), u21, .slice aT p cT, u23, .int .i64 p, u25, u26, u27, .slice aA Lo cA, .slice aB Lo cB, .slice aK Lo cK, u31, u32, u33, u34, u35, u36, .int .i64 Lo, .slice (some ⟨M, 0, none⟩) Lo Lo, .slice (some ⟨M + 1, 0, none⟩) n1 n1, .slice (some ⟨M + 2, 0, none⟩) n1 n1, .slice aL LL cL, .int .i64 cn, u43, u44, u45, u46, u47, u48, u49, u50, u51, u52, u53, u54, u55, u56, u57, u58, u59, u60, u61, u62, u63, u64, u65, u66, u67, u68, u69, u70, u71, u72, u73, u74, u75, u76, u77, u78, u79, u80, u81, u82, u83, u84, u85, u86, u87, u88, u89, u90, u91, u92, u93, u94, u95, u96, u97, u98, u99, u100, u101, u102, u103, u104, u105, u106, u107, u108, u109, u110, u111, u112, u113, u114, u115, u116, u117, u118, u119, u120, u121, u122, u123, u124, u125, u126, u127, u128, u129, u130, u131, u132, u133, u134, u135, u136, u137, u138, u139, u140, u141, u142, u143, u144, u145, u146, u147, u148, u149, u150, u151, u152, u153, u154, u155, u156, u157, u158, u159, u160, u161, u162, u163, u164, u165, u166, u167, u168, u169, u170, u171, u172, u173, u174, u175, u176, u177, u178, u179, u180, u181, u182, u183, u184, u185, u186, u187, u188, u189, u190, u191, u192, u193, u194, u195, u196, u197, u198, u199, u200, u201, u202, u203, u204, u205, u206, u207, u208, u209, u210, u211, u212, u213, u214, u215, u216, u217, u218, u219, u220, u221, u222, u223, u224, u225, u226, u227, u228, u229, u230, u231, u232, u233, u234, u235, u236, u237, u238, u239, u240, u241, u242, u243, u244, u245, u246, u247, u248, u249, u250, u251, u252, u253, u254, u255, u256, u257, u258, u259, u260, u261, u262, u263, u264, u265, u266, u267, u268, u269, u270, u271, u272, u273, u274, u275, u276, u277, u278, u279, u280, u281, u282, u283, u284, u285, u286, u287, u288, u289, u290, u291, u292, u293, u294, u295, u296, u297, u298, u299, u300, u301, u302, u303, u304, u305, u306, u307, u308, u309, u310, u311, u312, u313, u314, u315, u316, u317, u318, u319, u320, u321, u322, u323, u324, u325, u326, u327, u328, u329, u330, u331, u332, u333, u334, u335, u336, u337, u338, u339, u340, u341, u342, u343, u344, u345, u346, u347, u348, u349, u350, u351, u352, u353, u354, u355, u356, u357, u358, u359, u360, u361, u362, u363, u364, u365, u366, u367, u368, u369, u370, u371, u372, u373, u374, u375, u376, u377, u378, u379, u380, u381, u382, u383, u384, u385, u386, u387, u388, u389, u390, u391, u392, u393, u394, u395, u396, u397, u398, u399, u400, u401, u402, u403, u404, u405, u406, u407, u408, u409, u410, u411, u412, u413, u414, u415, u416, u417, u418, u419, u420, u421, u422, u423, u424, u425, u426, u427, u428, u429, u430, u431, u432, u433, u434, u435, u436, u437, u438, u439, u440, u441, u442, u443, u444, u445, u446, u447, u448, u449, u450, u451, u452, u453, u454, u455, u456, u457, u458, u459, u460, u461, u462, u463, u464, u465, u466, u467, u468, u469, u470, u471, u472, u473, u474, u475, u476, u477, u478, u479, u480, u481, u482, u483, u484, u485, u486, u487, u488, u489, u490, u491, u492, u493, u494, u495, u496, u497, u498, u499, u500, u501, u502, u503, u504, u505, u506, u507, u508, u509, u510, u511, u512, u513, u514, u515, u516, u517, u518, u519, u520, u521, u522, u523, u524, u525, u526, u527, u528, u529, u530, u531, u532, u533, u534, u535, u536, u537, u538, u539, u540, u541, u542, u543, u544, u545, u546, u547, u548, u549, u550, u551, u552, u553, u554, u555, u556, u557, u558, u559, u560, u561, u562, u563, u564, u565, u566, u567, u568, u569, u570, u571, u572, u573, u574, u575, u576, u577, u578, u579, u580, u581, u582, u583, u584, u585, u586, u587, u588, u589, u590, u591, u592, u593, u594, u595, u596, u597, u598, u599, u600, u601, u602, u603], []⟩ W := by
  have hpm := H.pm
  have bm := H.bm
  have bn := H.bn
  have bLo : Lo ≤ 65536 := by have h1 := hLo.out; have h2 := hos.out; rw [h2, iops_len] at h1; have h3 := List.length_filter_le (fun o => acc o.k) lb; have h4 := H.lenB; have h5 : (accs lb).length = (lb.filter fun o => acc o.k).length := rfl; omega
  have lT : Hid (T.length = Lo) := by show _ = _; rw [hT.out, List.length_map, hLo.out]
  have lI : Hid (I.length = Lo) := by show _ = _; rw [hI.out, List.length_map, hLo.out]
  have bLL : LL ≤ 65536 := by have := liUp_len T p 0 (Nat.zero_le _); have h2 := hLL.out; have h3 := lT.out; omega
  have hTp : Hid (∀ j, j < Lo → T.getD j 0 < p) := by
    intro j hj
    have hlen : (os.map (·.t)).length = Lo := by rw [List.length_map]; exact hLo.out
    have hm : T.getD j 0 ∈ os.map (·.t) := by rw [hT.out, List.getD_eq_getElem?_getD, List.getElem?_eq_getElem (by omega)]; exact List.getElem_mem _
    obtain ⟨io, hio, e⟩ := List.mem_map.1 hm
    rw [hos.out] at hio
    obtain ⟨o, ho, rfl⟩ := List.mem_map.1 hio
    rw [← e, ← H.lenX]
    exact List.idxOf_lt_length_iff.2 ((H.tb.2 _).2 ⟨o, (List.mem_filter.1 ho).1, rfl⟩)
  have pn1 : (p : Int) < (n1 : Int) := by rw [hn1.out]; omega
  have hws := hS.out.sz
  have c1 : W.cell? ⟨M + 1, p, none⟩ = some (.int .i64 (((psUp T I p p).getD p 0 : Nat) : Int)) := hS.out.b1.cell (nats_at _ _ (by rw [psUp_len]; omega))
  have f1 := hS.out.b1.frozen p
  have c2 : W.cell? ⟨M + 2, p, none⟩ = some (.int .i64 (((stUp T p p).getD p 0 : Nat) : Int)) := hS.out.b2.cell (nats_at _ _ (by rw [stUp_len]; omega))
  have f2 := hS.out.b2.frozen p
  obtain ⟨W1, HW1⟩ : ∃ W1, Hid ((W.setCell ⟨M + 1, p, none⟩ (.int .i64 (cn : Int))).setCell ⟨M + 2, p, none⟩ (.int .i64 (LL : Int)) = W1) := ⟨_, rfl⟩
  have HS1 : Hid (S4 M W0 ((List.range Lo).map (pair T I)) (pairStarts T I p) (starts T p) (liUp T p 0) Ss (.slice aL LL cL) vS W1) := by
    have h := (hS.out.set1 p cn).set2 p LL
    rw [HW1.out, wpUp_all T I p (by rw [lT.out]; exact hTp.out), lT.out] at h
    have e1 : (psUp T I p p).set p cn = pairStarts T I p := by rw [hcn.out, psUp_step, psUp_all]
    have e2 : (stUp T p p).set p LL = starts T p := by rw [show LL = start T p from by rw [hLL.out, liUp_zero]; rfl, stUp_step, stUp_all]
    rw [e1, e2] at h
    exact h
  obtain ⟨gT, cT', k1, G, cO, Sg, Lg, ml, Pg, E, n1', a1, abv, t9, t10, t11, os', T', I', hos', hT', hI', hn1', hX, hRT, hA1, hG, hml, hSg, hLg, hPg, hE, hAb, hNum⟩ := H.ix
  have hx := H.lenX
  rw [← hos.out] at hos'
  subst hos'
  rw [← hT.out] at hT'
  rw [← hI.out] at hI'
  subst hT' hI'
  rw [hx] at hX hSg hLg hPg hml hn1'
  rw [← hn1.out] at hn1'
  subst hn1'
  rw [← hcn.out, hLo.out] at hX
  have hMw := hM.out
  have up : ∀ w, Below M W0 w → Below W0.heap.size W0 w := fun w hb => by rw [← hM.out]; exact hb
  have HX : Hid (∀ w, Below M W0 w → w.cell? ⟨X, 2, none⟩ = some (.slice (some ⟨G, 0, none⟩) Lo cO) ∧ w.cell? ⟨X, 3, none⟩ = some (.slice (some ⟨Sg, 0, none⟩) n1' n1') ∧ w.cell? ⟨X, 4, none⟩ = some (.slice (some ⟨Lg, 0, none⟩) ml ml) ∧ w.cell? ⟨X, 5, none⟩ = some (.int .i64 (cn : Int)) ∧ w.cell? ⟨X, 6, none⟩ = some (.slice (some ⟨Pg, 0, none⟩) n1' n1') ∧ X < w.heap.size) := fun w hb => by
    have h := hX.below (up w hb) hX.lt
    exact ⟨h.cell rfl, h.cell rfl, h.cell rfl, h.cell rfl, h.cell rfl, h.lt⟩
  have HRG : Hid (∀ w, Below M W0 w → Row w G (ioCells (paired T' I' os'))) := fun w hb => hG.below (up w hb) hG.lt
  have HRS : Hid (∀ w, Below M W0 w → Row w Sg (nats (starts T' p))) := fun w hb => hSg.below (up w hb) hSg.lt
  have HRL : Hid (∀ w, Below M W0 w → Row w Lg (nats (flat (pos T') p))) := fun w hb => hLg.below (up w hb) hLg.lt
  have HRP : Hid (∀ w, Below M W0 w → Row w Pg (nats (pairStarts T' I' p))) := fun w hb => hPg.below (up w hb) hPg.lt
  have HA : Hid (∀ w, Below M W0 w → At w aA (nats T')) := fun w hb => hA.below (up w hb)
  have HB : Hid (∀ w, Below M W0 w → At w aB (nats I')) := fun w hb => hB.below (up w hb)
  have HC : Hid (∀ w, Below M W0 w → At w aK (ints .u8 (os'.map (·.k)))) := fun w hb => hC.below (up w hb)
  have HH : Hid (LawAt B w0 W0 g1 g2 n m X p aT la lb xa) := H
  have Hml : Hid (ml = start T' p) := hml
  have HLL : Hid (LL = start T' p) := by show _ = _; rw [hLL.out, liUp_zero]; rfl
  have b1 : n1' ≤ 65537 := by rw [hn1.out]; omega
  have HM : Hid (M = W0.heap.size) := hM
  clear hMw hx hX hRT hA1 hG hml hSg hLg hPg hE hAb hNum H hA hB hC
  conv => arg 2; whnf
  go_wp2_with fail
  conv => arg 2; whnf
  go_upto_region 92 with (fail)
  rw [HW1.out]
  clear c1 f1 c2 f2 hws
  obtain ⟨x2, x3, x4, x5, x6, lX⟩ := HX.out W1 HS1.out.bl
  have e1 := equal24 (some ⟨Pg, 0, none⟩) (some ⟨M + 1, 0, none⟩) n1' n1' n1' n1' ((pairStarts T' I' p).map fun z : Nat => (z : Int)) ((pairStarts T' I' p).map fun z : Nat => (z : Int)) W1 (by rw [List.length_map, pairStarts, rmap_len]; exact hn1.out.symm) (by rw [List.length_map, pairStarts, rmap_len]; exact hn1.out.symm) (by omega) (fun _ => ⟨Pg, rfl, by rw [← nats_ints]; exact HRP.out _ HS1.out.bl⟩) (fun _ => ⟨M + 1, rfl, by rw [← nats_ints]; exact HS1.out.b1.row⟩)
  have e2 := fun d => equal24 (some ⟨Sg, 0, none⟩) (some ⟨M + 2, 0, none⟩) n1' n1' n1' n1' ((starts T' p).map fun z : Nat => (z : Int)) ((starts T' p).map fun z : Nat => (z : Int)) (W1.drewN d) (by rw [List.length_map, starts, rmap_len]; exact hn1.out.symm) (by rw [List.length_map, starts, rmap_len]; exact hn1.out.symm) (by omega) (fun _ => ⟨Sg, rfl, by rw [← nats_ints]; exact HRS.out _ (HS1.out.drewN d).bl⟩) (fun _ => ⟨M + 2, rfl, by rw [← nats_ints]; exact (HS1.out.drewN d).b2.row⟩)
  have e3 := fun d => equal24 (some ⟨Lg, 0, none⟩) aL ml LL ml cL ((flat (pos T') p).map fun z : Nat => (z : Int)) ((flat (pos T') p).map fun z : Nat => (z : Int)) (W1.drewN d) (by rw [List.length_map]; exact Hml.out.symm) (by rw [List.length_map]; exact HLL.out.symm) (by rw [Hml.out, ← HLL.out]; omega) (fun _ => ⟨Lg, rfl, by rw [← nats_ints]; exact HRL.out _ (HS1.out.drewN d).bl⟩) (by rw [← nats_ints, ← liUp_zero]; exact at_owned (owns_len (HS1.out.drewN d).oL hLL.out.symm))
  simp only [decide_true] at e1 e2 e3
  go_wp2_with fail
  refine e1.mono ?_
  clear e1
  rintro e w' ⟨rfl, d1, rfl⟩
  go_wp2_with fail
  refine (e2 _).mono ?_
  clear e2
  rintro e w' ⟨rfl, d2, rfl⟩
  go_wp2_with fail
  refine (e3 _).mono ?_
  clear e3
  rintro e w' ⟨rfl, d3, rfl⟩
  go_wp2_with fail
  clear x2 x3 x4 x5 x6 lX
  go_loopw [47, 48] (fun vk _ wr => ∃ k : Nat, k ≤ Lo ∧ vk = .int .i64 k ∧ Hid (S4 M W0 ((List.range Lo).map (pair T' I')) (pairStarts T' I' p) (starts T' p) (liUp T' p 0) Ss (.slice aL LL cL) vS wr)) (fun vk _ _ => Lo - (intOf vk).toNat)
  case atStart => exact ⟨0, Nat.zero_le _, rfl, HS1.out.drewN _⟩
  case round =>
    clear HS1 HW1
    obtain ⟨k, hk, rfl, HS⟩ := hrel
    by_cases hlt : k < Lo
    · have kn : (k : Int) < (Lo : Int) := by omega
      obtain ⟨x2, _, _, _, _, lX⟩ := HX.out wr HS.out.bl
      obtain ⟨gA, rfl, hRA⟩ := HA.out wr HS.out.bl (by rw [nats_len, lT.out]; omega)
      obtain ⟨gB, rfl, hRB⟩ := HB.out wr HS.out.bl (by rw [nats_len, lI.out]; omega)
      obtain ⟨gK, rfl, hRK⟩ := HC.out wr HS.out.bl (by rw [ints_len, List.length_map, hLo.out]; omega)
      obtain ⟨o, Ho⟩ : ∃ o, Hid (o = os'.getD k default) := ⟨_, rfl⟩
      obtain ⟨pk, Hpk⟩ : ∃ pk, Hid (pk = pair T' I' k) := ⟨_, rfl⟩
      have hpo : (paired T' I' os').getD k default = { o with p := pk } := by
        rw [paired, rmap_at _ _ _ _ (by rw [hLo.out]; exact hlt), Ho.out, Hpk.out]
      obtain ⟨q0, q1, q2, q3⟩ := ioCells_at (paired T' I' os') k (by rw [paired_len, hLo.out]; exact hlt)
      rw [hpo] at q0 q1 q2 q3
      have hRG := HRG.out wr HS.out.bl
      have d0 : wr.cell? ⟨G, k * 4, none⟩ = some (.int .u8 o.k) := hRG.cell q0
      have d1' : wr.cell? ⟨G, k * 4 + 1, none⟩ = some (.int .i64 o.t) := hRG.cell q1
      have d2' : wr.cell? ⟨G, k * 4 + 2, none⟩ = some (.int .i64 o.x) := hRG.cell q2
      have d3' : wr.cell? ⟨G, k * 4 + 3, none⟩ = some (.int .i64 pk) := hRG.cell q3
      have hol : k < os'.length := by rw [hLo.out]; exact hlt
      have a0 : wr.cell? ⟨gK, k, none⟩ = some (.int .u8 o.k) := by
        have h := hRK.cell (ints_at .u8 (os'.map (·.k)) k (by rw [List.length_map]; exact hol))
        rw [show (os'.map (·.k)).getD k 0 = o.k from by rw [Ho.out]; simp [List.getD_eq_getElem?_getD, List.getElem?_eq_getElem hol]] at h
        exact h
      have a1' : wr.cell? ⟨gA, k, none⟩ = some (.int .i64 o.t) := by
        have h := hRA.cell (nats_at T' k (by rw [lT.out]; exact hlt))
        rw [show T'.getD k 0 = o.t from by rw [Ho.out, hT.out]; simp [List.getD_eq_getElem?_getD, List.getElem?_eq_getElem hol]] at h
        exact h
      have a2' : wr.cell? ⟨gB, k, none⟩ = some (.int .i64 o.x) := by
        have h := hRB.cell (nats_at I' k (by rw [lI.out]; exact hlt))
        rw [show I'.getD k 0 = o.x from by rw [Ho.out, hI.out]; simp [List.getD_eq_getElem?_getD, List.getElem?_eq_getElem hol]] at h
        exact h
      have a3' : wr.cell? ⟨M, k, none⟩ = some (.int .i64 pk) := by
        have h := HS.out.b0.cell (nats_at ((List.range Lo).map (pair T' I')) k (by rw [rmap_len]; exact hlt))
        rw [rmap_at _ _ _ _ hlt, ← Hpk.out] at h
        exact h
      have lA := hRA.lt
      have lB := hRB.lt
      have lK := hRK.lt
      have lM := HS.out.b0.lt
      have lG := hRG.lt
      clear hRA hRB hRK hRG hpo q0 q1 q2 q3 hol
      go_wp2_with fail
      go_quiet (fail)
      go_wp2_with fail
      go_roundw
      case rel => exact ⟨k + 1, by omega, by go_num, (HS.out.alloc _).drewN _⟩
      case measure => simp [intOf]; omega
    · have hkn : k = Lo := by omega
      subst hkn
      have kn : ¬ (k : Int) < (k : Int) := by omega
      go_upto_region 104 with (fail)
      exact tail104 _ _ _ _ _ _ _ _ _ _ _ _ _ _ _ _ _ _ _ _ _ _ _ _ _ _ _ _ _ _ _ _ _ _ _ _ _ _ _ _ _ _ _ _ _ _ _ _ _ _ _ _ _ _ _ _ _ _ _ _ _ _ _ _ _ _ _ _ _ _ _ _ _ _ _ _ _ _ _ _ _ _ _ _ _ _ _ _ _ _ _ _ _ _ _ _ _ _ _ _ _ _ _ _ _ _ _ _ _ _ _ _ _ _ _ _ _ _ _ _ _ _ _ _ _ _ _ _ _ _ _ _ _ _ _ _ _ _ _ _ _ _ _ _ _ _ _ _ _ _ _ _ _ _ _ _ _ _ _ _ _ _ _ _ _ _ _ _ _ _ _ _ _ _ _ _ _ _ _ _ _ _ _ _ _ _ _ _ _ _ _ _ _ _ _ _ _ _ _ _ _ _ _ _ _ _ _ _ _ _ _ _ _ _ _ _ _ _ _ _ _ _ _ _ _ _ _ _ _ _ _ _ _ _ _ _ _ _ _ _ _ _ _ _ _ _ _ _ _ _ _ _ _ _ _ _ _ _ _ _ _ _ _ _ _ _ _ _ _ _ _ _ _ _ _ _ _ _ _ _ _ _ _ _ _ _ _ _ _ _ _ _ _ _ _ _ _ _ _ _ _ _ _ _ _ _ _ _ _ _ _ _ _ _ _ _ _ _ _ _ _ _ _ _ _ _ _ _ _ _ _ _ _ _ _ _ _ _ _ _ _ _ _ _ _ _ _ _ _ _ _ _ _ _ _ _ _ _ _ _ _ _ _ _ _ _ _ _ _ _ _ _ _ _ _ _ _ _ _ _ _ _ _ _ _ _ _ _ _ _ _ _ _ _ _ _ _ _ _ _ _ _ _ _ _ _ _ _ _ _ _ _ _ _ _ _ _ _ _ _ _ _ _ _ _ _ _ _ _ _ _ _ _ _ _ _ _ _ _ _ _ _ _ _ _ _ _ _ _ _ _ _ _ _ _ _ _ _ _ _ _ _ _ _ _ _ _ _ _ _ _ _ _ _ _ _ _ _ _ _ _ _ _ _ _ _ _ _ _ _ _ _ _ _ _ _ _ _ _ _ _ _ _ _ _ _ _ _ _ _ _ _ _ _ _ _ _ _ _ _ _ _ _ _ _ _ _ _ _ _ _ _ _ _ _ _ _ _ _ _ _ _ _ _ _ _ _ _ _ _ _ _ _ _ _ _ _ _ _ _ _ _ _ _ _ _ _ _ _ _ _ _ _ _ _ _ _ _ _ _ _ _ _ _ _ _ _ _ _ _ _ _ _ _ _ _ _ _ _ _ g1 g2 n m c2 X p cT B aT la lb xa w0 _ (HH.out.next (by rw [← HM.out]; exact HS.out.bl)) _ (by assumption)
end Go.Proofs.Ybulkebqk
