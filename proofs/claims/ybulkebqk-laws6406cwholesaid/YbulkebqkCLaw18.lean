import Derived.Test.YbulkebqkCLaw32
namespace Go.Proofs.Ybulkebqk
open Go.RowKit
set_option linter.unusedVariables false
set_option maxRecDepth 100000

set_option maxHeartbeats 3200000 in
theorem tail18 (u0 u1 u2 u3 u4 u5 u6 u7 u8 u9 u10 u13 u14 u15 u16 u17 u18 u19 u20 u21 u22 u23 u24 u25 u26 u27 u28 u29 u30 u31 u32 u33 u34 u35 u36 u37 u38 u39 u40 u41 u42 u43 u44 u45 u46 u47 u48 u49 u50 u51 u52 u53 u54 u55 u56 u57 u58 u59 u60 u61 u62 u63 u64 u65 u66 u67 u68 u69 u70 u71 u72 u73 u74 u75 u76 u77 u78 u79 u80 u81 u82 u83 u84 u85 u86 u87 u88 u89 u90 u91 u92 u93 u94 u95 u96 u97 u98 u99 u100 u101 u102 u103 u104 u105 u106 u107 u108 u109 u110 u111 u112 u113 u114 u115 u116 u117 u118 u119 u120 u121 u122 u123 u124 u125 u126 u127 u128 u129 u130 u131 u132 u133 u134 u135 u136 u137 u138 u139 u140 u141 u142 u143 u144 u145 u146 u147 u148 u149 u150 u151 u152 u153 u154 u155 u156 u157 u158 u159 u160 u161 u162 u163 u164 u165 u166 u167 u168 u169 u170 u171 u172 u173 u174 u175 u176 u177 u178 u179 u180 u181 u182 u183 u184 u185 u186 u187 u188 u189 u190 u191 u192 u193 u194 u195 u196 u197 u198 u199 u200 u201 u202 u203 u204 u205 u206 u207 u208 u209 u210 u211 u212 u213 u214 u215 u216 u217 u218 u219 u220 u221 u222 u223 u224 u225 u226 u227 u228 u229 u230 u231 u232 u233 u234 u235 u236 u237 u238 u239 u240 u241 u242 u243 u244 u245 u246 u247 u248 u249 u250 u251 u252 u253 u254 u255 u256 u257 u258 u259 u260 u261 u262 u263 u264 u265 u266 u267 u268 u269 u270 u271 u272 u273 u274 u275 u276 u277 u278 u279 u280 u281 u282 u283 u284 u285 u286 u287 u288 u289 u290 u291 u292 u293 u294 u295 u296 u297 u298 u299 u300 u301 u302 u303 u304 u305 u306 u307 u308 u309 u310 u311 u312 u313 u314 u315 u316 u317 u318 u319 u320 u321 u322 u323 u324 u325 u326 u327 u328 u329 u330 u331 u332 u333 u334 u335 u336 u337 u338 u339 u340 u341 u342 u343 u344 u345 u346 u347 u348 u349 u350 u351 u352 u353 u354 u355 u356 u357 u358 u359 u360 u361 u362 u363 u364 u365 u366 u367 u368 u369 u370 u371 u372 u373 u374 u375 u376 u377 u378 u379 u380 u381 u382 u383 u384 u385 u386 u387 u388 u389 u390 u391 u392 u393 u394 u395 u396 u397 u398 u399 u400 u401 u402 u403 u404 u405 u406 u407 u408 u409 u410 u411 u412 u413 u414 u415 u416 u417 u418 u419 u420 u421 u422 u423 u424 u425 u426 u427 u428 u429 u430 u431 u432 u433 u434 u435 u436 u437 u438 u439 u440 u441 u442 u443 u444 u445 u446 u447 u448 u449 u450 u451 u452 u453 u454 u455 u456 u457 u458 u459 u460 u461 u462 u463 u464 u465 u466 u467 u468 u469 u470 u471 u472 u473 u474 u475 u476 u477 u478 u479 u480 u481 u482 u483 u484 u485 u486 u487 u488 u489 u490 u491 u492 u493 u494 u495 u496 u497 u498 u499 u500 u501 u502 u503 u504 u505 u506 u507 u508 u509 u510 u511 u512 u513 u514 u515 u516 u517 u518 u519 u520 u521 u522 u523 u524 u525 u526 u527 u528 u529 u530 u531 u532 u533 u534 u535 u536 u537 u538 u539 u540 u541 u542 u543 u544 u545 u546 u547 u548 u549 u550 u551 u552 u553 u554 u555 u556 u557 u558 u559 u560 u561 u562 u563 u564 u565 u566 u567 u568 u569 u570 u571 u572 u573 u574 u575 u576 u577 u578 u579 u580 u581 u582 u583 u584 u585 u586 u587 u588 u589 u590 u591 u592 u593 u594 u595 u596 u597 u598 u599 u600 u601 u602 u603 : Value) (g1 g2 n m c1 c2 B : Nat) (la lb : List OpV) (w0 w : World) (hla : la.length = n) (hlb : lb.length = m) (bn : n ≤ 65536) (bm : m ≤ 65536) (ha : ∀ o, o ∈ la → (-1000 ≤ o.t ∧ o.t ≤ 1000) ∧ o.i.size ≤ 1) (hb : ∀ o, o ∈ lb → -1000 ≤ o.t ∧ o.t ≤ 1000) (hR1 : Row w g1 (opCells la)) (hR2 : Row w g2 (opCells lb)) (hB : Below B w0 w) (hBw : B ≤ w.heap.size) (K : Act → World → Prop) (hK : ∀ a w, Code.wp Yba.prog (rest4 6) (lawPost B w0) a w → K a w) :
    Code.wp Yba.prog (first (rest4 5)) (Exit.then K (lawPost B w0)) ⟨#[u0, u1, u2, u3, u4, u5, u6, u7, u8, u9, u10, .slice (some ⟨g1, 0, none⟩) n c1, .slice (some ⟨g2, 0, none⟩) m c2, u13, u14, u15, u16, u17, u18, u19, u20, u21, u22, u23, u24, u25, u26, u27, u28, u29, u30, u31, u32, u33, u34, u35, u36, u37, u38, u39, u40, u41, u42, u43, u44, u45, u46, u47, u48, u49, u50, u51, u52, u53, u54, u55, u56, u57, u58, u59, u60, u61, u62, u63, u64, u65, u66, u67, u68, u69, u70, u71, u72, u73, u74, u75, u76, u77, u78, u79, u80, u81, u82, u83, u84, u85, u86, u87, u88, u89, u90, u91, u92, u93, u94, u95, u96, u97, u98, u99, u100, u101, u102, u103, u104, u105, u106, u107, u108, u109, u110, u111, u112, u113, u114, u115, u116, u117, u118, u119, u120, u121, u122, u123, u124, u125, u126, u127, u128, u129, u130, u131, u132, u133, u134, u135, u136, u137, u138, u139, u140, u141, u142, u143, u144, u145, u146, u147, u148, u149, u150, u151, u152, u153, u154, u155, u156, u157, u158, u159, u160, u161, u162, u163, u164, u165, u166, u167, u168, u169, u170, u171, u172, u173, u174, u175, u176, u177, u178, u179, u180, u181, u182, u183, u184, u185, u186, u187, u188, u189, u190, u191, u192, u193, u194, u195, u196, u197, u198, u199, u200, u201, u202, u203, u204, u205, u206, u207, u208, u209, u210, u211, u212, u213, u214, u215, u216, u217, u218, u219, u220, u221, u222, u223, u224, u225, u226, u227, u228, u229, u230, u231, u232, u233, u234, u235, u236, u237, u238, u239, u240, u241, u242, u243, u244, u245, u246, u247, u248, u249, u250, u251, u252, u253, u254, u255, u256, u257, u258, u259, u260, u261, u262, u263, u264, u265, u266, u267, u268, u269, u270, u271, u272, u273, u274, u275, u276, u277, u278, u279, u280, u281, u282, u283, u284, u285, u286, u287, u288, u289, u290, u291, u292, u293, u294, u295, u296, u297, u298, u299, u300, u301, u302, u303, u304, u305, u306, u307, u308, u309, u310, u311, u312, u313, u314, u315, u316, u317, u318, u319, u320, u321, u322, u323, u324, u325, u326, u327, u328, u329, u330, u331, u332, u333, u334, u335, u336, u337, u338, u339, u340, u341, u342, u343, u344, u345, u346, u347, u348, u349, u350, u351, u352, u353, u354, u355, u356, u357, u358, u359, u360, u361, u362, u363, u364, u365, u366, u367, u368, u369, u370, u371, u372, u373, u374, u375, u376, u377, u378, u379, u380, u381, u382, u383, u384, u385, u386, u387, u388, u389, u390, u391, u392, u393, u394, u395, u396, u397, u398, u399, u400, u401, u402, u403, u404, u405, u406, u407, u408, u409, u410, u411, u412, u413, u414, u415, u416, u417, u418, u419, u420, u421, u422, u423, u424, u425, u426, u427, u428, u429, u430, u431, u432, u433, u434, u435, u436, u437, u438, u439, u440, u441, u442, u443, u444, u445, u446, u447, u448, u449, u450, u451, u452, u453, u454, u455, u456, u457, u458, u459, u460, u461, u462, u463, u464, u465, u466, u467, u468, u469, u470, u471, u472, u473, u474, u475, u476, u477, u478, u479, u480, u481, u482, u483, u484, u485, u486, u487, u488, u489, u490, u491, u492, u493, u494, u495, u496, u497, u498, u499, u500, u501, u502, u503, u504, u505, u506, u507, u508, u509, u510, u511, u512, u513, u514, u515, u516, u517, u518, u519, u520, u521, u522, u523, u524, u525, u526, u527, u528, u529, u530, u531, u532, u533, u534, u535, u536, u537, u538, u539, u540, u541, u542, u543, u544, u545, u546, u547, u548, u549, u550, u551, u552, u553, u554, u555, u556, u557, u558, u559, u560, u561, u562, u563, u564, u565, u566, u567, u568, u569, u570, u571, u572, u573, u574, u575, u576, u577, u578, u579, u580, u581, u582, u583, u584, u585, u586, u587, u588, u589, u590, u591, u592, u593, u594, u595, u596, u597, u598, u599, u600, u601, u602, u603], []⟩ w := by
  obtain ⟨xs0, h0⟩ : ∃ xs0, xs0 = la := ⟨_, rfl⟩
  have hs := sched18 g1 n c1 la w hla bn (small_mem fun o ho => (ha o ho).1) (fun o ho => Nat.le_trans (ha o ho).2 (by decide)) hR1
  have HLA : Hid (la.length = n) := hla
  have HLB : Hid (lb.length = m) := hlb
  have HSB : Hid (Small lb) := small_mem hb
  have HR1 : Hid (Row w g1 (opCells la)) := hR1
  have HR2 : Hid (Row w g2 (opCells lb)) := hR2
  have HB : Hid (Below B w0 w) := hB
  clear hla hlb hR1 hR2 hB ha hb h0 xs0
  conv => arg 2; whnf
  go_wp2_with fail
  refine hs.mono ?_
  clear hs
  rintro e W1 ⟨X, xa, rfl, hTa, hxl, hIx, hB1⟩
  have HT : Hid (Tx la xa) := hTa
  have HI1 : Hid (IxAt W1 X la xa (itemsUp la la.length)) := hIx
  obtain ⟨gT, cT, k1, G, cO, Sg, Lg, ml, Pg, E, n1, a1, abv, t9, t10, t11, os, T, I, hos, hT, hI, hn1, hX, hRT, hA1, hG, hml, hSg, hLg, hPg, hE, hAb, hNum⟩ := hIx
  have hx0 : W1.cell? ⟨X, 0, none⟩ = some (.slice (some ⟨gT, 0, none⟩) xa.length cT) := hX.cell rfl
  have hx1 : W1.cell? ⟨X, 1, none⟩ = some (.slice a1 (itemsUp la la.length).length k1) := hX.cell rfl
  have hx2 : W1.cell? ⟨X, 2, none⟩ = some (.slice (some ⟨G, 0, none⟩) os.length cO) := hX.cell rfl
  have lX : X < W1.heap.size := hX.lt
  have HOS : Hid (os = iops xa (itemsUp la la.length) la) := hos
  clear hos hT hI hn1 hml hSg hLg hPg hE hAb hNum hTa
  go_wp2_with fail
  conv => arg 2; whnf
  have hc1 := clone19_some ⟨gT, 0, none⟩ xa.length cT (ints .i64 xa) W1 (by omega) (by rw [ints_len]; omega) (fun u hu => by
      obtain ⟨x, _, rfl⟩ := List.mem_map.1 hu
      rfl) (fun j u hu => by rw [add0]; exact hRT.cell hu)
  go_wp2_with fail
  refine hc1.mono ?_
  clear hc1
  rintro e W2 ⟨gT2, cT2, rfl, hgT2, hRT2, hB2⟩
  have up1 : ∀ b, b < W1.heap.size → W2.heap[b]? = W1.heap[b]? := fun b hb => hB2.block b hb
  have hsz2 := hB2.size
  have hX2 := hX.same (up1 X lX)
  have hx1 : W2.cell? ⟨X, 1, none⟩ = some (.slice a1 (itemsUp la la.length).length k1) := hX2.cell rfl
  have hil : (itemsUp la la.length).length ≤ 65536 := by have := itemsUp_len la la.length; have := HLA.out; omega
  have hc2 := clone20_at a1 (itemsUp la la.length).length k1 (itemsUp la la.length) W2 rfl (by omega) (hA1.below hB2)
  clear hx0
  go_wp2_with fail
  refine hc2.mono ?_
  clear hc2
  rintro e W3 ⟨a2, k2, rfl, hA2, hB3⟩
  have up2 : ∀ b, b < W2.heap.size → W3.heap[b]? = W2.heap[b]? := fun b hb => hB3.block b hb
  have hsz3 := hB3.size
  have hX3 := hX2.same (up2 X (by omega))
  have hx2 : W3.cell? ⟨X, 2, none⟩ = some (.slice (some ⟨G, 0, none⟩) os.length cO) := hX3.cell rfl
  have hG3 : Row W3 G (ioCells (paired T I os)) := (hG.same (up1 G hG.lt)).same (up2 G (by have := hG.lt; omega))
  have hosl : os.length ≤ 65536 := by
    have h1 := HOS.out
    have h2 := accs_len la la.length
    have h3 := HLA.out
    rw [List.take_length] at h2
    rw [h1, iops_len]
    omega
  have hc3 := clone21_some ⟨G, 0, none⟩ os.length cO (ioCells (paired T I os)) W3 (by omega) (by rw [ioCells_len, paired_len]) (fun u hu => io_one _ u hu) (fun j u hu => by rw [add0]; exact hG3.cell hu)
  clear hx1
  go_wp2_with fail
  refine hc3.mono ?_
  clear hc3
  rintro e W4 ⟨G2, cO2, rfl, hG2b, hG4, hB4⟩
  have hsz4 := hB4.size
  have hB14 : Below W1.heap.size W1 W4 := (hB2.trans (hB3.mono (by omega))).trans (hB4.mono (by omega))
  have hR24 : Row W4 g2 (opCells lb) := (HR2.out.below hB1 HR2.out.lt).below hB14 (by have := HR2.out.lt; have := hB1.size; omega)
  have hc4 := clone22_some ⟨g2, 0, none⟩ m c2 (opCells lb) W4 (by omega) (by rw [opCells_len, HLB.out]) (fun u hu => op_one _ u hu) (fun j u hu => by rw [add0]; exact hR24.cell hu)
  clear hx2
  go_wp2_with fail
  refine hc4.mono ?_
  clear hc4
  rintro e W5 ⟨g3, c3, rfl, hg3, hR35, hB5⟩
  have hsz5 := hB5.size
  have hB15 : Below W1.heap.size W1 W5 := hB14.trans (hB5.mono (by omega))
  have hR25 : Row W5 g2 (opCells lb) := hR24.below hB5 hR24.lt
  have hlk := like23 X g2 m c2 la lb xa (itemsUp la la.length) W5 (HI1.out.below hB15 (Nat.le_refl _)) HT.out (items_mem la) (by rw [HLA.out]; omega) (by omega) HLB.out bm HSB.out hR25
  go_wp2_with fail
  refine hlk.mono ?_
  clear hlk
  rintro e W6 ⟨hB6, hcase⟩
  have hsz6 := hB6.size
  have hB16 : Below W1.heap.size W1 W6 := hB15.trans (hB6.mono (by omega))
  have hX6 := hX.same (hB16.block X lX)
  have hx0 : W6.cell? ⟨X, 0, none⟩ = some (.slice (some ⟨gT, 0, none⟩) xa.length cT) := hX6.cell rfl
  have hx1 : W6.cell? ⟨X, 1, none⟩ = some (.slice a1 (itemsUp la la.length).length k1) := hX6.cell rfl
  have hx2 : W6.cell? ⟨X, 2, none⟩ = some (.slice (some ⟨G, 0, none⟩) os.length cO) := hX6.cell rfl
  have hR26 : Row W6 g2 (opCells lb) := hR25.below hB6 hR25.lt
  have hR16 : Row W6 g1 (opCells la) := (HR1.out.below hB1 HR1.out.lt).below hB16 (by have := HR1.out.lt; have := hB1.size; omega)
  have hR36 : Row W6 g3 (opCells lb) := hR35.below hB6 hR35.lt
  have hRT6 : Row W6 gT (ints .i64 xa) := hRT.below hB16 hRT.lt
  have hRT26 : Row W6 gT2 (ints .i64 xa) := hRT2.below ((hB3.trans (hB4.mono (by omega))).trans ((hB5.mono (by omega)).trans (hB6.mono (by omega)))) hRT2.lt
  have hA16 : At W6 a1 (strs (itemsUp la la.length)) := hA1.below hB16
  have hA26 : At W6 a2 (strs (itemsUp la la.length)) := hA2.below (hB4.trans ((hB5.mono (by omega)).trans (hB6.mono (by omega))))
  have hG6 : Row W6 G (ioCells (paired T I os)) := hG.below hB16 hG.lt
  have hG26 : Row W6 G2 (ioCells (paired T I os)) := hG4.below (hB5.trans (hB6.mono (by omega))) hG4.lt
  have hBB : Below B w0 W6 := (HB.out.trans (hB1.mono hBw)).trans (hB16.mono (by have := hB1.size; omega))
  have hBW6 : B ≤ W6.heap.size := by have := hB1.size; omega
  have he1 := equal24 (some ⟨gT, 0, none⟩) (some ⟨gT2, 0, none⟩) xa.length xa.length cT cT2 xa xa W6 rfl rfl (by omega) (fun _ => ⟨gT, rfl, hRT6⟩) (fun _ => ⟨gT2, rfl, hRT26⟩)
  have he2 := fun d => equal25 a1 a2 (itemsUp la la.length).length (itemsUp la la.length).length k1 k2 (itemsUp la la.length) (itemsUp la la.length) (W6.drewN d) rfl rfl (by omega) hA16 hA26
  have he3 := fun d => equal26_same G G2 os.length cO cO2 (paired T I os) (W6.drewN d) (paired_len T I os) (by omega) hG6 hG26
  have he4 := fun d => equal27 (some ⟨g2, 0, none⟩) (some ⟨g3, 0, none⟩) m m c2 c3 lb lb (W6.drewN d) HLB.out HLB.out (by omega) (fun _ => ⟨g2, rfl, hR26⟩) (fun _ => ⟨g3, rfl, hR36⟩)
  simp only [decide_true] at he1 he2 he4
  have HR16 : Hid (Row W6 g1 (opCells la)) := hR16
  have HR26 : Hid (Row W6 g2 (opCells lb)) := hR26
  have HBB : Hid (Below B w0 W6) := hBB
  have HBW6 : Hid (B ≤ W6.heap.size) := hBW6
  have lX6 : X < W6.heap.size := hX6.lt
  have HC : Hid ((e = .returned (.tuple #[.pointer none, .bool false]) ∧ ¬ (Tx lb xa ∧ SameP la lb xa)) ∨
       (∃ X, e = .returned (.tuple #[.pointer (some ⟨X, 0, none⟩), .bool true]) ∧ Tx lb xa ∧ SameP la lb xa ∧ IxAt W6 X lb xa (itemsUp la la.length))) := hcase
  clear hcase hB16 hX6 hR26 hR16 hR36 hRT6 hRT26 hA16 hA26 hG6 hG26 hBB hBW6 hB6 hB15 hB14 hR25 hB5 hR35 hg3 hR24 hB4 hG4 hG2b hG3 hX3 up2 hB3 hA2 hX2 up1 hB2 hRT2 hgT2 lX hG hA1 hRT hX hB1 HI1 HR1 HR2 HB hsz2 hsz3 hsz4 hsz5 hsz6 hBw
  obtain ⟨pv, ov, he, hpo⟩ : ∃ pv ov, e = .returned (.tuple #[pv, ov]) ∧ Hid (((pv = .pointer none ∧ ov = .bool false) ∧ ¬ (Tx lb xa ∧ SameP la lb xa)) ∨
       (∃ X, (pv = .pointer (some ⟨X, 0, none⟩) ∧ ov = .bool true) ∧ Tx lb xa ∧ SameP la lb xa ∧ IxAt W6 X lb xa (itemsUp la la.length))) := by
    rcases HC.out with ⟨h1, h2⟩ | ⟨X, h1, h2⟩
    · exact ⟨_, _, h1, .inl ⟨⟨rfl, rfl⟩, h2⟩⟩
    · exact ⟨_, _, h1, .inr ⟨X, ⟨rfl, rfl⟩, h2⟩⟩
  clear HC
  subst he
  go_wp2_with fail
  refine he1.mono ?_
  clear he1
  rintro e w' ⟨rfl, d1, rfl⟩
  go_wp2_with fail
  refine (he2 _).mono ?_
  clear he2
  rintro e w' ⟨rfl, d2, rfl⟩
  go_wp2_with fail
  refine (he3 _).mono ?_
  clear he3
  rintro e w' ⟨rfl, d3, rfl⟩
  go_wp2_with fail
  refine (he4 _).mono ?_
  clear he4
  rintro e w' ⟨rfl, d4, rfl⟩
  obtain ⟨W7, hW7⟩ : ∃ W7, ((W6.drewN (d1 + d2 + d3)).drewN d4) = W7 := ⟨_, rfl⟩
  have HR17 : Hid (Row W7 g1 (opCells la)) := by rw [← hW7]; exact HR16.out
  have HR27 : Hid (Row W7 g2 (opCells lb)) := by rw [← hW7]; exact HR26.out
  have HBB7 : Hid (Below B w0 W7) := by rw [← hW7]; exact below_drewN (below_drewN HBB.out _) _
  have HBW7 : Hid (B ≤ W7.heap.size) := by rw [← hW7]; exact HBW6.out
  have hs67 : W6.heap.size = W7.heap.size := by rw [← hW7]; rfl
  have HB67 : Hid (Below W6.heap.size W6 W7) := by rw [← hW7]; exact below_drewN (below_drewN (Below.refl _ _) _) _
  have hp7 : Hid (((pv = .pointer none ∧ ov = .bool false) ∧ ¬ (Tx lb xa ∧ SameP la lb xa)) ∨
       (∃ X, (pv = .pointer (some ⟨X, 0, none⟩) ∧ ov = .bool true) ∧ Tx lb xa ∧ SameP la lb xa ∧ IxAt W7 X lb xa (itemsUp la la.length))) := by
    rcases hpo.out with h | ⟨X, h1, h2, h3, h4⟩
    · exact .inl h
    · exact .inr ⟨X, h1, h2, h3, h4.below HB67.out (Nat.le_refl _)⟩
  rw [hW7]
  have ht1 := ctxns28 g1 n c1 la W7 HLA.out bn HR17.out
  clear hpo HB67 hs67 HBW6 HBB HR26 HR16 hx0 hx1 hx2 lX6 hW7
  go_wp2_with fail
  refine ht1.mono ?_
  clear ht1
  rintro e W8 ⟨aT, cT1, xa1, rfl, hTx1, hxl1, hAT, hB8⟩
  have hex : xa1 = xa := hTx1.unique HT.out
  subst hex
  have ht2 := ctxns28 g2 m c2 lb W8 HLB.out bm (HR27.out.below hB8 HR27.out.lt)
  go_wp2_with fail
  refine ht2.mono ?_
  clear ht2
  rintro e W9 ⟨bT, cT3, xb, rfl, hTx2, hxl2, hBT, hB9⟩
  have hsz8 := hB8.size
  have hB79 : Below W7.heap.size W7 W9 := hB8.trans (hB9.mono hB8.size)
  have hsm := same29 g1 g2 n m c1 c2 xa1.length xb.length cT1 cT3 aT bT la lb xa1 xb W9 HLA.out HLB.out rfl rfl bn bm (by omega) (HR17.out.below hB79 HR17.out.lt) (HR27.out.below hB79 HR27.out.lt) (hAT.below hB9) hBT
  have hiff : sameB la lb xa1 xb = true ↔ (Tx lb xa1 ∧ SameP la lb xa1) := by
    unfold sameB SameP
    rw [Bool.and_eq_true, decide_eq_true_eq, List.all_eq_true]
    constructor
    · rintro ⟨h1, h2⟩
      exact ⟨h1 ▸ hTx2, fun t ht => by simpa using h2 t ht⟩
    · rintro ⟨h1, h2⟩
      exact ⟨h1.unique hTx2, fun t ht => by simpa using h2 t ht⟩
  rcases hp7.out with ⟨⟨rfl, rfl⟩, hno⟩ | ⟨X2, ⟨rfl, rfl⟩, hyes1, hyes2, hIx⟩
  · have hsf : sameB la lb xa1 xb = false := by
      cases h : sameB la lb xa1 xb with
      | false => rfl
      | true => exact absurd (hiff.1 h) hno
    rw [hsf] at hsm
    clear hiff hno
    go_wp2_with fail
    refine hsm.mono ?_
    clear hsm
    rintro e WA ⟨rfl, hBA⟩
    go_wp2_with fail
    unfold lawPost
    go_ret
    exact ⟨rfl, (HBB7.out.trans (hB79.mono HBW7.out)).trans (hBA.mono (by have := HBW7.out; have := hB9.size; omega))⟩
  · have hst : sameB la lb xa1 xb = true := hiff.2 ⟨hyes1, hyes2⟩
    rw [hst] at hsm
    clear hiff
    go_wp2_with fail
    refine hsm.mono ?_
    clear hsm
    rintro e WA ⟨rfl, hBA⟩
    go_upto_region 32 with (fail)
    have hB7A : Below W7.heap.size W7 WA := hB79.trans (hBA.mono hB79.size)
    exact tail32 _ _ _ _ _ _ _ _ _ _ _ _ _ _ _ _ _ _ _ _ _ _ _ _ _ _ _ _ _ _ _ _ _ _ _ _ _ _ _ _ _ _ _ _ _ _ _ _ _ _ _ _ _ _ _ _ _ _ _ _ _ _ _ _ _ _ _ _ _ _ _ _ _ _ _ _ _ _ _ _ _ _ _ _ _ _ _ _ _ _ _ _ _ _ _ _ _ _ _ _ _ _ _ _ _ _ _ _ _ _ _ _ _ _ _ _ _ _ _ _ _ _ _ _ _ _ _ _ _ _ _ _ _ _ _ _ _ _ _ _ _ _ _ _ _ _ _ _ _ _ _ _ _ _ _ _ _ _ _ _ _ _ _ _ _ _ _ _ _ _ _ _ _ _ _ _ _ _ _ _ _ _ _ _ _ _ _ _ _ _ _ _ _ _ _ _ _ _ _ _ _ _ _ _ _ _ _ _ _ _ _ _ _ _ _ _ _ _ _ _ _ _ _ _ _ _ _ _ _ _ _ _ _ _ _ _ _ _ _ _ _ _ _ _ _ _ _ _ _ _ _ _ _ _ _ _ _ _ _ _ _ _ _ _ _ _ _ _ _ _ _ _ _ _ _ _ _ _ _ _ _ _ _ _ _ _ _ _ _ _ _ _ _ _ _ _ _ _ _ _ _ _ _ _ _ _ _ _ _ _ _ _ _ _ _ _ _ _ _ _ _ _ _ _ _ _ _ _ _ _ _ _ _ _ _ _ _ _ _ _ _ _ _ _ _ _ _ _ _ _ _ _ _ _ _ _ _ _ _ _ _ _ _ _ _ _ _ _ _ _ _ _ _ _ _ _ _ _ _ _ _ _ _ _ _ _ _ _ _ _ _ _ _ _ _ _ _ _ _ _ _ _ _ _ _ _ _ _ _ _ _ _ _ _ _ _ _ _ _ _ _ _ _ _ _ _ _ _ _ _ _ _ _ _ _ _ _ _ _ _ _ _ _ _ _ _ _ _ _ _ _ _ _ _ _ _ _ _ _ _ _ _ _ _ _ _ _ _ _ _ _ _ _ _ _ _ _ _ _ _ _ _ _ _ _ _ _ _ _ _ _ _ _ _ _ _ _ _ _ _ _ _ _ _ _ _ _ _ _ _ _ _ _ _ _ _ _ _ _ _ _ _ _ _ _ _ _ _ _ _ _ _ _ _ _ _ _ _ _ _ _ _ _ _ _ _ _ _ _ _ _ _ _ _ _ _ _ _ _ _ _ _ _ _ _ _ _ _ _ _ _ _ _ _ _ _ _ _ _ _ _ _ _ _ _ _ _ _ _ _ _ _ _ _ _ _ _ _ _ _ g1 g2 n m c1 c2 X2 xa1.length cT1 B aT la lb xa1 w0 WA ⟨HLA.out, HLB.out, bn, bm, rfl, hxl1, by have := tx_len hyes1; have := HLB.out; omega, hTx1, hyes1, hyes2, HSB.out, HR17.out.below hB7A HR17.out.lt, HR27.out.below hB7A HR27.out.lt, (hAT.below hB9).below hBA, hIx.below hB7A (Nat.le_refl _), HBB7.out.trans (hB7A.mono HBW7.out), by have := HBW7.out; have := hB7A.size; omega⟩ _ (by assumption)
end Go.Proofs.Ybulkebqk
