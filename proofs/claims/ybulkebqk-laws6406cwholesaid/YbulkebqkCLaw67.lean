/-
  The law from region 67 on: pairs and programs, counted anew.
-/
import Derived.Test.YbulkebqkCLaw90
namespace Go.Proofs.Ybulkebqk
open Go.RowKit
set_option linter.unusedVariables false
set_option maxRecDepth 100000
set_option maxHeartbeats 3200000 in
theorem tail67 (u0 u1 u2 u3 u4 u5 u6 u7 u8 u9 u10 u11 u13 u14 u15 u16 u17 u18 u19 u21 u23 u25 u26 u27 u31 u32 u33 u34 u35 u36 u37 u38 u39 u40 u41 u42 u43 u44 u45 u46 u47 u48 u49 u50 u51 u52 u53 u54 u55 u56 u57 u58 u59 u60 u61 u62 u63 u64 u65 u66 u67 u68 u69 u70 u71 u72 u73 u74 u75 u76 u77 u78 u79 u80 u81 u82 u83 u84 u85 u86 u87 u88 u89 u90 u91 u92 u93 u94 u95 u96 u97 u98 u99 u100 u101 u102 u103 u104 u105 u106 u107 u108 u109 u110 u111 u112 u113 u114 u115 u116 u117 u118 u119 u120 u121 u122 u123 u124 u125 u126 u127 u128 u129 u130 u131 u132 u133 u134 u135 u136 u137 u138 u139 u140 u141 u142 u143 u144 u145 u146 u147 u148 u149 u150 u151 u152 u153 u154 u155 u156 u157 u158 u159 u160 u161 u162 u163 u164 u165 u166 u167 u168 u169 u170 u171 u172 u173 u174 u175 u176 u177 u178 u179 u180 u181 u182 u183 u184 u185 u186 u187 u188 u189 u190 u191 u192 u193 u194 u195 u196 u197 u198 u199 u200 u201 u202 u203 u204 u205 u206 u207 u208 u209 u210 u211 u212 u213 u214 u215 u216 u217 u218 u219 u220 u221 u222 u223 u224 u225 u226 u227 u228 u229 u230 u231 u232 u233 u234 u235 u236 u237 u238 u239 u240 u241 u242 u243 u244 u245 u246 u247 u248 u249 u250 u251 u252 u253 u254 u255 u256 u257 u258 u259 u260 u261 u262 u263 u264 u265 u266 u267 u268 u269 u270 u271 u272 u273 u274 u275 u276 u277 u278 u279 u280 u281 u282 u283 u284 u285 u286 u287 u288 u289 u290 u291 u292 u293 u294 u295 u296 u297 u298 u299 u300 u301 u302 u303 u304 u305 u306 u307 u308 u309 u310 u311 u312 u313 u314 u315 u316 u317 u318 u319 u320 u321 u322 u323 u324 u325 u326 u327 u328 u329 u330 u331 u332 u333 u334 u335 u336 u337 u338 u339 u340 u341 u342 u343 u344 u345 u346 u347 u348 u349 u350 u351 u352 u353 u354 u355 u356 u357 u358 u359 u360 u361 u362 u363 u364 u365 u366 u367 u368 u369 u370 u371 u372 u373 u374 u375 u376 u377 u378 u379 u380 u381 u382 u383 u384 u385 u386 u387 u388 u389 u390 u391 u392 u393 u394 u395 u396 u397 u398 u399 u400 u401 u402 u403 u404 u405 u406 u407 u408 u409 u410 u411 u412 u413 u414 u415 u416 u417 u418 u419 u420 u421 u422 u423 u424 u425 u426 u427 u428 u429 u430 u431 u432 u433 u434 u435 u436 u437 u438 u439 u440 u441 u442 u443 u444 u445 u446 u447 u448 u449 u450 u451 u452 u453 u454 u455 u456 u457 u458 u459 u460 u461 u462 u463 u464 u465 u466 u467 u468 u469 u470 u471 u472 u473 u474 u475 u476 u477 u478 u479 u480 u481 u482 u483 u484 u485 u486 u487 u488 u489 u490 u491 u492 u493 u494 u495 u496 u497 u498 u499 u500 u501 u502 u503 u504 u505 u506 u507 u508 u509 u510 u511 u512 u513 u514 u515 u516 u517 u518 u519 u520 u521 u522 u523 u524 u525 u526 u527 u528 u529 u530 u531 u532 u533 u534 u535 u536 u537 u538 u539 u540 u541 u542 u543 u544 u545 u546 u547 u548 u549 u550 u551 u552 u553 u554 u555 u556 u557 u558 u559 u560 u561 u562 u563 u564 u565 u566 u567 u568 u569 u570 u571 u572 u573 u574 u575 u576 u577 u578 u579 u580 u581 u582 u583 u584 u585 u586 u587 u588 u589 u590 u591 u592 u593 u594 u595 u596 u597 u598 u599 u600 u601 u602 u603 : Value) (g1 g2 n m c2 X p cT Lo cA cB cK B : Nat) (aT aA aB aK : Option Addr) (la lb : List OpV) (xa : List Int) (os : List IOp) (w0 W : World) (H : LawAt B w0 W g1 g2 n m X p aT la lb xa) (hos : Hid (os = iops xa (itemsUp la la.length) lb)) (hLo : Hid (os.length = Lo)) (hA : At W aA (nats (os.map (·.t)))) (hB : At W aB (nats (os.map (·.x)))) (hC : At W aK (ints .u8 (os.map (·.k)))) (K : Act → World → Prop) (hK : ∀ a w, Code.wp Yba.prog (rest4 29) (lawPost B w0) a w → K a w) :
    Code.wp Yba.prog (first (rest4 28)) (Exit.then K (lawPost B w0)) ⟨#[u0, u1, u2, u3, u4, u5, u6, u7, u8, u9, u10, u11, .slice (some ⟨g2, 0, none⟩) m c2, u13, u14, u15, u16, u17, u18, u19, .pointer (some ⟨X, 0, none⟩), u21, .slice aT p cT, u23, .int .i64 p, u25, u26, u27, .slice aA Lo cA, .slice aB Lo cB, .slice aK Lo cK, u31, u32, u33, u34, u35, u36, u37, u38, u39, u40, u41, u42, u43, u44, u45, u46, u47, u48, u49, u50, u51, u52, u53, u54, u55, u56, u57, u58, u59, u60, u61, u62, u63, u64, u65, u66, u67, u68, u69, u70, u71, u72, u73, u74, u75, u76, u77, u78, u79, u80, u81, u82, u83, u84, u85, u86, u87, u88, u89, u90, u91, u92, u93, u94, u95, u96, u97, u98, u99, u100, u101, u102, u103, u104, u105, u106, u107, u108, u109, u110, u111, u112, u113, u114, u115, u116, u117, u118, u119, u120, u121, u122, u123, u124, u125, u126, u127, u128, u129, u130, u131, u132, u133, u134, u135, u136, u137, u138, u139, u140, u141, u142, u143, u144, u145, u146, u147, u148, u149, u150, u151, u152, u153, u154, u155, u156, u157, u158, u159, u160, u161, u162, u163, u164, u165, u166, u167, u168, u169, u170, u171, u172, u173, u174, u175, u176, u177, u178, u179, u180, u181, u182, u183, u184, u185, u186, u187, u188, u189, u190, u191, u192, u193, u194, u195, u196, u197, u198, u199, u200, u201, u202, u203, u204, u205, u206, u207, u208, u209, u210, u211, u212, u213, u214, u215, u216, u217, u218, u219, u220, u221, u222, u223, u224, u225, u226, u227, u228, u229, u230, u231, u232, u233, u234, u235, u236, u237, u238, u239, u240, u241, u242, u243, u244, u245, u246, u247, u248, u249, u250, u251, u252, u253, u254, u255, u256, u257, u258, u259, u260, u261, u262, u263, u264, u265, u266, u267, u268, u269, u270, u271, u272, u273, u274, u275, u276, u277, u278, u279, u280, u281, u282, u283, u284, u285, u286, u287, u288, u289, u290, u291, u292, u293, u294, u295, u296, u297, u298, u299, u300, u301, u302, u303, u304, u305, u306, u307, u308, u309, u310, u311, u312, u313, u314, u315, u316, u317, u318, u319, u320, u321, u322, u323, u324, u325, u326, u327, u328, u329, u330, u331, u332, u333, u334, u335, u336, u337, u338, u339, u340, u341, u342, u343, u344, u345, u346, u347, u348, u349, u350, u351, u352, u353, u354, u355, u356, u357, u358, u359, u360, u361, u362, u363, u364, u365, u366, u367, u368, u369, u370, u371, u372, u373, u374, u375, u376, u377, u378, u379, u380, u381, u382, u383, u384, u385, u386, u387, u388, u389, u390, u391, u392, u393, u394, u395, u396, u397, u398, u399, u400, u401, u402, u403, u404, u405, u406, u407, u408, u409, u410, u411, u412, u413, u414, u415, u416, u417, u418, u419, u420, u421, u422, u423, u424, u425, u426, u427, u428, u429, u430, u431, u432, u433, u434, u435, u436, u437, u438, u439, u440, u441, u442, u443, u444, u445, u446, u447, u448, u449, u450, u451, u452, u453, u454, u455, u456, u457, u458, u459, u460, u461, u462, u463, u464, u465, u466, u467, u468, u469, u470, u471, u472, u473, u474, u475, u476, u477, u478, u479, u480, u481, u482, u483, u484, u485, u486, u487, u488, u489, u490, u491, u492, u493, u494, u495, u496, u497, u498, u499, u500, u501, u502, u503, u504, u505, u506, u507, u508, u509, u510, u511, u512, u513, u514, u515, u516, u517, u518, u519, u520, u521, u522, u523, u524, u525, u526, u527, u528, u529, u530, u531, u532, u533, u534, u535, u536, u537, u538, u539, u540, u541, u542, u543, u544, u545, u546, u547, u548, u549, u550, u551, u552, u553, u554, u555, u556, u557, u558, u559, u560, u561, u562, u563, u564, u565, u566, u567, u568, u569, u570, u571, u572, u573, u574, u575, u576, u577, u578, u579, u580, u581, u582, u583, u584, u585, u586, u587, u588, u589, u590, u591, u592, u593, u594, u595, u596, u597, u598, u599, u600, u601, u602, u603], []⟩ W := by
  obtain ⟨i0, hi, hz0, hz1, hz2⟩ := info_parts Yba.inf3
  have hpm := H.pm
  have bm := H.bm
  have bn := H.bn
  obtain ⟨n1, HN1⟩ : ∃ n1, Hid (n1 = p + 1) := ⟨_, rfl⟩
  have b1 : n1 ≤ 65537 := by rw [HN1.out]; omega
  have bLo : Lo ≤ 65536 := by have h1 := hLo.out; have h2 := hos.out; rw [h2, iops_len] at h1; have h3 := List.length_filter_le (fun o => acc o.k) lb; have h4 := H.lenB; have h5 : (accs lb).length = (lb.filter fun o => acc o.k).length := rfl; omega
  have hmk : ∀ (k : Nat) (wx : World), k ≤ 65537 → (Instr.makeSlice 41 (.int .i64 (k : Int)) (.int .i64 (k : Int))).run Yba.prog wx = .ok (.slice (some ⟨wx.heap.size, 0, none⟩) k k) (wx.alloc (.cells (madeCells #[.int .i64 0] k) 3)) := fun k wx hk => run_make_row' (P := Yba.prog) 41 3 (.int .i64 0) 8 Yba.underlying41 Yba.inf3 rfl .i64 .i64 k (by omega) (by omega) wx
  obtain ⟨M, HM⟩ : ∃ M, Hid (M = W.heap.size) := ⟨_, rfl⟩
  have hmk1 := hmk Lo W (by omega)
  rw [← HM.out] at hmk1
  have hmk2 := hmk n1 (W.alloc (.cells (madeCells #[.int .i64 0] Lo) 3)) b1
  rw [show (W.alloc (.cells (madeCells #[.int .i64 0] Lo) 3)).heap.size = M + 1 from by rw [HM.out]; simp, show ((n1 : Nat) : Int) = (p : Int) + 1 from by rw [HN1.out]; simp] at hmk2
  have hmk3 := hmk n1 ((W.alloc (.cells (madeCells #[.int .i64 0] Lo) 3)).alloc (.cells (madeCells #[.int .i64 0] n1) 3)) b1
  rw [show ((W.alloc (.cells (madeCells #[.int .i64 0] Lo) 3)).alloc (.cells (madeCells #[.int .i64 0] n1) 3)).heap.size = M + 2 from by rw [HM.out]; simp, show ((n1 : Nat) : Int) = (p : Int) + 1 from by rw [HN1.out]; simp] at hmk3
  clear hmk
  obtain ⟨T, HT⟩ : ∃ T, Hid (T = os.map (·.t)) := ⟨_, rfl⟩
  obtain ⟨I, HI⟩ : ∃ I, Hid (I = os.map (·.x)) := ⟨_, rfl⟩
  rw [← HT.out] at hA
  rw [← HI.out] at hB
  have HA : Hid (At W aA (nats T)) := hA
  have HB : Hid (At W aB (nats I)) := hB
  have HC : Hid (At W aK (ints .u8 (os.map (·.k)))) := hC
  have HH : Hid (LawAt B w0 W g1 g2 n m X p aT la lb xa) := H
  have lT : Hid (T.length = Lo) := by show _ = _; rw [HT.out, List.length_map, hLo.out]
  have lI : Hid (I.length = Lo) := by show _ = _; rw [HI.out, List.length_map, hLo.out]
  clear H hA hB hC
  have h0 : (0 : Int) ≤ p := by omega
  have h1 : (p : Int) ≤ 65536 := by omega
  conv => arg 2; whnf
  go_wp2_with fail
  conv => arg 2; whnf
  go_wp2_with fail
  clear hmk1 hmk2 hmk3
  go_loopw [41, 42, 43, 44, 45, 46] (fun vL vc vt _ _ _ wr => ∃ (t LL cL cn : Nat) (aL : Option Addr), t ≤ p ∧ vt = .int .i64 t ∧ vL = .slice aL LL cL ∧ vc = .int .i64 cn ∧ Hid (cn = cnt T I t) ∧ Hid (LL = (liUp T t 0).length) ∧ Hid (S4 M W (wpUp T I t 0) (psUp T I p t) (stUp T p t) (liUp T t 0) [] (.slice aL LL cL) (.slice none 0 0) wr)) (fun _ _ vt _ _ _ _ => p - (intOf vt).toNat)
  case atStart =>
    refine ⟨0, 0, 0, 0, none, Nat.zero_le _, rfl, rfl, rfl, rfl, rfl, ?_⟩
    have q0 := blk_made W (.int .i64 0) Lo 3
    have q1 := blk_made (W.alloc (.cells (madeCells #[.int .i64 0] Lo) 3)) (.int .i64 0) n1 3
    have q2 := blk_made ((W.alloc (.cells (madeCells #[.int .i64 0] Lo) 3)).alloc (.cells (madeCells #[.int .i64 0] n1) 3)) (.int .i64 0) n1 3
    rw [← nats_zero] at q0 q1 q2
    rw [← HM.out] at q0
    rw [show (W.alloc (.cells (madeCells #[.int .i64 0] Lo) 3)).heap.size = M + 1 from by rw [HM.out]; simp] at q1
    rw [show ((W.alloc (.cells (madeCells #[.int .i64 0] Lo) 3)).alloc (.cells (madeCells #[.int .i64 0] n1) 3)).heap.size = M + 2 from by rw [HM.out]; simp] at q2
    refine ⟨World.ownsRow_nil _ _ _ _, World.ownsRow_nil _ _ _ _, ap_nil _, ?_, ?_, ?_, by rw [HM.out]; simp, ?_⟩
    · rw [wpUp_zero, lT.out]; exact (q0.alloc _).alloc _
    · rw [psUp_zero, ← HN1.out]; exact q1.alloc _
    · rw [stUp_zero, ← HN1.out]; exact q2
    · rw [HM.out]; exact (((Below.refl _ _).alloc (Nat.le_refl _) _).alloc (by simp) _).alloc (by simp; omega) _
  case round =>
    obtain ⟨t, LL, cL, cn, aL, ht, rfl, rfl, rfl, Hcn, HLL, HS⟩ := hrel
    have bcn : cn ≤ 65536 := by have := cnt_le_len T I t; have h2 := Hcn.out; have h3 := lT.out; omega
    have bLL : LL ≤ 65536 := by have := liUp_len T t 0 (Nat.zero_le _); have h2 := HLL.out; have h3 := lT.out; omega
    by_cases hlt : t < p
    · have tn : (t : Int) < (p : Int) := by omega
      have tn1 : (t : Int) < (n1 : Int) := by rw [HN1.out]; omega
      have c1 : wr.cell? ⟨M + 1, t, none⟩ = some (.int .i64 (((psUp T I p t).getD t 0 : Nat) : Int)) := HS.out.b1.cell (nats_at _ _ (by rw [psUp_len]; omega))
      have f1 := HS.out.b1.frozen t
      have c2 : wr.cell? ⟨M + 2, t, none⟩ = some (.int .i64 (((stUp T p t).getD t 0 : Nat) : Int)) := HS.out.b2.cell (nats_at _ _ (by rw [stUp_len]; omega))
      have f2 := HS.out.b2.frozen t
      have hws := HS.out.sz
      have HS1 : Hid (S4 M W (wpUp T I t 0) (psUp T I p (t + 1)) (stUp T p (t + 1)) (liUp T t 0) (seen T I t 0) (.slice aL LL cL) (.slice none 0 0) ((wr.setCell ⟨M + 1, t, none⟩ (.int .i64 (cn : Int))).setCell ⟨M + 2, t, none⟩ (.int .i64 (LL : Int)))) := by
        have := (HS.out.set1 t cn).set2 t LL
        rw [Hcn.out, psUp_step, show LL = start T t from by rw [HLL.out, liUp_zero]; rfl, stUp_step] at this
        rw [Hcn.out, show LL = start T t from by rw [HLL.out, liUp_zero]; rfl]
        exact this
      go_wp2_with fail
      go_loopw [41, 44, 45, 46] (fun vL vS vk _ wr => ∃ (k LL LS cL cS : Nat) (aL aS : Option Addr), k ≤ Lo ∧ vk = .int .i64 k ∧ vL = .slice aL LL cL ∧ vS = .slice aS LS cS ∧ Hid (LL = (liUp T t k).length) ∧ Hid (LS = (seen T I t k).length) ∧ Hid (S4 M W (wpUp T I t k) (psUp T I p (t + 1)) (stUp T p (t + 1)) (liUp T t k) (seen T I t k) (.slice aL LL cL) (.slice aS LS cS) wr)) (fun _ _ vk _ _ => Lo - (intOf vk).toNat)
      case atStart => exact ⟨0, LL, 0, cL, 0, aL, none, Nat.zero_le _, rfl, rfl, rfl, HLL, rfl, HS1⟩
      case round =>
        clear HS HS1 HLL bLL hws c1 c2 f1 f2
        obtain ⟨k, LL, LS, cL, cS, aL, aS, hk, rfl, rfl, rfl, HLL, HLS, HS⟩ := hrel
        have bLL : LL ≤ 65536 := by have := liUp_len T t k (by rw [lT.out]; exact hk); have h2 := HLL.out; have h3 := lT.out; omega
        have bLS : LS ≤ 65536 := by have := seen_len_le T I t k; have h2 := HLS.out; omega
        have hws := HS.out.sz
        by_cases hkl : k < Lo
        · have kn : (k : Int) < (Lo : Int) := by omega
          obtain ⟨gA, rfl, hRA⟩ := HA.out (by rw [nats_len, lT.out]; omega)
          obtain ⟨gB, rfl, hRB⟩ := HB.out (by rw [nats_len, lI.out]; omega)
          have lA : gA < M := by rw [HM.out]; exact hRA.lt
          have lB : gB < M := by rw [HM.out]; exact hRB.lt
          have HRA : Hid (Row W gA (nats T)) := hRA
          have HRB : Hid (Row W gB (nats I)) := hRB
          clear hRA hRB
          obtain ⟨tt, Htt⟩ : ∃ tt, Hid (tt = T.getD k 0) := ⟨_, rfl⟩
          obtain ⟨x, Hx⟩ : ∃ x, Hid (x = I.getD k 0) := ⟨_, rfl⟩
          have cA0 : wr.cell? ⟨gA, k, none⟩ = some (.int .i64 (tt : Int)) := by rw [Htt.out]; exact (HRA.out.below HS.out.bl lA).cell (nats_at _ _ (by rw [lT.out]; exact hkl))
          have cB0 : ∀ w, Below M W w → w.cell? ⟨gB, k, none⟩ = some (.int .i64 (x : Int)) := fun w hb => by rw [Hx.out]; exact (HRB.out.below hb lB).cell (nats_at _ _ (by rw [lI.out]; exact hkl))
          by_cases htt : tt = t
          · subst htt
            have HoL : Hid (wr.ownsRow (M + 3) 3 1 (.slice aL LL cL) LL (nats (liUp T tt k))) := by show World.ownsRow _ _ _ _ _ _ _; have := HS.out.oL; rw [← HLL.out] at this; exact this
            have HL1 : Hid (liUp T tt (k + 1) = liUp T tt k ++ [k]) := liUp_yes T tt k Htt.out.symm
            by_cases hin : x ∈ seen T I tt k
            · have HP := pair_old T I tt k (by rw [lT.out]; exact hkl) Htt.out.symm (by rw [← Hx.out]; exact hin)
              rw [← Hx.out] at HP
              obtain ⟨z, Hz⟩ : ∃ z, Hid (z = (seen T I tt k).idxOf x) := ⟨_, rfl⟩
              have bz : z < LS := by rw [Hz.out, HLS.out]; exact List.idxOf_lt_length_iff.2 hin
              rw [← Hz.out] at HP
              have HP1 : Hid (seen T I tt (k + 1) = seen T I tt k) := HP.1
              have HP2 : Hid (pair T I k = cnt T I tt + z) := HP.2
              have h33 := fun (w : World) (hat : At w aS (nats (seen T I tt k))) => index33 aS LS cS ((seen T I tt k).map fun z : Nat => (z : Int)) (x : Int) w (by rw [List.length_map]; exact HLS.out.symm) (by omega) (by rw [← nats_ints]; exact hat)
              rw [find_nats, if_pos hin, ← Hz.out] at h33
              clear HP hin
              have zneg : ¬ (z : Int) < 0 := by omega
              go_wp2_with (first
                | (at_builtin; refine wpList_append_own_at _ rfl (.tmp 341) (.tmp 343) 41 rfl (M + 3) 3 i0 (.int .i64 0) 1 8 Yba.underlying41 hi hz0 hz1 hz2 rfl (by decide) (.slice aL LL cL) LL (nats (liUp T tt k)) rfl (HoL.out.alloc _) ⟨wr.heap.size, 0, none⟩ 1 1 [.int .i64 (k : Int)] rfl rfl (news1 _ _ rfl _ _) (by intro u hu; simp at hu; subst hu; rfl) (by unfold maxLen; omega) (by omega) (by simp; omega) ?_; intro v1 w1 hO1 hG1 hn1 ha1; obtain ⟨gL, cL', rfl, _⟩ := owns_form hO1 (by omega); have HS1 : Hid (S4 M W (wpUp T I tt k) (psUp T I p (tt + 1)) (stUp T p (tt + 1)) (liUp T tt k ++ [k]) (seen T I tt k) (.slice (some ⟨gL, 0, none⟩) (LL + 1) cL') (.slice aS LS cS) w1) := (HS.out.alloc _).growL (by rw [← HLL.out]; exact hO1) hG1 ha1; have cB1 := cB0 w1 HS1.out.bl; have cM1 : w1.cell? ⟨M, k, none⟩ = some (.int .i64 (((wpUp T I tt k).getD k 0 : Nat) : Int)) := HS1.out.b0.cell (nats_at _ _ (by rw [wpUp_len, lT.out]; exact hkl)); have fM1 := HS1.out.b0.frozen k; clear hO1 hG1 hn1 ha1)
                | (go_at_call 33; refine (h33 _ (at_owned (owns_len HS1.out.oS HLS.out.symm))).mono ?_; rintro e w' ⟨rfl, hw⟩; obtain rfl := hw.symm; clear hw))
              go_roundw
              case rel =>
                refine ⟨k + 1, LL + 1, LS, cL', cS, some ⟨gL, 0, none⟩, aS, by omega, by go_num, rfl, rfl, ?_, ?_, ?_⟩
                · show _ = _
                  rw [HL1.out, List.length_append, ← HLL.out]; rfl
                · show _ = _
                  rw [HP1.out]; exact HLS.out
                · have h := HS1.out.set0 k (cn + z)
                  rw [show ((cn + z : Nat) : Int) = (cn : Int) + (z : Int) from by simp] at h
                  show S4 _ _ _ _ _ _ _ _ _ _
                  rw [HL1.out, HP1.out, ← wpUp_yes T I tt k Htt.out.symm, HP2.out, ← Hcn.out]
                  exact h
              case measure => simp [intOf]; omega
            · have HP := pair_new T I tt k (by rw [lT.out]; exact hkl) Htt.out.symm (by rw [← Hx.out]; exact hin)
              rw [← Hx.out] at HP
              have HP1 : Hid (seen T I tt (k + 1) = seen T I tt k ++ [x]) := HP.1
              have HP2 : Hid (pair T I k = cnt T I tt + LS) := by show _ = _; rw [HLS.out]; exact HP.2
              have h33 := fun (w : World) (hat : At w aS (nats (seen T I tt k))) => index33 aS LS cS ((seen T I tt k).map fun z : Nat => (z : Int)) (x : Int) w (by rw [List.length_map]; exact HLS.out.symm) (by omega) (by rw [← nats_ints]; exact hat)
              rw [find_nats, if_neg hin] at h33
              clear HP hin
              go_wp2_with (first
                | (at_builtin; refine wpList_append_own_at _ rfl (.tmp 341) (.tmp 343) 41 rfl (M + 3) 3 i0 (.int .i64 0) 1 8 Yba.underlying41 hi hz0 hz1 hz2 rfl (by decide) (.slice aL LL cL) LL (nats (liUp T tt k)) rfl (HoL.out.alloc _) ⟨wr.heap.size, 0, none⟩ 1 1 [.int .i64 (k : Int)] rfl rfl (news1 _ _ rfl _ _) (by intro u hu; simp at hu; subst hu; rfl) (by unfold maxLen; omega) (by omega) (by simp; omega) ?_; intro v1 w1 hO1 hG1 hn1 ha1; obtain ⟨gL, cL', rfl, _⟩ := owns_form hO1 (by omega); have HS1 : Hid (S4 M W (wpUp T I tt k) (psUp T I p (tt + 1)) (stUp T p (tt + 1)) (liUp T tt k ++ [k]) (seen T I tt k) (.slice (some ⟨gL, 0, none⟩) (LL + 1) cL') (.slice aS LS cS) w1) := (HS.out.alloc _).growL (by rw [← HLL.out]; exact hO1) hG1 ha1; have cB1 := cB0 w1 HS1.out.bl; have cM1 : w1.cell? ⟨M, k, none⟩ = some (.int .i64 (((wpUp T I tt k).getD k 0 : Nat) : Int)) := HS1.out.b0.cell (nats_at _ _ (by rw [wpUp_len, lT.out]; exact hkl)); have fM1 := HS1.out.b0.frozen k; clear hO1 hG1 hn1 ha1)
                | (go_at_call 33; refine (h33 _ (at_owned (owns_len HS1.out.oS HLS.out.symm))).mono ?_; rintro e w' ⟨rfl, hw⟩; obtain rfl := hw.symm; clear hw; have hsz1 := HS1.out.sz; have HoS : Hid (w1.ownsRow (M + 3) 3 1 (.slice aS LS cS) LS (nats (seen T I tt k))) := owns_len HS1.out.oS HLS.out.symm)
                | (at_builtin; refine wpList_append_own_at _ rfl (.tmp 353) (.tmp 358) 41 rfl (M + 3) 3 i0 (.int .i64 0) 1 8 Yba.underlying41 hi hz0 hz1 hz2 rfl (by decide) (.slice aS LS cS) LS (nats (seen T I tt k)) rfl (HoS.out.alloc _) ⟨w1.heap.size, 0, none⟩ 1 1 [.int .i64 (x : Int)] rfl rfl (news1 _ _ rfl _ _) (by intro u hu; simp at hu; subst hu; rfl) (by unfold maxLen; omega) (by omega) (by simp; omega) ?_; intro v2 w2 hO2 hG2 hn2 ha2; obtain ⟨gS, cS', rfl, _⟩ := owns_form hO2 (by omega); have HS2 : Hid (S4 M W (wpUp T I tt k) (psUp T I p (tt + 1)) (stUp T p (tt + 1)) (liUp T tt k ++ [k]) (seen T I tt k ++ [x]) (.slice (some ⟨gL, 0, none⟩) (LL + 1) cL') (.slice (some ⟨gS, 0, none⟩) (LS + 1) cS') w2) := (HS1.out.alloc _).growS (by rw [← HLS.out]; exact hO2) hG2 ha2; have cM2 : w2.cell? ⟨M, k, none⟩ = some (.int .i64 (((wpUp T I tt k).getD k 0 : Nat) : Int)) := HS2.out.b0.cell (nats_at _ _ (by rw [wpUp_len, lT.out]; exact hkl)); have fM2 := HS2.out.b0.frozen k; have hsz2 := HS2.out.sz; clear hO2 hG2 hn2 ha2 cM1 fM1 cB1))
              go_roundw
              case rel =>
                refine ⟨k + 1, LL + 1, LS + 1, cL', cS', some ⟨gL, 0, none⟩, some ⟨gS, 0, none⟩, by omega, by go_num, rfl, rfl, ?_, ?_, ?_⟩
                · show _ = _
                  rw [HL1.out, List.length_append, ← HLL.out]; rfl
                · show _ = _
                  rw [HP1.out, List.length_append, ← HLS.out]; rfl
                · have h := HS2.out.set0 k (cn + LS)
                  rw [show ((cn + LS : Nat) : Int) = (cn : Int) + (LS : Int) from by simp] at h
                  show S4 _ _ _ _ _ _ _ _ _ _
                  rw [HL1.out, HP1.out, ← wpUp_yes T I tt k Htt.out.symm, HP2.out, ← Hcn.out]
                  exact h
              case measure => simp [intOf]; omega
          · have httI : ¬ (tt : Int) = (t : Int) := by omega
            have hne : T.getD k 0 ≠ t := by rw [← Htt.out]; exact htt
            have HE1 : Hid (liUp T t (k + 1) = liUp T t k) := liUp_no T t k hne
            have HE2 : Hid (seen T I t (k + 1) = seen T I t k) := seen_no T I t k hne
            have HE3 : Hid (wpUp T I t (k + 1) = wpUp T I t k) := wpUp_no T I t k hne
            clear hne
            go_wp2_with fail
            go_roundw
            case rel =>
              refine ⟨k + 1, LL, LS, cL, cS, aL, aS, by omega, by go_num, rfl, rfl, ?_, ?_, ?_⟩
              · rw [HE1.out]; exact HLL
              · rw [HE2.out]; exact HLS
              · rw [HE1.out, HE2.out, HE3.out]; exact HS
            case measure => simp [intOf]; omega
        · have hkn : k = Lo := by omega
          subst hkn
          have kn : ¬ (k : Int) < (k : Int) := by omega
          have HN1' : Hid (liUp T (t + 1) 0 = liUp T t k) := by show _ = _; rw [liUp_next, lT.out]
          have HN2 : Hid (wpUp T I (t + 1) 0 = wpUp T I t k) := by show _ = _; rw [wpUp_next, lT.out]
          have HN3 : Hid (cnt T I (t + 1) = cn + LS) := by show _ = _; rw [cnt_succ, ← Hcn.out, HLS.out, lT.out]
          go_wp2_with fail
          go_roundw
          case rel =>
            refine ⟨t + 1, LL, cL, cn + LS, aL, by omega, by go_num, rfl, by go_num, HN3.out.symm, by rw [HN1'.out]; exact HLL, ?_⟩
            rw [HN1'.out, HN2.out]
            exact HS.out.nilS
          case measure => simp [intOf]; omega
    · have htn : t = p := by omega
      subst htn
      have kn : ¬ (t : Int) < (t : Int) := by omega
      go_upto_region 90 with (fail)
      exact tail90 _ _ _ _ _ _ _ _ _ _ _ _ _ _ _ _ _ _ _ _ _ _ _ _ _ _ _ _ _ _ _ _ _ _ _ _ _ _ _ _ _ _ _ _ _ _ _ _ _ _ _ _ _ _ _ _ _ _ _ _ _ _ _ _ _ _ _ _ _ _ _ _ _ _ _ _ _ _ _ _ _ _ _ _ _ _ _ _ _ _ _ _ _ _ _ _ _ _ _ _ _ _ _ _ _ _ _ _ _ _ _ _ _ _ _ _ _ _ _ _ _ _ _ _ _ _ _ _ _ _ _ _ _ _ _ _ _ _ _ _ _ _ _ _ _ _ _ _ _ _ _ _ _ _ _ _ _ _ _ _ _ _ _ _ _ _ _ _ _ _ _ _ _ _ _ _ _ _ _ _ _ _ _ _ _ _ _ _ _ _ _ _ _ _ _ _ _ _ _ _ _ _ _ _ _ _ _ _ _ _ _ _ _ _ _ _ _ _ _ _ _ _ _ _ _ _ _ _ _ _ _ _ _ _ _ _ _ _ _ _ _ _ _ _ _ _ _ _ _ _ _ _ _ _ _ _ _ _ _ _ _ _ _ _ _ _ _ _ _ _ _ _ _ _ _ _ _ _ _ _ _ _ _ _ _ _ _ _ _ _ _ _ _ _ _ _ _ _ _ _ _ _ _ _ _ _ _ _ _ _ _ _ _ _ _ _ _ _ _ _ _ _ _ _ _ _ _ _ _ _ _ _ _ _ _ _ _ _ _ _ _ _ _ _ _ _ _ _ _ _ _ _ _ _ _ _ _ _ _ _ _ _ _ _ _ _ _ _ _ _ _ _ _ _ _ _ _ _ _ _ _ _ _ _ _ _ _ _ _ _ _ _ _ _ _ _ _ _ _ _ _ _ _ _ _ _ _ _ _ _ _ _ _ _ _ _ _ _ _ _ _ _ _ _ _ _ _ _ _ _ _ _ _ _ _ _ _ _ _ _ _ _ _ _ _ _ _ _ _ _ _ _ _ _ _ _ _ _ _ _ _ _ _ _ _ _ _ _ _ _ _ _ _ _ _ _ _ _ _ _ _ _ _ _ _ _ _ _ _ _ _ _ _ _ _ _ _ _ _ _ _ _ _ _ _ _ _ _ _ _ _ _ _ _ _ _ _ _ _ _ _ _ _ _ _ _ _ _ _ _ _ _ _ _ _ _ _ _ _ _ _ _ _ _ _ _ _ _ _ _ _ _ _ _ _ _ _ _ _ _ _ _ _ _ _ _ _ _ _ _ _ _ _ _ _ _ _ _ _ _ _ _ _ _ _ _ _ _ _ _ _ g1 g2 n m c2 X t cT Lo cA cB cK M n1 LL cL cn B aT aA aB aK aL la lb xa os T I _ _ w0 W _ HH.out hos hLo HT HI HA.out HB.out HC.out HM HN1 Hcn HLL HS _ (by assumption)
end Go.Proofs.Ybulkebqk
