/-
  The law from region 42 on: the accesses gathered; ends and aborts.
-/
import Derived.Test.YbulkebqkCLaw67
namespace Go.Proofs.Ybulkebqk
open Go.RowKit
set_option linter.unusedVariables false
set_option maxRecDepth 100000
set_option maxHeartbeats 3200000 in
theorem tail42 (u0 u1 u2 u3 u4 u5 u6 u7 u8 u9 u10 u13 u14 u15 u16 u17 u18 u19 u21 u23 u26 u27 u28 u29 u30 u31 u32 u33 u34 u35 u36 u37 u38 u39 u40 u41 u42 u43 u44 u45 u46 u47 u48 u49 u50 u51 u52 u53 u54 u55 u56 u57 u58 u59 u60 u61 u62 u63 u64 u65 u66 u67 u68 u69 u70 u71 u72 u73 u74 u75 u76 u77 u78 u79 u80 u81 u82 u83 u84 u85 u86 u87 u88 u89 u90 u91 u92 u93 u94 u95 u96 u97 u98 u99 u100 u101 u102 u103 u104 u105 u106 u107 u108 u109 u110 u111 u112 u113 u114 u115 u116 u117 u118 u119 u120 u121 u122 u123 u124 u125 u126 u127 u128 u129 u130 u131 u132 u133 u134 u135 u136 u137 u138 u139 u140 u141 u142 u143 u144 u145 u146 u147 u148 u149 u150 u151 u152 u153 u154 u155 u156 u157 u158 u159 u160 u161 u162 u163 u164 u165 u166 u167 u168 u169 u170 u171 u172 u173 u174 u175 u176 u177 u178 u179 u180 u181 u182 u183 u184 u185 u186 u187 u188 u189 u190 u191 u192 u193 u194 u195 u196 u197 u198 u199 u200 u201 u202 u203 u204 u205 u206 u207 u208 u209 u210 u211 u212 u213 u214 u215 u216 u217 u218 u219 u220 u221 u222 u223 u224 u225 u226 u227 u228 u229 u230 u231 u232 u233 u234 u235 u236 u237 u238 u239 u240 u241 u242 u243 u244 u245 u246 u247 u248 u249 u250 u251 u252 u253 u254 u255 u256 u257 u258 u259 u260 u261 u262 u263 u264 u265 u266 u267 u268 u269 u270 u271 u272 u273 u274 u275 u276 u277 u278 u279 u280 u281 u282 u283 u284 u285 u286 u287 u288 u289 u290 u291 u292 u293 u294 u295 u296 u297 u298 u299 u300 u301 u302 u303 u304 u305 u306 u307 u308 u309 u310 u311 u312 u313 u314 u315 u316 u317 u318 u319 u320 u321 u322 u323 u324 u325 u326 u327 u328 u329 u330 u331 u332 u333 u334 u335 u336 u337 u338 u339 u340 u341 u342 u343 u344 u345 u346 u347 u348 u349 u350 u351 u352 u353 u354 u355 u356 u357 u358 u359 u360 u361 u362 u363 u364 u365 u366 u367 u368 u369 u370 u371 u372 u373 u374 u375 u376 u377 u378 u379 u380 u381 u382 u383 u384 u385 u386 u387 u388 u389 u390 u391 u392 u393 u394 u395 u396 u397 u398 u399 u400 u401 u402 u403 u404 u405 u406 u407 u408 u409 u410 u411 u412 u413 u414 u415 u416 u417 u418 u419 u420 u421 u422 u423 u424 u425 u426 u427 u428 u429 u430 u431 u432 u433 u434 u435 u436 u437 u438 u439 u440 u441 u442 u443 u444 u445 u446 u447 u448 u449 u450 u451 u452 u453 u454 u455 u456 u457 u458 u459 u460 u461 u462 u463 u464 u465 u466 u467 u468 u469 u470 u471 u472 u473 u474 u475 u476 u477 u478 u479 u480 u481 u482 u483 u484 u485 u486 u487 u488 u489 u490 u491 u492 u493 u494 u495 u496 u497 u498 u499 u500 u501 u502 u503 u504 u505 u506 u507 u508 u509 u510 u511 u512 u513 u514 u515 u516 u517 u518 u519 u520 u521 u522 u523 u524 u525 u526 u527 u528 u529 u530 u531 u532 u533 u534 u535 u536 u537 u538 u539 u540 u541 u542 u543 u544 u545 u546 u547 u548 u549 u550 u551 u552 u553 u554 u555 u556 u557 u558 u559 u560 u561 u562 u563 u564 u565 u566 u567 u568 u569 u570 u571 u572 u573 u574 u575 u576 u577 u578 u579 u580 u581 u582 u583 u584 u585 u586 u587 u588 u589 u590 u591 u592 u593 u594 u595 u596 u597 u598 u599 u600 u601 u602 u603 : Value) (g1 g2 n m c1 c2 X p cT L cI B : Nat) (aT aI : Option Addr) (la lb : List OpV) (xa : List Int) (w0 W : World) (H : LawAt B w0 W g1 g2 n m X p aT la lb xa) (hL : Hid (L = (itemsUp la la.length).length)) (hI : At W aI (strs (itemsUp la la.length))) (K : Act → World → Prop) (hK : ∀ a w, Code.wp Yba.prog (rest4 21) (lawPost B w0) a w → K a w) :
    Code.wp Yba.prog (first (rest4 20)) (Exit.then K (lawPost B w0)) ⟨#[u0, u1, u2, u3, u4, u5, u6, u7, u8, u9, u10, .slice (some ⟨g1, 0, none⟩) n c1, .slice (some ⟨g2, 0, none⟩) m c2, u13, u14, u15, u16, u17, u18, u19, .pointer (some ⟨X, 0, none⟩), u21, .slice aT p cT, u23, .int .i64 p, .slice aI L cI, u26, u27, u28, u29, u30, u31, u32, u33, u34, u35, u36, u37, u38, u39, u40, u41, u42, u43, u44, u45, u46, u47, u48, u49, u50, u51, u52, u53, u54, u55, u56, u57, u58, u59, u60, u61, u62, u63, u64, u65, u66, u67, u68, u69, u70, u71, u72, u73, u74, u75, u76, u77, u78, u79, u80, u81, u82, u83, u84, u85, u86, u87, u88, u89, u90, u91, u92, u93, u94, u95, u96, u97, u98, u99, u100, u101, u102, u103, u104, u105, u106, u107, u108, u109, u110, u111, u112, u113, u114, u115, u116, u117, u118, u119, u120, u121, u122, u123, u124, u125, u126, u127, u128, u129, u130, u131, u132, u133, u134, u135, u136, u137, u138, u139, u140, u141, u142, u143, u144, u145, u146, u147, u148, u149, u150, u151, u152, u153, u154, u155, u156, u157, u158, u159, u160, u161, u162, u163, u164, u165, u166, u167, u168, u169, u170, u171, u172, u173, u174, u175, u176, u177, u178, u179, u180, u181, u182, u183, u184, u185, u186, u187, u188, u189, u190, u191, u192, u193, u194, u195, u196, u197, u198, u199, u200, u201, u202, u203, u204, u205, u206, u207, u208, u209, u210, u211, u212, u213, u214, u215, u216, u217, u218, u219, u220, u221, u222, u223, u224, u225, u226, u227, u228, u229, u230, u231, u232, u233, u234, u235, u236, u237, u238, u239, u240, u241, u242, u243, u244, u245, u246, u247, u248, u249, u250, u251, u252, u253, u254, u255, u256, u257, u258, u259, u260, u261, u262, u263, u264, u265, u266, u267, u268, u269, u270, u271, u272, u273, u274, u275, u276, u277, u278, u279, u280, u281, u282, u283, u284, u285, u286, u287, u288, u289, u290, u291, u292, u293, u294, u295, u296, u297, u298, u299, u300, u301, u302, u303, u304, u305, u306, u307, u308, u309, u310, u311, u312, u313, u314, u315, u316, u317, u318, u319, u320, u321, u322, u323, u324, u325, u326, u327, u328, u329, u330, u331, u332, u333, u334, u335, u336, u337, u338, u339, u340, u341, u342, u343, u344, u345, u346, u347, u348, u349, u350, u351, u352, u353, u354, u355, u356, u357, u358, u359, u360, u361, u362, u363, u364, u365, u366, u367, u368, u369, u370, u371, u372, u373, u374, u375, u376, u377, u378, u379, u380, u381, u382, u383, u384, u385, u386, u387, u388, u389, u390, u391, u392, u393, u394, u395, u396, u397, u398, u399, u400, u401, u402, u403, u404, u405, u406, u407, u408, u409, u410, u411, u412, u413, u414, u415, u416, u417, u418, u419, u420, u421, u422, u423, u424, u425, u426, u427, u428, u429, u430, u431, u432, u433, u434, u435, u436, u437, u438, u439, u440, u441, u442, u443, u444, u445, u446, u447, u448, u449, u450, u451, u452, u453, u454, u455, u456, u457, u458, u459, u460, u461, u462, u463, u464, u465, u466, u467, u468, u469, u470, u471, u472, u473, u474, u475, u476, u477, u478, u479, u480, u481, u482, u483, u484, u485, u486, u487, u488, u489, u490, u491, u492, u493, u494, u495, u496, u497, u498, u499, u500, u501, u502, u503, u504, u505, u506, u507, u508, u509, u510, u511, u512, u513, u514, u515, u516, u517, u518, u519, u520, u521, u522, u523, u524, u525, u526, u527, u528, u529, u530, u531, u532, u533, u534, u535, u536, u537, u538, u539, u540, u541, u542, u543, u544, u545, u546, u547, u548, u549, u550, u551, u552, u553, u554, u555, u556, u557, u558, u559, u560, u561, u562, u563, u564, u565, u566, u567, u568, u569, u570, u571, u572, u573, u574, u575, u576, u577, u578, u579, u580, u581, u582, u583, u584, u585, u586, u587, u588, u589, u590, u591, u592, u593, u594, u595, u596, u597, u598, u599, u600, u601, u602, u603], []⟩ W := by
  obtain ⟨i0, hi, hz0, hz1, hz2⟩ := info_parts Yba.inf3
  obtain ⟨j0, hj, hy0, hy1, hy2⟩ := info_parts Yba.inf62
  have hpm := H.pm
  have bm := H.bm
  have bn := H.bn
  have hmk : ∀ wx : World, (Instr.makeSlice 41 (.int .i64 (p : Int)) (.int .i64 (p : Int))).run Yba.prog wx = .ok (.slice (some ⟨wx.heap.size, 0, none⟩) p p) (wx.alloc (.cells (madeCells #[.int .i64 0] p) 3)) := fun wx => run_make_row' (P := Yba.prog) 41 3 (.int .i64 0) 8 Yba.underlying41 Yba.inf3 rfl .i64 .i64 p (by omega) (by omega) wx
  have hmk2 : ∀ wx : World, (Instr.makeSlice 25 (.int .i64 (p : Int)) (.int .i64 (p : Int))).run Yba.prog wx = .ok (.slice (some ⟨wx.heap.size, 0, none⟩) p p) (wx.alloc (.cells (madeCells #[.bool false] p) 4)) := fun wx => run_make_row' (P := Yba.prog) 25 4 (.bool false) 1 Yba.underlying25 Yba.info4 rfl .i64 .i64 p (by omega) (by omega) wx
  obtain ⟨N, HN⟩ : ∃ N, Hid (N = W.heap.size) := ⟨_, rfl⟩
  have hmk1 := hmk W
  rw [← HN.out] at hmk1
  have hmk3 := hmk2 (W.alloc (.cells (madeCells #[.int .i64 0] p) 3))
  rw [show (W.alloc (.cells (madeCells #[.int .i64 0] p) 3)).heap.size = N + 1 from by rw [HN.out]; simp] at hmk3
  clear hmk hmk2
  have HLb : Hid (lb.length = m) := H.lenB
  have HR : Hid (Row W g2 (opCells lb)) := H.rb
  have hgl : g2 < N := by rw [HN.out]; exact H.rb.lt
  have HH : Hid (LawAt B w0 W g1 g2 n m X p aT la lb xa) := H
  have HI : Hid (At W aI (strs (itemsUp la la.length))) := hI
  obtain ⟨ys, HY⟩ : ∃ ys, Hid (ys = itemsUp la la.length) := ⟨_, rfl⟩
  clear H hI
  conv => arg 2; whnf
  go_wp2_with fail
  conv => arg 2; whnf
  go_wp2_with fail
  clear hmk1 hmk3
  go_loopw [28, 29, 30, 32, 35, 36, 240] (fun vT vI vK vb _ _ i wr => ∃ (q Lq cA cB cK : Nat) (aA aB aK : Option Addr) (Ts Is : List Nat) (Ks : List Int), q ≤ m ∧ i = .int .i64 q ∧ vT = .slice aA Lq cA ∧ vI = .slice aB Lq cB ∧ vK = .slice aK Lq cK ∧ vb = .bool (absUp xa lb q).isSome ∧ Hid (Ts = (iops xa ys (lb.take q)).map (·.t)) ∧ Hid (Is = (iops xa ys (lb.take q)).map (·.x)) ∧ Hid (Ks = (iops xa ys (lb.take q)).map (·.k)) ∧ Hid ((iops xa ys (lb.take q)).length = Lq) ∧ Hid (S2 N W (endsUp xa lb q) (absL xa lb q) Ts Is Ks vT vI vK wr)) (fun _ _ _ _ _ _ i _ => m - (intOf i).toNat)
  case atStart =>
    refine ⟨0, 0, 0, 0, 0, none, none, none, [], [], [], Nat.zero_le _, rfl, rfl, rfl, rfl, rfl, by simp [Hid, iops, accs], by simp [Hid, iops, accs], by simp [Hid, iops, accs], by simp [Hid, iops, accs], ?_⟩
    have h1 := blk_made W (.int .i64 0) p 3
    have h2 := blk_made (W.alloc (.cells (madeCells #[.int .i64 0] p) 3)) (.bool false) p 4
    rw [← nats_zero] at h1
    rw [show (W.alloc (.cells (madeCells #[.int .i64 0] p) 3)).heap.size = N + 1 from by rw [HN.out]; simp] at h2
    refine ⟨World.ownsRow_nil _ _ _ _, World.ownsRow_nil _ _ _ _, World.ownsRow_nil _ _ _ _, ap_nil _, ?_, ?_, by rw [HN.out]; simp, ?_⟩
    · rw [HN.out, show endsUp xa lb 0 = List.replicate p 0 from by rw [endsUp, HH.out.lenX]]; exact h1.alloc _
    · rw [show bools (absL xa lb 0) = List.replicate p (.bool false) from by simp [bools, absL, absUp, HH.out.lenX]]; exact h2
    · rw [HN.out]; exact ((Below.refl _ _).alloc (Nat.le_refl _) _).alloc (by simp) _
  case round =>
    obtain ⟨q, Lq, cA, cB, cK, aA, aB, aK, Ts, Is, Ks, hq, rfl, rfl, rfl, rfl, rfl, HTs, HIs, HKs, HLq, HS⟩ := hrel
    by_cases hlt : q < m
    · obtain ⟨c0, c1, c2⟩ := opCells_at lb q (by rw [HLb.out]; exact hlt)
      have hRr := HR.out.below HS.out.bl hgl
      have d0 := hRr.cell c0
      have d1 := hRr.cell c1
      have d2 := hRr.cell c2
      obtain ⟨o, ho⟩ : ∃ o, o = lb.getD q default := ⟨_, rfl⟩
      rw [← ho] at d0 d1 d2
      have HOo : Hid (o = lb.getD q default) := ho
      have kn : (q : Int) < (m : Int) := by omega
      have hLb' : Lq ≤ 65536 := by have h1 := HLq.out; rw [iops_len] at h1; have := accs_len lb q; omega
      have hws := HS.out.sz
      clear ho c0 c1 c2 hRr
      have hot : o.t ∈ xa := by rw [HOo.out]; exact tx_mem HH.out.tb q (by rw [HLb.out]; exact hlt)
      obtain ⟨tk, HTK⟩ : ∃ tk, Hid (tk = xa.idxOf o.t) := ⟨_, rfl⟩
      have htp : tk < p := by rw [HTK.out, ← HH.out.lenX]; exact List.idxOf_lt_length_iff.2 hot
      have htpI : (tk : Int) < (p : Int) := by omega
      have hf32 : find xa o.t = (tk : Int) := by rw [find, if_pos hot, HTK.out]
      have h32 := fun (w : World) (hb : Below N W w) => cidx32 aT p cT xa o.t w HH.out.lenX (by omega) (HH.out.at'.under hb (by rw [HN.out]; exact Nat.le_refl _))
      have h31 := fun (w : World) (hb : Below N W w) => csidx31 aI L cI ys o.i w (by rw [HY.out]; exact hL.out.symm) (by have := itemsUp_len la la.length; have h2 := HH.out.lenA; have h3 := hL.out; omega) (by rw [HY.out]; exact HI.out.under hb (by rw [HN.out]; exact Nat.le_refl _))
      rw [hf32] at h32
      have HEq : Hid (endsUp xa lb (q + 1) = (endsUp xa lb q).set tk (iops xa ys (lb.take (q + 1))).length) := by show _ = _; rw [endsUp, HTK.out, HOo.out, iops_len]
      have hEl : (endsUp xa lb q).length = p := by rw [endsUp_len]; exact HH.out.lenX
      have HEl : Hid ((endsUp xa lb q).length = p) := hEl
      clear hEl hot hf32
      have s0 := HS.out.alloc (.cells #[.int .u8 o.k, .int .i64 o.t, .string o.i] 64)
      have b0 := blk_new wr [.int .u8 o.k, .int .i64 o.t, .string o.i] 64
      have HS0 : Hid (S2 N W (endsUp xa lb q) (absL xa lb q) Ts Is Ks (.slice aA Lq cA) (.slice aB Lq cB) (.slice aK Lq cK) (wr.alloc (.cells #[.int .u8 o.k, .int .i64 o.t, .string o.i] 64))) := s0
      have HB0 : Hid (Blk (wr.alloc (.cells #[.int .u8 o.k, .int .i64 o.t, .string o.i] 64)) wr.heap.size 64 [.int .u8 o.k, .int .i64 o.t, .string o.i]) := b0
      have lTs : Hid (Ts.length = Lq) := by show _ = _; rw [HTs.out, List.length_map, HLq.out]
      have lIs : Hid (Is.length = Lq) := by show _ = _; rw [HIs.out, List.length_map, HLq.out]
      have lKs : Hid (Ks.length = Lq) := by show _ = _; rw [HKs.out, List.length_map, HLq.out]
      clear s0 b0
      cases hac : acc o.k with
      | true =>
        have hk3 : ¬ o.k = 3 := by intro e; rw [e] at hac; cases hac
        have hmem : o.i ∈ ys := by rw [HY.out, HOo.out]; exact items_like HH.out.tb HH.out.same _ (accs_mem q (by rw [HLb.out]; exact hlt) (by rw [← HOo.out]; exact hac))
        obtain ⟨xk, HXK⟩ : ∃ xk, Hid (xk = plc ys o.i) := ⟨_, rfl⟩
        rw [find_plc hmem, ← HXK.out] at h31
        have HI1 : Hid (iops xa ys (lb.take (q + 1)) = iops xa ys (lb.take q) ++ [⟨o.k, tk, xk, 0⟩]) := by show _ = _; rw [iops_yes xa ys lb q (by rw [HLb.out]; exact hlt) (by rw [← HOo.out]; exact hac), ← HOo.out, iop, HTK.out, HXK.out]
        have hoT : (wr.alloc (.cells #[.int .u8 o.k, .int .i64 o.t, .string o.i] 64)).ownsRow (N + 2) 3 1 (.slice aA Lq cA) Lq (nats Ts) := by have := HS0.out.oT; rw [lTs.out] at this; exact this
        have HoT : Hid ((wr.alloc (.cells #[.int .u8 o.k, .int .i64 o.t, .string o.i] 64)).ownsRow (N + 2) 3 1 (.slice aA Lq cA) Lq (nats Ts)) := hoT
        clear hoT hmem
        go_wp2_with (first
          | (go_at_call 32; refine (h32 _ HS0.out.bl).mono ?_; rintro e w' ⟨rfl, rfl⟩)
          | (go_at_call 30; refine (acc30 o.k _).mono ?_; rw [hac]; rintro e w' ⟨rfl, rfl⟩)
          | (at_builtin; refine wpList_append_own_at _ rfl (.tmp 257) (.tmp 259) 41 rfl (N + 2) 3 i0 (.int .i64 0) 1 8 Yba.underlying41 hi hz0 hz1 hz2 rfl (by decide) (.slice aA Lq cA) Lq (nats Ts) rfl (HoT.out.alloc _) ⟨wr.heap.size + 1, 0, none⟩ 1 1 [.int .i64 (tk : Int)] rfl rfl (news1 _ _ (by simp) _ _) (by intro u hu; simp at hu; subst hu; rfl) (by unfold maxLen; omega) (by omega) (by simp; omega) ?_; intro v1 w1 hO1 hG1 hn1 ha1; obtain ⟨gA, cA', rfl, _⟩ := owns_form hO1 (by omega); have HS1 : Hid (S2 N W (endsUp xa lb q) (absL xa lb q) (Ts ++ [tk]) Is Ks (.slice (some ⟨gA, 0, none⟩) (Lq + 1) cA') (.slice aB Lq cB) (.slice aK Lq cK) w1) := (HS0.out.alloc _).growT (by rw [lTs.out]; exact hO1) hG1 ha1; have HB1 : Hid (Blk w1 wr.heap.size 64 [.int .u8 o.k, .int .i64 o.t, .string o.i]) := (HB0.out.alloc (.cells #[.int .i64 (tk : Int)] 3)).grown hG1 ((HB0.out.alloc (.cells #[.int .i64 (tk : Int)] 3)).not_own (HoT.out.alloc (.cells #[.int .i64 (tk : Int)] 3)) (by decide)); have e0 : w1.cell? ⟨wr.heap.size, 0, none⟩ = some (.int .u8 o.k) := HB1.out.cell rfl; have e1 : w1.cell? ⟨wr.heap.size, 1, none⟩ = some (.int .i64 o.t) := HB1.out.cell rfl; have e2 : w1.cell? ⟨wr.heap.size, 2, none⟩ = some (.string o.i) := HB1.out.cell rfl; have hz1' := HS1.out.sz; have HoI : Hid (w1.ownsRow (N + 2) 3 1 (.slice aB Lq cB) Lq (nats Is)) := owns_len HS1.out.oI lIs.out; clear hO1 hG1 hn1 ha1)
          | (go_at_call 31; refine (h31 _ HS1.out.bl).mono ?_; rintro e w' ⟨rfl, hw⟩; obtain rfl := hw.symm; clear hw)
          | (at_builtin; refine wpList_append_own_at _ rfl (.tmp 261) (.tmp 266) 41 rfl (N + 2) 3 i0 (.int .i64 0) 1 8 Yba.underlying41 hi hz0 hz1 hz2 rfl (by decide) (.slice aB Lq cB) Lq (nats Is) rfl (HoI.out.alloc _) ⟨w1.heap.size, 0, none⟩ 1 1 [.int .i64 (xk : Int)] rfl rfl (news1 _ _ rfl _ _) (by intro u hu; simp at hu; subst hu; rfl) (by unfold maxLen; omega) (by omega) (by simp; omega) ?_; intro v2 w2 hO2 hG2 hn2 ha2; obtain ⟨gB, cB', rfl, _⟩ := owns_form hO2 (by omega); have HS2 : Hid (S2 N W (endsUp xa lb q) (absL xa lb q) (Ts ++ [tk]) (Is ++ [xk]) Ks (.slice (some ⟨gA, 0, none⟩) (Lq + 1) cA') (.slice (some ⟨gB, 0, none⟩) (Lq + 1) cB') (.slice aK Lq cK) w2) := (HS1.out.alloc _).growI (by rw [lIs.out]; exact hO2) hG2 ha2; have HB2 : Hid (Blk w2 wr.heap.size 64 [.int .u8 o.k, .int .i64 o.t, .string o.i]) := (HB1.out.alloc (.cells #[.int .i64 (xk : Int)] 3)).grown hG2 ((HB1.out.alloc (.cells #[.int .i64 (xk : Int)] 3)).not_own (HoI.out.alloc (.cells #[.int .i64 (xk : Int)] 3)) (by decide)); have e0' : w2.cell? ⟨wr.heap.size, 0, none⟩ = some (.int .u8 o.k) := HB2.out.cell rfl; have hz2' := HS2.out.sz; have HoK : Hid (w2.ownsRow (N + 2) 62 1 (.slice aK Lq cK) Lq (ints .u8 Ks)) := owns_len HS2.out.oK lKs.out; clear hO2 hG2 hn2 ha2 e0 e1 e2)
          | (at_builtin; refine wpList_append_own_at _ rfl (.tmp 268) (.tmp 271) 91 rfl (N + 2) 62 j0 (.int .u8 0) 1 1 Yba.und91 hj hy0 hy1 hy2 rfl (by decide) (.slice aK Lq cK) Lq (ints .u8 Ks) rfl (HoK.out.alloc _) ⟨w2.heap.size, 0, none⟩ 1 1 [.int .u8 o.k] rfl rfl (news1 _ _ rfl _ _) (by intro u hu; simp at hu; subst hu; rfl) (by unfold maxLen; omega) (by omega) (by simp; omega) ?_; intro v3 w3 hO3 hG3 hn3 ha3; obtain ⟨gK, cK', rfl, _⟩ := owns_form hO3 (by omega); have HS3 : Hid (S2 N W (endsUp xa lb q) (absL xa lb q) (Ts ++ [tk]) (Is ++ [xk]) (Ks ++ [o.k]) (.slice (some ⟨gA, 0, none⟩) (Lq + 1) cA') (.slice (some ⟨gB, 0, none⟩) (Lq + 1) cB') (.slice (some ⟨gK, 0, none⟩) (Lq + 1) cK') w3) := (HS2.out.alloc _).growK (by rw [lKs.out]; exact hO3) hG3; have cE : w3.cell? ⟨N, tk, none⟩ = some (.int .i64 (((endsUp xa lb q).getD tk 0 : Nat) : Int)) := HS3.out.be.cell (nats_at _ _ (by rw [HEl.out]; exact htp)); have fE := HS3.out.be.frozen tk; have hz3' := HS3.out.sz; clear hO3 hG3 hn3 ha3 e0'))
        go_roundw
        case rel =>
          obtain ⟨hab1, hab2⟩ := absL_no xa lb q (by rw [← HOo.out]; exact hk3)
          refine ⟨q + 1, Lq + 1, cA', cB', cK', some ⟨gA, 0, none⟩, some ⟨gB, 0, none⟩, some ⟨gK, 0, none⟩, Ts ++ [tk], Is ++ [xk], Ks ++ [o.k], by omega, by go_num, rfl, rfl, rfl, by rw [hab2], ?_, ?_, ?_, ?_, ?_⟩
          · show _ = _
            rw [HI1.out, List.map_append, ← HTs.out]; rfl
          · show _ = _
            rw [HI1.out, List.map_append, ← HIs.out]; rfl
          · show _ = _
            rw [HI1.out, List.map_append, ← HKs.out]; rfl
          · show _ = _
            rw [HI1.out, List.length_append, HLq.out]; rfl
          · have h := HS3.out.setE tk (Lq + 1)
            rw [show ((Lq + 1 : Nat) : Int) = (Lq : Int) + 1 from by simp] at h
            show S2 _ _ _ _ _ _ _ _ _ _ _
            rw [HEq.out, HI1.out, List.length_append, HLq.out, hab1]; exact h
        case measure => simp [intOf]; omega
      | false =>
        have HI1 : Hid (iops xa ys (lb.take (q + 1)) = iops xa ys (lb.take q)) := iops_no xa ys lb q (by rw [HLb.out]; exact hlt) (by rw [← HOo.out]; exact hac)
        clear h31
        by_cases hk3 : o.k = 3
        · rw [hk3] at HS0 HB0 hac d0
          have HK3 : Hid (o.k = 3) := hk3
          clear hk3
          have cB0 : (wr.alloc (.cells #[.int .u8 3, .int .i64 o.t, .string o.i] 64)).cell? ⟨N + 1, tk, none⟩ = some (.bool ((absL xa lb q).getD tk false)) := HS0.out.bb.cell (bools_get _ _ (by rw [absL_len, HH.out.lenX]; exact htp))
          have fB0 := HS0.out.bb.frozen tk
          obtain ⟨w1, hw1⟩ : ∃ w1, w1 = (wr.alloc (.cells #[.int .u8 3, .int .i64 o.t, .string o.i] 64)).setCell ⟨N + 1, tk, none⟩ (.bool true) := ⟨_, rfl⟩
          have HS1 : Hid (S2 N W (endsUp xa lb q) ((absL xa lb q).set tk true) Ts Is Ks (.slice aA Lq cA) (.slice aB Lq cB) (.slice aK Lq cK) w1) := by rw [hw1]; exact HS0.out.setB tk true
          have HB1 : Hid (Blk w1 wr.heap.size 64 [.int .u8 3, .int .i64 o.t, .string o.i]) := by rw [hw1]; exact HB0.out.other _ _ (by show wr.heap.size ≠ N + 1; omega)
          have e0 : w1.cell? ⟨wr.heap.size, 0, none⟩ = some (.int .u8 3) := HB1.out.cell rfl
          have cE : w1.cell? ⟨N, tk, none⟩ = some (.int .i64 (((endsUp xa lb q).getD tk 0 : Nat) : Int)) := HS1.out.be.cell (nats_at _ _ (by rw [HEl.out]; exact htp))
          have fE := HS1.out.be.frozen tk
          have hz1' := HS1.out.sz
          have HW1 : Hid (w1 = (wr.alloc (.cells #[.int .u8 3, .int .i64 o.t, .string o.i] 64)).setCell ⟨N + 1, tk, none⟩ (.bool true)) := hw1
          clear hw1
          go_upto_region 54 with (go_at_call 32; refine (h32 _ HS0.out.bl).mono ?_; rintro e w' ⟨rfl, rfl⟩)
          rw [← HW1.out]
          clear cB0 fB0
          go_wp2_with (go_at_call 30; refine (acc30 3 _).mono ?_; rw [hac]; rintro e w' ⟨rfl, hw⟩; obtain rfl := hw.symm; clear hw)
          go_roundw
          case rel =>
            obtain ⟨hab1, hab2⟩ := absL_yes xa lb q (by rw [← HOo.out]; exact HK3.out)
            rw [← HOo.out, ← HTK.out] at hab1
            refine ⟨q + 1, Lq, cA, cB, cK, aA, aB, aK, Ts, Is, Ks, by omega, by go_num, rfl, rfl, rfl, by rw [hab2], by rw [HI1.out]; exact HTs, by rw [HI1.out]; exact HIs, by rw [HI1.out]; exact HKs, by rw [HI1.out]; exact HLq, ?_⟩
            have h := HS1.out.setE tk Lq
            show S2 _ _ _ _ _ _ _ _ _ _ _
            rw [HEq.out, HI1.out, HLq.out, hab1]; exact h
          case measure => simp [intOf]; omega
        · have cE : (wr.alloc (.cells #[.int .u8 o.k, .int .i64 o.t, .string o.i] 64)).cell? ⟨N, tk, none⟩ = some (.int .i64 (((endsUp xa lb q).getD tk 0 : Nat) : Int)) := HS0.out.be.cell (nats_at _ _ (by rw [HEl.out]; exact htp))
          have fE := HS0.out.be.frozen tk
          go_wp2_with (first
            | (go_at_call 32; refine (h32 _ HS0.out.bl).mono ?_; rintro e w' ⟨rfl, rfl⟩)
            | (go_at_call 30; refine (acc30 o.k _).mono ?_; rw [hac]; rintro e w' ⟨rfl, rfl⟩))
          go_roundw
          case rel =>
            obtain ⟨hab1, hab2⟩ := absL_no xa lb q (by rw [← HOo.out]; exact hk3)
            refine ⟨q + 1, Lq, cA, cB, cK, aA, aB, aK, Ts, Is, Ks, by omega, by go_num, rfl, rfl, rfl, by rw [hab2], by rw [HI1.out]; exact HTs, by rw [HI1.out]; exact HIs, by rw [HI1.out]; exact HKs, by rw [HI1.out]; exact HLq, ?_⟩
            have h := HS0.out.setE tk Lq
            show S2 _ _ _ _ _ _ _ _ _ _ _
            rw [HEq.out, HI1.out, HLq.out, hab1]; exact h
          case measure => simp [intOf]; omega
    · have hqm : q = m := by omega
      subst hqm
      have kn : ¬ (q : Int) < (q : Int) := by omega
      have HN' : Hid (LawAt B w0 wr g1 g2 n q X p aT la lb xa) := HH.out.next (by rw [← HN.out]; exact HS.out.bl)
      obtain ⟨gT, cT', k1, G, cO, Sg, Lg, ml, Pg, E, n1, a1, abv, t9, t10, t11, os, T, I, hos, hT, hI, hn1, hX, hRT, hA1, hG, hml, hSg, hLg, hPg, hE, hAb, hNum⟩ := HN'.out.ix
      rw [HLb.out] at hE hAb
      rw [HN'.out.lenX] at hX hAb
      have hx7 : wr.cell? ⟨X, 7, none⟩ = some (.slice (some ⟨E, 0, none⟩) p p) := hX.cell rfl
      have hx8 : wr.cell? ⟨X, 8, none⟩ = some abv := hX.cell rfl
      have lX : X < wr.heap.size := hX.lt
      have he1 := equal24 (some ⟨E, 0, none⟩) (some ⟨N, 0, none⟩) p p p p ((endsUp xa lb q).map fun z : Nat => (z : Int)) ((endsUp xa lb q).map fun z : Nat => (z : Int)) wr (by rw [List.length_map, endsUp_len]; exact HN'.out.lenX) (by rw [List.length_map, endsUp_len]; exact HN'.out.lenX) (by omega) (fun _ => ⟨E, rfl, by rw [← nats_ints]; exact hE⟩) (fun _ => ⟨N, rfl, by rw [← nats_ints]; exact HS.out.be.row⟩)
      simp only [decide_true] at he1
      have HI0 : Hid (iops xa ys (lb.take q) = iops xa (itemsUp la la.length) lb) := by show _ = _; rw [← HLb.out, List.take_length, HY.out]
      have hAT : At wr aA (nats ((iops xa (itemsUp la la.length) lb).map (·.t))) := by rw [← HI0.out, ← HTs.out]; exact at_owned (owns_len HS.out.oT (by rw [HTs.out, List.length_map, HLq.out]))
      have hAI : At wr aB (nats ((iops xa (itemsUp la la.length) lb).map (·.x))) := by rw [← HI0.out, ← HIs.out]; exact at_owned (owns_len HS.out.oI (by rw [HIs.out, List.length_map, HLq.out]))
      have hAK : At wr aK (ints .u8 ((iops xa (itemsUp la la.length) lb).map (·.k))) := by rw [← HI0.out, ← HKs.out]; exact at_owned (owns_len HS.out.oK (by rw [HKs.out, List.length_map, HLq.out]))
      have HF : Hid (At wr aA (nats ((iops xa (itemsUp la la.length) lb).map (·.t))) ∧ At wr aB (nats ((iops xa (itemsUp la la.length) lb).map (·.x))) ∧ At wr aK (ints .u8 ((iops xa (itemsUp la la.length) lb).map (·.k)))) := ⟨hAT, hAI, hAK⟩
      have HL0 : Hid ((iops xa (itemsUp la la.length) lb).length = Lq) := by show _ = _; rw [← HI0.out]; exact HLq.out
      clear hos hT hI hn1 hX hRT hA1 hG hml hSg hLg hPg hE hNum hAT hAI hAK
      cases hab : absUp xa lb q with
      | none =>
        rw [hab] at hAb
        have hAb' : abv = .slice none 0 0 := hAb
        subst hAb'
        have q1 : ∀ w : World, (binOp .neq 25 (.slice none 0 0) (.slice none 0 0)).run Yba.prog w = .ok (.bool false) w := fun w => run_neq_slice_nil_any w _ _ _ _ _ _ _ Yba.underlying25
        have HAB : Hid (absUp xa lb q = none) := hab
        clear hab hAb
        go_wp2_with fail
        refine he1.mono ?_
        clear he1
        rintro e w' ⟨rfl, d1, rfl⟩
        go_upto_region 67 with (fail)
        have hBd : Below wr.heap.size wr (wr.drewN d1) := below_drewN (Below.refl _ _) _
        exact tail67 _ _ _ _ _ _ _ _ _ _ _ _ _ _ _ _ _ _ _ _ _ _ _ _ _ _ _ _ _ _ _ _ _ _ _ _ _ _ _ _ _ _ _ _ _ _ _ _ _ _ _ _ _ _ _ _ _ _ _ _ _ _ _ _ _ _ _ _ _ _ _ _ _ _ _ _ _ _ _ _ _ _ _ _ _ _ _ _ _ _ _ _ _ _ _ _ _ _ _ _ _ _ _ _ _ _ _ _ _ _ _ _ _ _ _ _ _ _ _ _ _ _ _ _ _ _ _ _ _ _ _ _ _ _ _ _ _ _ _ _ _ _ _ _ _ _ _ _ _ _ _ _ _ _ _ _ _ _ _ _ _ _ _ _ _ _ _ _ _ _ _ _ _ _ _ _ _ _ _ _ _ _ _ _ _ _ _ _ _ _ _ _ _ _ _ _ _ _ _ _ _ _ _ _ _ _ _ _ _ _ _ _ _ _ _ _ _ _ _ _ _ _ _ _ _ _ _ _ _ _ _ _ _ _ _ _ _ _ _ _ _ _ _ _ _ _ _ _ _ _ _ _ _ _ _ _ _ _ _ _ _ _ _ _ _ _ _ _ _ _ _ _ _ _ _ _ _ _ _ _ _ _ _ _ _ _ _ _ _ _ _ _ _ _ _ _ _ _ _ _ _ _ _ _ _ _ _ _ _ _ _ _ _ _ _ _ _ _ _ _ _ _ _ _ _ _ _ _ _ _ _ _ _ _ _ _ _ _ _ _ _ _ _ _ _ _ _ _ _ _ _ _ _ _ _ _ _ _ _ _ _ _ _ _ _ _ _ _ _ _ _ _ _ _ _ _ _ _ _ _ _ _ _ _ _ _ _ _ _ _ _ _ _ _ _ _ _ _ _ _ _ _ _ _ _ _ _ _ _ _ _ _ _ _ _ _ _ _ _ _ _ _ _ _ _ _ _ _ _ _ _ _ _ _ _ _ _ _ _ _ _ _ _ _ _ _ _ _ _ _ _ _ _ _ _ _ _ _ _ _ _ _ _ _ _ _ _ _ _ _ _ _ _ _ _ _ _ _ _ _ _ _ _ _ _ _ _ _ _ _ _ _ _ _ _ _ _ _ _ _ _ _ _ _ _ _ _ _ _ _ _ _ _ _ _ _ _ _ _ _ _ _ _ _ _ _ _ _ _ _ _ _ _ _ _ _ _ _ _ _ _ _ _ _ _ _ _ _ _ _ _ _ _ _ _ _ _ _ _ _ _ _ _ _ _ _ _ _ _ _ _ _ _ _ _ _ _ _ _ _ _ _ _ _ _ _ _ _ _ _ _ _ _ _ _ _ _ g1 g2 n q c2 X p cT Lq cA cB cK B aT aA aB aK la lb xa _ w0 _ (HN'.out.next hBd) rfl HL0 (HF.out.1.below hBd) (HF.out.2.1.below hBd) (HF.out.2.2.below hBd) _ (by assumption)
      | some bs =>
        have hbl := absUp_len xa lb q bs hab
        rw [hab] at hAb
        obtain ⟨gb, hAb1, _, hAb2⟩ := hAb
        subst hAb1
        have q1 : ∀ w : World, (binOp .eql 25 (.slice (some ⟨gb, 0, none⟩) p p) (.slice none 0 0)).run Yba.prog w = .ok (.bool false) w := fun w => Lib.run_eql_slice_nil w _ _ _ _ _ _ _ Yba.underlying25
        have hbb : absL xa lb q = bs := by rw [absL, hab]; rfl
        have hBB : Blk wr (N + 1) 4 (bools bs) := by rw [← hbb]; exact HS.out.bb
        have hbp : bs.length = p := by rw [hbl]; exact HN'.out.lenX
        have he2 := fun d => equal13_some gb 0 (N + 1) 0 p p p (fun i => bs.getD i false) (wr.drewN d) (by omega) (fun i hi => by rw [Nat.zero_add]; exact (hAb2.drewN d).cell (bools_get bs i (by omega))) (fun i hi => by rw [Nat.zero_add]; exact (hBB.drewN d).cell (bools_get bs i (by omega)))
        have HAB : Hid (absUp xa lb q = some bs) := hab
        clear hab hAb2 hbb hBB hbp hbl
        go_wp2_with fail
        refine he1.mono ?_
        clear he1
        rintro e w' ⟨rfl, d1, rfl⟩
        go_wp2_with fail
        refine (he2 _).mono ?_
        clear he2
        rintro e w' ⟨rfl, d2, rfl⟩
        go_upto_region 67 with (fail)
        have hBd : Below wr.heap.size wr (wr.drewN (d1 + d2)) := below_drewN (Below.refl _ _) _
        exact tail67 _ _ _ _ _ _ _ _ _ _ _ _ _ _ _ _ _ _ _ _ _ _ _ _ _ _ _ _ _ _ _ _ _ _ _ _ _ _ _ _ _ _ _ _ _ _ _ _ _ _ _ _ _ _ _ _ _ _ _ _ _ _ _ _ _ _ _ _ _ _ _ _ _ _ _ _ _ _ _ _ _ _ _ _ _ _ _ _ _ _ _ _ _ _ _ _ _ _ _ _ _ _ _ _ _ _ _ _ _ _ _ _ _ _ _ _ _ _ _ _ _ _ _ _ _ _ _ _ _ _ _ _ _ _ _ _ _ _ _ _ _ _ _ _ _ _ _ _ _ _ _ _ _ _ _ _ _ _ _ _ _ _ _ _ _ _ _ _ _ _ _ _ _ _ _ _ _ _ _ _ _ _ _ _ _ _ _ _ _ _ _ _ _ _ _ _ _ _ _ _ _ _ _ _ _ _ _ _ _ _ _ _ _ _ _ _ _ _ _ _ _ _ _ _ _ _ _ _ _ _ _ _ _ _ _ _ _ _ _ _ _ _ _ _ _ _ _ _ _ _ _ _ _ _ _ _ _ _ _ _ _ _ _ _ _ _ _ _ _ _ _ _ _ _ _ _ _ _ _ _ _ _ _ _ _ _ _ _ _ _ _ _ _ _ _ _ _ _ _ _ _ _ _ _ _ _ _ _ _ _ _ _ _ _ _ _ _ _ _ _ _ _ _ _ _ _ _ _ _ _ _ _ _ _ _ _ _ _ _ _ _ _ _ _ _ _ _ _ _ _ _ _ _ _ _ _ _ _ _ _ _ _ _ _ _ _ _ _ _ _ _ _ _ _ _ _ _ _ _ _ _ _ _ _ _ _ _ _ _ _ _ _ _ _ _ _ _ _ _ _ _ _ _ _ _ _ _ _ _ _ _ _ _ _ _ _ _ _ _ _ _ _ _ _ _ _ _ _ _ _ _ _ _ _ _ _ _ _ _ _ _ _ _ _ _ _ _ _ _ _ _ _ _ _ _ _ _ _ _ _ _ _ _ _ _ _ _ _ _ _ _ _ _ _ _ _ _ _ _ _ _ _ _ _ _ _ _ _ _ _ _ _ _ _ _ _ _ _ _ _ _ _ _ _ _ _ _ _ _ _ _ _ _ _ _ _ _ _ _ _ _ _ _ _ _ _ _ _ _ _ _ _ _ _ _ _ _ _ _ _ _ _ _ _ _ _ _ _ _ _ _ _ _ _ _ _ _ _ _ _ _ _ _ _ _ _ _ _ _ _ _ _ _ _ _ _ _ _ _ _ _ _ _ _ _ _ _ _ _ _ _ _ _ _ _ _ _ g1 g2 n q c2 X p cT Lq cA cB cK B aT aA aB aK la lb xa _ w0 _ (HN'.out.next hBd) rfl HL0 (HF.out.1.below hBd) (HF.out.2.1.below hBd) (HF.out.2.2.below hBd) _ (by assumption)
end Go.Proofs.Ybulkebqk
