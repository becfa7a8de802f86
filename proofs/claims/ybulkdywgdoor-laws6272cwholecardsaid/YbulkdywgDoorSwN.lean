/-
  Seat b6272aD: the law's switch at a stamp, for a new key.
-/
import Derived.Test.YbulkdywgDoorSwSt
namespace Go.Proofs.YbulkdywgDoor
open Go.RowKit
set_option linter.unusedVariables false

set_option maxHeartbeats 4000000 in
set_option maxRecDepth 100000 in
theorem sw_stampN {u0 u1 u2 u3 u4 u6 u7 u8 u9 u11 u12 u13 u14 u15 u16 u17 u18 u19 u20 u21 u22 u23 u24 u25 u39 u40 u41 u42 u43 u44 u45 u46 u47 u48 u49 u50 u51 u52 u53 u54 u55 u56 u57 u58 u59 u60 u61 u62 u63 u64 u65 u66 u67 u68 u69 u70 u71 u72 u73 u74 u75 u76 u77 u78 u79 u80 u81 u82 u83 u84 u85 u86 u87 u88 u89 u90 u91 u92 u93 u94 u95 u96 u97 u98 u99 u100 u101 u102 u103 u104 u105 u106 u107 u108 u109 u110 u111 u112 u113 u114 u115 u116 u117 u118 u119 u120 u121 u122 u123 u124 u125 u126 u127 u128 u129 u130 u131 u132 u133 u134 u135 u136 u137 u138 u139 u140 u141 u142 u143 u144 u145 u146 u147 u148 u149 u150 u151 u152 u153 u154 u155 u156 u157 u158 u159 u160 u161 u162 u163 u164 u165 u166 u167 u168 u169 u170 u171 u172 u173 u174 u175 u176 u177 u178 u179 u180 u181 u182 u183 u184 u185 u186 u187 u188 u189 u190 u191 u192 u193 u194 u195 u196 u197 u198 u199 u200 u201 u202 u203 u204 u205 u206 u207 u208 u209 u210 u211 u212 u213 u214 u215 u216 u217 u218 u219 u220 u221 u222 u223 u224 u225 u226 u227 u228 u229 u230 u231 u232 u233 u234 u235 u236 u237 u238 u239 u240 u241 u242 u243 u244 u245 u246 u247 u248 u249 u250 u251 u252 u253 u254 u255 u256 u257 u258 u259 u260 u261 u262 u263 u264 u265 u266 u267 u268 u269 u270 u271 u272 u273 u274 u275 u276 u277 u278 u279 u280 u281 u282 u283 u284 u285 u286 u287 u288 u289 u290 u291 u292 u293 u294 u295 u296 u297 u298 u299 u300 u301 u302 u303 u304 u305 u306 u307 u308 u309 u310 u311 u312 u313 u314 u315 u316 u317 u318 u319 u320 u321 u322 u323 u324 u325 u326 u327 u328 u329 u330 u331 u332 u333 u334 u335 u336 u337 u338 u339 u340 u341 u342 u343 u344 u345 u346 u347 u348 u349 u350 u351 u352 u353 u354 u355 u356 u357 u358 u359 u360 u361 u362 u363 u364 u365 u366 u367 u368 u369 u370 u371 u372 u373 u374 u375 u376 u377 u378 u379 u380 u381 u382 u383 u384 u385 u386 u387 u388 u389 u390 u391 u392 u393 u394 u395 u396 u397 u398 u399 u400 u401 u402 u403 u404 u405 u406 u407 u408 u409 u410 u411 u412 u413 u414 u415 u416 u417 u418 u419 u420 u421 u422 u423 u424 u425 u426 u427 u428 u429 u430 u431 u432 u433 u434 u435 u436 u437 u438 u439 u440 u441 u442 u443 u444 u445 u446 u447 u448 u449 u450 u451 u452 u453 u454 u455 u456 u457 u458 u459 u460 u461 u462 u463 u464 u465 u466 u467 u468 u469 u470 u471 u472 u473 u474 u475 u476 u477 u478 u479 u480 u481 u482 u483 u484 u485 u486 u487 u488 u489 u490 u491 u492 u493 u494 u495 u496 u497 u498 u499 u500 u501 u502 u503 u504 u505 u506 u507 u508 u509 u510 u511 u512 u513 u514 u515 u516 u517 u518 u519 u520 u521 u522 u523 u524 u525 u526 u527 u528 u529 u530 u531 u532 u533 u534 u535 u536 u537 u538 u539 u540 u541 u542 u543 u544 u545 u546 u547 u548 u549 u550 u551 u552 u553 u554 u555 u556 u557 u558 u559 u560 u561 u562 u563 u564 u565 u566 u567 u568 u569 u570 u571 u572 u573 u574 u575 u576 u577 u578 u579 u580 u581 u582 u583 u584 u585 u586 u587 u588 u589 u590 u591 u592 u593 u594 u595 u596 u597 u598 u599 u600 u601 u602 u603 u604 u605 u606 u607 u608 u609 u610 u611 u612 u613 u614 u615 u616 u617 u618 u619 u620 u621 u622 u623 u624 u625 u626 u627 : Value} {w0 w : World} {NB Gs : Nat → Prop} {nb cb tb mb bs mk bk wb ob sb pb nm : Nat} {m : Msg} {bits : Int} {s : MS} (hS : Sw w0 w NB Gs nb cb tb mb bs mk bk wb ob sb pb nm m bits s) (h1 : m.kind = 10) (hh : hiOf s.held m.key = -1) :
    Code.wp Ybad.prog (dropSeq 24 (Ybad.f3.body.getD .skip)) (bodyPost Ybad.prog Ybad.f3 fun e w' => e = .returned (.bool true) ∧ Below w0.heap.size w0 w') ⟨#[u0, u1, u2, u3, u4, .pointer (some ⟨pb, 0, none⟩), u6, u7, u8, u9, .bool false, u11, u12, u13, u14, u15, u16, u17, u18, u19, u20, u21, u22, u23, u24, u25, .string m.key, .int .u8 10, .pointer (some ⟨ob, 0, none⟩), .pointer (some ⟨sb, 0, none⟩), .pointer (some ⟨mk, 0, none⟩), .pointer (some ⟨bk, 0, none⟩), .int .i64 bits, .pointer (some ⟨tb, 0, none⟩), .pointer (some ⟨cb, 0, none⟩), .pointer (some ⟨nb, 0, none⟩), .pointer (some ⟨bs, 0, none⟩), .pointer (some ⟨wb, 0, none⟩), .int .i64 0, u39, u40, u41, u42, u43, u44, u45, u46, u47, u48, u49, u50, u51, u52, u53, u54, u55, u56, u57, u58, u59, u60, u61, u62, u63, u64, u65, u66, u67, u68, u69, u70, u71, u72, u73, u74, u75, u76, u77, u78, u79, u80, u81, u82, u83, u84, u85, u86, u87, u88, u89, u90, u91, u92, u93, u94, u95, u96, u97, u98, u99, u100, u101, u102, u103, u104, u105, u106, u107, u108, u109, u110, u111, u112, u113, u114, u115, u116, u117, u118, u119, u120, u121, u122, u123, u124, u125, u126, u127, u128, u129, u130, u131, u132, u133, u134, u135, u136, u137, u138, u139, u140, u141, u142, u143, u144, u145, u146, u147, u148, u149, u150, u151, u152, u153, u154, u155, u156, u157, u158, u159, u160, u161, u162, u163, u164, u165, u166, u167, u168, u169, u170, u171, u172, u173, u174, u175, u176, u177, u178, u179, u180, u181, u182, u183, u184, u185, u186, u187, u188, u189, u190, u191, u192, u193, u194, u195, u196, u197, u198, u199, u200, u201, u202, u203, u204, u205, u206, u207, u208, u209, u210, u211, u212, u213, u214, u215, u216, u217, u218, u219, u220, u221, u222, u223, u224, u225, u226, u227, u228, u229, u230, u231, u232, u233, u234, u235, u236, u237, u238, u239, u240, u241, u242, u243, u244, u245, u246, u247, u248, u249, u250, u251, u252, u253, u254, u255, u256, u257, u258, u259, u260, u261, u262, u263, u264, u265, u266, u267, u268, u269, u270, u271, u272, u273, u274, u275, u276, u277, u278, u279, u280, u281, u282, u283, u284, u285, u286, u287, u288, u289, u290, u291, u292, u293, u294, u295, u296, u297, u298, u299, u300, u301, u302, u303, u304, u305, u306, u307, u308, u309, u310, u311, u312, u313, u314, u315, u316, u317, u318, u319, u320, u321, u322, u323, u324, u325, u326, u327, u328, u329, u330, u331, u332, u333, u334, u335, u336, u337, u338, u339, u340, u341, u342, u343, u344, u345, u346, u347, u348, u349, u350, u351, u352, u353, u354, u355, u356, u357, u358, u359, u360, u361, u362, u363, u364, u365, u366, u367, u368, u369, u370, u371, u372, u373, u374, u375, u376, u377, u378, u379, u380, u381, u382, u383, u384, u385, u386, u387, u388, u389, u390, u391, u392, u393, u394, u395, u396, u397, u398, u399, u400, u401, u402, u403, u404, u405, u406, u407, u408, u409, u410, u411, u412, u413, u414, u415, u416, u417, u418, u419, u420, u421, u422, u423, u424, u425, u426, u427, u428, u429, u430, u431, u432, u433, u434, u435, u436, u437, u438, u439, u440, u441, u442, u443, u444, u445, u446, u447, u448, u449, u450, u451, u452, u453, u454, u455, u456, u457, u458, u459, u460, u461, u462, u463, u464, u465, u466, u467, u468, u469, u470, u471, u472, u473, u474, u475, u476, u477, u478, u479, u480, u481, u482, u483, u484, u485, u486, u487, u488, u489, u490, u491, u492, u493, u494, u495, u496, u497, u498, u499, u500, u501, u502, u503, u504, u505, u506, u507, u508, u509, u510, u511, u512, u513, u514, u515, u516, u517, u518, u519, u520, u521, u522, u523, u524, u525, u526, u527, u528, u529, u530, u531, u532, u533, u534, u535, u536, u537, u538, u539, u540, u541, u542, u543, u544, u545, u546, u547, u548, u549, u550, u551, u552, u553, u554, u555, u556, u557, u558, u559, u560, u561, u562, u563, u564, u565, u566, u567, u568, u569, u570, u571, u572, u573, u574, u575, u576, u577, u578, u579, u580, u581, u582, u583, u584, u585, u586, u587, u588, u589, u590, u591, u592, u593, u594, u595, u596, u597, u598, u599, u600, u601, u602, u603, u604, u605, u606, u607, u608, u609, u610, u611, u612, u613, u614, u615, u616, u617, u618, u619, u620, u621, u622, u623, u624, u625, u626, u627], []⟩ w := by
  conv => arg 2; whnf
  dsimp only
  have HS : Hid (Sw w0 w NB Gs nb cb tb mb bs mk bk wb ob sb pb nm m bits s) := hS
  obtain ⟨ah, nh, ch, ap, np, cp, ar, nr, cr, hm⟩ := hS.mc
  have HM : Hid (MC w Gs bs s ah nh ch ap np cp ar nr cr) := hm
  have c0 := hm.c0
  have c1 := hm.c1
  have x0 : w.cell? ⟨ob, 0, none⟩ = some (.int .i32 m.o) := hS.op.cell 0
  have x1 : w.cell? ⟨ob, 1, none⟩ = some (.int .u32 m.q) := hS.op.cell 1
  have HE : Hid (outReply s m = stampReply s m ∧ outS bits s m = reserveS s bits m.o m.q m.key ∧ outK s m = 0) := by
    refine ⟨?_, ?_, ?_⟩
    · rw [outReply, if_neg (by omega), if_neg (by omega), if_pos h1]
    · rw [outS, if_neg (by omega), if_neg (by omega), if_pos h1]
    · rw [outK, if_neg (by omega)]
  have hwg : wb ≠ bs := fun e => hS.far.2.2.1 (e ▸ hm.gs)
  have hwo : wb ≠ ob := fun e => hS.ne.2.2.1 e.symm
  have HH : Hid (hiOf s.held m.key = -1) := hh
  have HX : Hid (ansX s.held m.key = none) := (ansV_none hh).2
  clear hS hm h1 hh
  go_step
  go_step
  rename_i K hK
  have HKK : Hid _ := hK
  clear hK
  go_upto_region 87 with fail
  refine (hi_any bs ah nh ch s.held m.key w c0 HM.out.held.items).mono ?_
  rintro e w1 ⟨rfl, rfl⟩
  rw [HH.out]
  go_upto_region 87 with fail
  refine (ri_any bs ap np cp s.res m.o m.q _ c1 HM.out.res.pairs).mono ?_
  rintro e w2 ⟨rfl, hk2⟩
  have HM1 : Hid (MC w2 Gs bs s ah nh ch ap np cp ar nr cr) := HM.out.kept hk2 (fun _ _ _ => id)
  have HW2 : Hid (Blk w2 wb (Msg.cells m.reply)) := HS.out.want.kept hk2 id
  have HO2 : Hid (Blk w2 ob #[.int .i32 m.o, .int .u32 m.q]) := HS.out.op.kept hk2 id
  have HK2 : Hid (Kept (SwG Gs wb) w1 w2) := hk2.mono (fun _ => False.elim)
  clear hk2 c0 c1 x0 x1
  go_upto_region 87 with fail
  go_cut [46, 427] from 413 to 426 (fun _ v wx => v = .bool (ours s m.o m.q m.key) ∧ wx = w2)
  case first =>
    rcases riOf_cases HS.out.fine m.o m.q with ⟨e1, e2, e3⟩ | ⟨j, x, e1, e2, e3, e4, e5, e6, e7, e8⟩
    · have HO : Hid (ours s m.o m.q m.key = false) := by show ours s m.o m.q m.key = false; unfold ours; rw [e2]; rfl
      rw [e1]
      clear e1 e2 e3
      go_wp2_with fail
      go_meet
      case rel => exact ⟨by rw [HO.out], rfl⟩
    · obtain ⟨h1, h2', h3⟩ := HM1.out.res.pairs
      have hjl := (List.getElem?_eq_some_iff.1 e2).1
      rcases h3 with h0 | ⟨b1, o1, rfl, hcell⟩
      · omega
      obtain ⟨q0, q1, q2⟩ := hcell j x e2
      have jn : (j : Int) < (np : Int) := by omega
      have d1 := HM1.out.c1
      clear hcell h1 h2' e2 hjl
      by_cases hkey : x.key = m.key
      · have HO : Hid (ours s m.o m.q m.key = true) := by show ours s m.o m.q m.key = true; unfold ours; rw [e5, e6, hkey]; simp
        rw [hkey] at q2
        rw [e1]
        clear e1 e3 e4 e5 e6 e7 e8 hkey
        go_wp2_with fail
        go_meet
        case rel => exact ⟨by rw [HO.out], rfl⟩
      · have HO : Hid (ours s m.o m.q m.key = false) := by show ours s m.o m.q m.key = false; unfold ours; rw [e5, e6, str_ne hkey]; rfl
        have hks := str_ne hkey
        rw [e1]
        clear e1 e3 e4 e5 e6 e7 e8 hkey
        go_wp2_with fail
        go_meet
        case rel => exact ⟨by rw [HO.out], rfl⟩
  case rest =>
  rename World => w2'
  obtain ⟨rfl, rfl⟩ := hcut
  go_step
  have g13 : w2'.cell? ⟨wb, 13, none⟩ = some (.bool false) := HW2.out.cell 13
  have gf13 := HW2.out.free 13
  have d0 := HM1.out.c0
  have HSR : Hid (stampReply s m = { m.reply with found := reserveB s m.o m.q m.key }) := by
    show stampReply s m = _
    unfold stampReply
    rw [HX.out]
    rfl
  cases ho : ours s m.o m.q m.key with
  | true =>
    have HRB : Hid (reserveB s m.o m.q m.key = true ∧ reserveS s bits m.o m.q m.key = s) := reserve_ours ho
    clear ho
    go_wp2_with fail
    refine HKK.out _ _ (tail25 (HS.out.toPre (HK2.out.setCell (p := ⟨wb, 13, none⟩) (.inr rfl) _) ?_ ?_) HE.out.2.2.symm)
    · rw [HE.out.2.1, HRB.out.2]; exact ⟨_, _, _, _, _, _, _, _, _, HM1.out.far HS.out.far.2.2.1 13 _⟩
    · rw [HE.out.1, HSR.out, HRB.out.1]; exact HW2.out.set 13 _
  | false =>
    have HRB : Hid (reserveB s m.o m.q m.key = fits (weigh s) ∧ reserveS s bits m.o m.q m.key = if fits (weigh s) then reserved (weigh s) bits m.o m.q m.key else weigh s) := reserve_new ho HH.out
    have HRO : Hid (roomB s m.key = fits (weigh s) ∧ roomS s m.key = weigh s) := ⟨if_neg (by rw [HH.out]; decide), if_neg (by rw [HH.out]; decide)⟩
    clear ho
    go_wp2_with fail
    refine (hi_any bs ah nh ch s.held m.key w2' d0 HM1.out.held.items).mono ?_
    rintro e w3 ⟨rfl, rfl⟩
    rw [HH.out]
    go_wp2_with fail
    refine (room_any Gs bs s m.key w3 ⟨_, _, _, _, _, _, _, _, _, HM1.out⟩ HS.out.fine).mono ?_
    rintro e w4 ⟨rfl, hm4, hk4⟩
    rw [HRO.out.1]
    rw [HRO.out.2] at hm4
    have HM4 : Hid (MAt w4 Gs bs (weigh s)) := hm4
    have HK4 : Hid (Kept (SwG Gs wb) w1 w4) := HK2.out.trans (hk4.mono (fun _ h => .inl h))
    have HW4 : Hid (Blk w4 wb (Msg.cells m.reply)) := Blk.kept HW2.out hk4 HS.out.far.2.2.1
    have HO4 : Hid (Blk w4 ob #[.int .i32 m.o, .int .u32 m.q]) := Blk.kept HO2.out hk4 HS.out.far.2.2.2.1
    clear hm4 hk4 g13 gf13 d0
    have g13 : w4.cell? ⟨wb, 13, none⟩ = some (.bool false) := HW4.out.cell 13
    have gf13 := HW4.out.free 13
    cases hfit : fits (weigh s) with
    | false =>
      have HR2 : Hid (reserveB s m.o m.q m.key = false ∧ reserveS s bits m.o m.q m.key = weigh s) := by
        refine ⟨HRB.out.1.trans hfit, HRB.out.2.trans (if_neg (by rw [hfit]; decide))⟩
      clear hfit
      go_wp2_with fail
      refine HKK.out _ _ (tail25 (HS.out.toPre (HK4.out.setCell (p := ⟨wb, 13, none⟩) (.inr rfl) _) ?_ ?_) HE.out.2.2.symm)
      · rw [HE.out.2.1, HR2.out.2]; exact MAt.setFar HM4.out HS.out.far.2.2.1 13 _
      · rw [HE.out.1, HSR.out, HR2.out.1]; exact HW4.out.set 13 _
    | true =>
      have HR2 : Hid (reserveB s m.o m.q m.key = true ∧ reserveS s bits m.o m.q m.key = reserved (weigh s) bits m.o m.q m.key) := by
        refine ⟨HRB.out.1.trans hfit, HRB.out.2.trans (if_pos hfit)⟩
      clear hfit
      obtain ⟨t, ht⟩ : ∃ t, t = weigh s := ⟨_, rfl⟩
      have hfi : Fine t.res := by rw [ht]; exact weigh_fine HS.out.fine
      have hrl : t.rv.length ≤ 10000 := by rw [ht]; exact Nat.le_trans (weigh_rv s) HS.out.hrl
      have htm := HM4.out
      have htr := HR2.out
      rw [← ht] at htm htr
      obtain ⟨ah4, nh4, ch4, ap4, np4, cp4, ar4, nr4, cr4, hm4⟩ := htm
      have HC4 : Hid (MC w4 Gs bs t ah4 nh4 ch4 ap4 np4 cp4 ar4 nr4 cr4) := hm4
      have HTR : Hid (reserveB s m.o m.q m.key = true ∧ reserveS s bits m.o m.q m.key = reserved t bits m.o m.q m.key) := htr
      have HFI : Hid (Fine t.res) := hfi
      have HRL : Hid (t.rv.length ≤ 10000) := hrl
      have HTL : Hid (t.res.length ≤ 10000) := by show t.res.length ≤ 10000; rw [ht]; exact Nat.le_trans (weigh_res s) HS.out.hres
      have x0 : w4.cell? ⟨ob, 0, none⟩ = some (.int .i32 m.o) := HO4.out.cell 0
      have x1 : w4.cell? ⟨ob, 1, none⟩ = some (.int .u32 m.q) := HO4.out.cell 1
      clear hfi hrl htr hm4 ht HR2 HRB HM4
      go_upto_region 94 with fail
      refine (ri_any bs ap4 np4 cp4 t.res m.o m.q w4 HC4.out.c1 HC4.out.res.pairs).mono ?_
      rintro e w5 ⟨rfl, hk5⟩
      have HC5 : Hid (MC w5 Gs bs t ah4 nh4 ch4 ap4 np4 cp4 ar4 nr4 cr4) := HC4.out.kept hk5 (fun _ _ _ => id)
      have HW5 : Hid (Blk w5 wb (Msg.cells m.reply)) := Blk.kept HW4.out hk5 id
      have HO5 : Hid (Blk w5 ob #[.int .i32 m.o, .int .u32 m.q]) := Blk.kept HO4.out hk5 id
      have HK5 : Hid (Kept (SwG Gs wb) w1 w5) := HK4.out.trans (hk5.mono (fun _ => False.elim))
      clear hk5 x0 x1 g13 gf13 HC4 HW4 HO4 HK4
      go_upto_region 94 with fail
      go_cut [47, 443] from 441 to 442 (fun v d wx => v = .int .i64 (riOf t.res m.o m.q) ∧ d = .bool (decide (0 ≤ riOf t.res m.o m.q)) ∧ wx = w5)
      case first =>
        go_wp2_with fail
        go_meet
        case rel => exact ⟨rfl, rfl, rfl⟩
      case rest =>
      rename World => w5'
      obtain ⟨rfl, rfl, rfl⟩ := hcut
      go_step
      go_cut [47] from 441 to 463 (fun _ wx => MAt wx Gs bs { t with res := setR t.res m.o m.q m.key } ∧ Kept Gs w5' wx)
      case first =>
        have d1 := HC5.out.c1
        have g1 := HC5.out.blk.free 1
        have x0 : w5'.cell? ⟨ob, 0, none⟩ = some (.int .i32 m.o) := HO5.out.cell 0
        have x1 : w5'.cell? ⟨ob, 1, none⟩ = some (.int .u32 m.q) := HO5.out.cell 1
        have hbsl : bs < w5'.heap.size := HC5.out.blk.lt
        have hobl : ob < w5'.heap.size := HO5.out.lt
        rcases riOf_cases HFI.out m.o m.q with ⟨e1, e2, e3⟩ | ⟨j, x, e1, e2, e3, e4, e5, e6, e7, e8⟩
        · have HSE : Hid (setR t.res m.o m.q m.key = t.res ++ [⟨m.o, m.q, m.key⟩]) := setR_new e2 m.key
          have hd : decide ((0 : Int) ≤ riOf t.res m.o m.q) = false := by rw [e1]; decide
          rw [hd, e1]
          clear e1 e2 e3 hd
          obtain ⟨t0, ht0, hz0, hz1, hz2⟩ := info_parts info47
          have HA : Hid (MC (w5'.alloc (.cells #[.int .i32 m.o, .int .u32 m.q, .string m.key] 47)) Gs bs t ah4 nh4 ch4 ap4 np4 cp4 ar4 nr4 cr4) := HC5.out.kept (G' := fun _ => False) ((Kept.refl _ w5').alloc _) (fun _ _ _ => id)
          have HNB : Hid (Blk (w5'.alloc (.cells #[.int .i32 m.o, .int .u32 m.q, .string m.key] 47)) w5'.heap.size #[.int .i32 m.o, .int .u32 m.q, .string m.key]) := Blk.new _ _ _
          have hnp : np4 ≤ 1000000 := by
            have e1 := HC5.out.res.len
            have e2 := HTL.out
            omega
          have HCQ : Hid (some bs ≠ blkOf ap4) := fun e => (HC5.out.gp bs e.symm).2 rfl
          go_wp2_with fail
          go_region_law (refine step_append_row (by rfl) (.tmp 456) (.tmp 460) 38 (by rfl) pr_len pr_one 47 t0 (.agg #[.int .i32 0, .int .u32 0, .string ⟨#[]⟩]) 24 und38 ht0 hz0 hz1 hz2 rfl ap4 np4 cp4 t.res (by rfl) (by exact HA.out.res.eqv (fun _ _ => rfl)) ⟨w5'.heap.size, 0, none⟩ 1 1 [⟨m.o, m.q, m.key⟩] (by rfl) rfl (by exact one_cells3 HNB.out) (by omega) (by omega) ?_; intro a' c2 w6 hrow hgrow hnew; have hg3 := grown_drew hgrow; have hbl := HA.out.blk.grown hg3 HCQ.out; have z1 : w6.cell? ⟨bs, 1, none⟩ = some (.slice ap4 np4 cp4) := hbl.cell 1; have z2 := hbl.free 1; have HR : Hid _ := hrow; have HG : Hid _ := hg3; have HW : Hid _ := hnew; clear hrow hgrow hnew hbl hg3)
          all_goals
            go_wp2_with fail
            go_meet
            case rel =>
              rw [HSE.out]
              exact ⟨⟨_, _, _, _, _, _, _, _, _, HA.out.setRes HR.out HG.out HW.out⟩, (((Kept.refl Gs w5').alloc _).grown HG.out (fun k e => (HC5.out.gp k e).1)).setCell (p := ⟨bs, 1, none⟩) HC5.out.gs _⟩
        · have HSE : Hid (setR t.res m.o m.q m.key = t.res.set j ⟨x.o, x.q, m.key⟩) := by
            show setR t.res m.o m.q m.key = _
            rw [e8, e3, e4]
          obtain ⟨h1, h2', h3⟩ := HC5.out.res.pairs
          have hjl := (List.getElem?_eq_some_iff.1 e2).1
          rcases h3 with h0 | ⟨b1, o1, rfl, hcell⟩
          · omega
          obtain ⟨q0, q1, q2⟩ := hcell j x e2
          have jn : (j : Int) < (np4 : Int) := by omega
          have HJX : Hid (t.res[j]? = some x) := e2
          have fr2 : w5'.frozen? ⟨b1, o1 + j * 3 + 2, none⟩ = false := by
            rcases HC5.out.res.row with ⟨h0, _⟩ | ⟨b', o', cs', h1, h2, _⟩
            · cases h0
            · cases h1; exact h2.free _
          have hd : decide ((0 : Int) ≤ riOf t.res m.o m.q) = true := by rw [e1]; simp
          rw [hd, e1]
          clear hcell h1 h2' e1 e2 e3 e4 e5 e6 e7 e8 hjl hd
          go_wp2_with fail
          go_meet
          case rel =>
            rw [HSE.out]
            have hg : w5'.grownBy (w5'.setCell ⟨b1, o1 + j * 3 + 2, none⟩ (.string m.key)) (blkOf (some ⟨b1, o1, none⟩)) := grown_set (grown_refl _ _) _ _
            exact ⟨⟨_, _, _, _, _, _, _, _, _, HC5.out.setPairs (HC5.out.res.setKey j x HJX.out m.key) hg⟩, (Kept.refl Gs w5').grown hg (fun k e => (HC5.out.gp k e).1)⟩
      case rest =>
      rename World => w6
      obtain ⟨hm6, hk6⟩ := hcut
      have HW6 : Hid (Blk w6 wb (Msg.cells m.reply)) := Blk.kept HW5.out hk6 HS.out.far.2.2.1
      have HO6 : Hid (Blk w6 ob #[.int .i32 m.o, .int .u32 m.q]) := Blk.kept HO5.out hk6 HS.out.far.2.2.2.1
      have HK6 : Hid (Kept (SwG Gs wb) w1 w6) := HK5.out.trans (hk6.mono (fun _ h => .inl h))
      obtain ⟨ah6, nh6, ch6, ap6, np6, cp6, ar6, nr6, cr6, hm6⟩ := hm6
      have HC6 : Hid (MC w6 Gs bs { t with res := setR t.res m.o m.q m.key } ah6 nh6 ch6 ap6 np6 cp6 ar6 nr6 cr6) := hm6
      have d2 := hm6.c2
      have d3 : w6.cell? ⟨bs, 3, none⟩ = some (.int .i64 t.now) := hm6.c3
      have g2 := hm6.blk.free 2
      have x0 : w6.cell? ⟨ob, 0, none⟩ = some (.int .i32 m.o) := HO6.out.cell 0
      have x1 : w6.cell? ⟨ob, 1, none⟩ = some (.int .u32 m.q) := HO6.out.cell 1
      have hbsl : bs < w6.heap.size := HC6.out.blk.lt
      have hobl : ob < w6.heap.size := HO6.out.lt
      have hwbl : wb < w6.heap.size := HW6.out.lt
      have HB : Hid (0 ≤ bits ∧ bits < 16) := HS.out.hb
      have e1 : IntKind.i64.wrap (2 * bits) = 2 * bits := w64 (by have := HB.out; omega) (by have := HB.out; omega)
      have e2 : IntKind.i64.wrap (2 * bits + 1) = 2 * bits + 1 := w64 (by have := HB.out; omega) (by have := HB.out; omega)
      have e3 : IntKind.i64.wrap (2 * (2 * bits + 1)) = 2 * (2 * bits + 1) := w64 (by have := HB.out; omega) (by have := HB.out; omega)
      have e4 : IntKind.i64.wrap (2 * (2 * bits + 1) * 9) = 2 * (2 * bits + 1) * 9 := w64 (by have := HB.out; omega) (by have := HB.out; omega)
      have e5 : IntKind.i64.wrap (2 * (2 * (2 * bits + 1) * 9)) = 2 * (2 * (2 * bits + 1) * 9) := w64 (by have := HB.out; omega) (by have := HB.out; omega)
      clear hm6 hk6 HC5 HW5 HO5 HK5
      obtain ⟨t0, ht0, hz0, hz1, hz2⟩ := info_parts info51
      have hnr : nr6 ≤ 10000 := by have e1 : t.rv.length = nr6 := HC6.out.rv.len; have := HRL.out; omega
      have HCQ : Hid (some bs ≠ blkOf ar6) := fun e => (HC6.out.gr bs e.symm).2 rfl
      have HA : Hid (MC (w6.alloc (.cells #[.int .i32 m.o, .int .u32 m.q, .int .i64 (IntKind.i64.wrap (t.now + holdOf bits))] 51)) Gs bs { t with res := setR t.res m.o m.q m.key } ah6 nh6 ch6 ap6 np6 cp6 ar6 nr6 cr6) := HC6.out.kept (G' := fun _ => False) ((Kept.refl _ w6).alloc _) (fun _ _ _ => id)
      have HNB : Hid (Blk (w6.alloc (.cells #[.int .i32 m.o, .int .u32 m.q, .int .i64 (IntKind.i64.wrap (t.now + holdOf bits))] 51)) w6.heap.size #[.int .i32 m.o, .int .u32 m.q, .int .i64 (IntKind.i64.wrap (t.now + holdOf bits))]) := Blk.new _ _ _
      have HWQ : Hid (some wb ≠ blkOf ar6) := fun e => HS.out.far.2.2.1 (HC6.out.gr wb e.symm).1
      go_step
      go_wp2_with fail
      go_region_law (refine step_append_row (by rfl) (.tmp 474) (.tmp 483) 48 (by rfl) rs_len rs_one 51 t0 (.agg #[.int .i32 0, .int .u32 0, .int .i64 0]) 16 und48 ht0 hz0 hz1 hz2 rfl ar6 nr6 cr6 t.rv (by rfl) (by exact HA.out.rv.eqv (fun _ _ => rfl)) ⟨w6.heap.size, 0, none⟩ 1 1 [⟨m.o, m.q, IntKind.i64.wrap (t.now + holdOf bits)⟩] (by rfl) rfl (by exact one_cells3 HNB.out) (by omega) (by omega) ?_; intro a' c2 w7 hrow hgrow hnew; have hg3 := grown_drew hgrow; have hbl := HA.out.blk.grown hg3 HCQ.out; have z1 : w7.cell? ⟨bs, 2, none⟩ = some (.slice ar6 nr6 cr6) := hbl.cell 2; have z2 := hbl.free 2; have hw7 := (Blk.alloc HW6.out (.cells #[.int .i32 m.o, .int .u32 m.q, .int .i64 (IntKind.i64.wrap (t.now + holdOf bits))] 51)).grown hg3 HWQ.out; have y13 : w7.cell? ⟨wb, 13, none⟩ = some (.bool false) := hw7.cell 13; have y14 := hw7.free 13; have HR : Hid _ := hrow; have HG : Hid _ := hg3; have HW : Hid _ := hnew; have HW7 : Hid _ := hw7; clear hrow hgrow hnew hbl hg3 hw7)
      all_goals
        go_wp2_with fail
        refine HKK.out _ _ (tail25 (HS.out.toPre ((((HK6.out.alloc _).grown HG.out (fun k e => .inl (HC6.out.gr k e).1)).setCell (p := ⟨bs, 2, none⟩) (.inl HC6.out.gs) _).setCell (p := ⟨wb, 13, none⟩) (.inr rfl) _) ?_ ?_) HE.out.2.2.symm)
        · rw [HE.out.2.1, HTR.out.2]
          exact MAt.setFar ⟨_, _, _, _, _, _, _, _, _, HA.out.setRv HR.out HG.out HW.out⟩ HS.out.far.2.2.1 13 _
        · rw [HE.out.1, HSR.out, HTR.out.1]
          exact (Blk.other HW7.out hwg 2 _).set 13 _

end Go.Proofs.YbulkdywgDoor
