/-
  Seat b6272aD: the law's switch at a put.
-/
import Derived.Test.YbulkdywgDoorSw
namespace Go.Proofs.YbulkdywgDoor
open Go.RowKit
set_option linter.unusedVariables false

/-- The held row rewritten in its place. -/
theorem MC.setItems {w w' : World} {G : Nat → Prop} {bs : Nat} {s : MS} {ah : Option Addr} {nh ch : Nat} {ap : Option Addr} {np cp : Nat} {ar : Option Addr} {nr cr : Nat} (h : MC w G bs s ah nh ch ap np cp ar nr cr) {xs : List It} (hr : Row It.cells 4 w' ah nh ch xs) (hg : w.grownBy w' (blkOf ah)) : MC w' G bs { s with held := xs } ah nh ch ap np cp ar nr cr :=
  ⟨h.blk.grown hg (fun e => (h.gh bs e.symm).2 rfl), hr, h.res.grown hg (fun b e e' => h.hp b e'.symm e), h.rv.grown hg (fun b e e' => h.hr b e'.symm e), h.gs, h.gh, h.gp, h.gr, h.hp, h.hr, h.pr, fun b hb => h.fresh b (Nat.le_trans hg.size hb)⟩

set_option maxHeartbeats 4000000 in
set_option maxRecDepth 100000 in
theorem sw_put {u0 u1 u2 u3 u4 u6 u7 u8 u9 u11 u12 u13 u14 u15 u16 u17 u18 u19 u20 u21 u22 u23 u24 u25 u39 u40 u41 u42 u43 u44 u45 u46 u47 u48 u49 u50 u51 u52 u53 u54 u55 u56 u57 u58 u59 u60 u61 u62 u63 u64 u65 u66 u67 u68 u69 u70 u71 u72 u73 u74 u75 u76 u77 u78 u79 u80 u81 u82 u83 u84 u85 u86 u87 u88 u89 u90 u91 u92 u93 u94 u95 u96 u97 u98 u99 u100 u101 u102 u103 u104 u105 u106 u107 u108 u109 u110 u111 u112 u113 u114 u115 u116 u117 u118 u119 u120 u121 u122 u123 u124 u125 u126 u127 u128 u129 u130 u131 u132 u133 u134 u135 u136 u137 u138 u139 u140 u141 u142 u143 u144 u145 u146 u147 u148 u149 u150 u151 u152 u153 u154 u155 u156 u157 u158 u159 u160 u161 u162 u163 u164 u165 u166 u167 u168 u169 u170 u171 u172 u173 u174 u175 u176 u177 u178 u179 u180 u181 u182 u183 u184 u185 u186 u187 u188 u189 u190 u191 u192 u193 u194 u195 u196 u197 u198 u199 u200 u201 u202 u203 u204 u205 u206 u207 u208 u209 u210 u211 u212 u213 u214 u215 u216 u217 u218 u219 u220 u221 u222 u223 u224 u225 u226 u227 u228 u229 u230 u231 u232 u233 u234 u235 u236 u237 u238 u239 u240 u241 u242 u243 u244 u245 u246 u247 u248 u249 u250 u251 u252 u253 u254 u255 u256 u257 u258 u259 u260 u261 u262 u263 u264 u265 u266 u267 u268 u269 u270 u271 u272 u273 u274 u275 u276 u277 u278 u279 u280 u281 u282 u283 u284 u285 u286 u287 u288 u289 u290 u291 u292 u293 u294 u295 u296 u297 u298 u299 u300 u301 u302 u303 u304 u305 u306 u307 u308 u309 u310 u311 u312 u313 u314 u315 u316 u317 u318 u319 u320 u321 u322 u323 u324 u325 u326 u327 u328 u329 u330 u331 u332 u333 u334 u335 u336 u337 u338 u339 u340 u341 u342 u343 u344 u345 u346 u347 u348 u349 u350 u351 u352 u353 u354 u355 u356 u357 u358 u359 u360 u361 u362 u363 u364 u365 u366 u367 u368 u369 u370 u371 u372 u373 u374 u375 u376 u377 u378 u379 u380 u381 u382 u383 u384 u385 u386 u387 u388 u389 u390 u391 u392 u393 u394 u395 u396 u397 u398 u399 u400 u401 u402 u403 u404 u405 u406 u407 u408 u409 u410 u411 u412 u413 u414 u415 u416 u417 u418 u419 u420 u421 u422 u423 u424 u425 u426 u427 u428 u429 u430 u431 u432 u433 u434 u435 u436 u437 u438 u439 u440 u441 u442 u443 u444 u445 u446 u447 u448 u449 u450 u451 u452 u453 u454 u455 u456 u457 u458 u459 u460 u461 u462 u463 u464 u465 u466 u467 u468 u469 u470 u471 u472 u473 u474 u475 u476 u477 u478 u479 u480 u481 u482 u483 u484 u485 u486 u487 u488 u489 u490 u491 u492 u493 u494 u495 u496 u497 u498 u499 u500 u501 u502 u503 u504 u505 u506 u507 u508 u509 u510 u511 u512 u513 u514 u515 u516 u517 u518 u519 u520 u521 u522 u523 u524 u525 u526 u527 u528 u529 u530 u531 u532 u533 u534 u535 u536 u537 u538 u539 u540 u541 u542 u543 u544 u545 u546 u547 u548 u549 u550 u551 u552 u553 u554 u555 u556 u557 u558 u559 u560 u561 u562 u563 u564 u565 u566 u567 u568 u569 u570 u571 u572 u573 u574 u575 u576 u577 u578 u579 u580 u581 u582 u583 u584 u585 u586 u587 u588 u589 u590 u591 u592 u593 u594 u595 u596 u597 u598 u599 u600 u601 u602 u603 u604 u605 u606 u607 u608 u609 u610 u611 u612 u613 u614 u615 u616 u617 u618 u619 u620 u621 u622 u623 u624 u625 u626 u627 : Value} {w0 w : World} {NB Gs : Nat → Prop} {nb cb tb mb bs mk bk wb ob sb pb nm : Nat} {m : Msg} {bits : Int} {s : MS} (hS : Sw w0 w NB Gs nb cb tb mb bs mk bk wb ob sb pb nm m bits s) (h1 : m.kind = 1) :
    Code.wp Ybad.prog (dropSeq 24 (Ybad.f3.body.getD .skip)) (bodyPost Ybad.prog Ybad.f3 fun e w' => e = .returned (.bool true) ∧ Below w0.heap.size w0 w') ⟨#[u0, u1, u2, u3, u4, .pointer (some ⟨pb, 0, none⟩), u6, u7, u8, u9, .bool false, u11, u12, u13, u14, u15, u16, u17, u18, u19, u20, u21, u22, u23, u24, u25, .string m.key, .int .u8 1, .pointer (some ⟨ob, 0, none⟩), .pointer (some ⟨sb, 0, none⟩), .pointer (some ⟨mk, 0, none⟩), .pointer (some ⟨bk, 0, none⟩), .int .i64 bits, .pointer (some ⟨tb, 0, none⟩), .pointer (some ⟨cb, 0, none⟩), .pointer (some ⟨nb, 0, none⟩), .pointer (some ⟨bs, 0, none⟩), .pointer (some ⟨wb, 0, none⟩), .int .i64 0, u39, u40, u41, u42, u43, u44, u45, u46, u47, u48, u49, u50, u51, u52, u53, u54, u55, u56, u57, u58, u59, u60, u61, u62, u63, u64, u65, u66, u67, u68, u69, u70, u71, u72, u73, u74, u75, u76, u77, u78, u79, u80, u81, u82, u83, u84, u85, u86, u87, u88, u89, u90, u91, u92, u93, u94, u95, u96, u97, u98, u99, u100, u101, u102, u103, u104, u105, u106, u107, u108, u109, u110, u111, u112, u113, u114, u115, u116, u117, u118, u119, u120, u121, u122, u123, u124, u125, u126, u127, u128, u129, u130, u131, u132, u133, u134, u135, u136, u137, u138, u139, u140, u141, u142, u143, u144, u145, u146, u147, u148, u149, u150, u151, u152, u153, u154, u155, u156, u157, u158, u159, u160, u161, u162, u163, u164, u165, u166, u167, u168, u169, u170, u171, u172, u173, u174, u175, u176, u177, u178, u179, u180, u181, u182, u183, u184, u185, u186, u187, u188, u189, u190, u191, u192, u193, u194, u195, u196, u197, u198, u199, u200, u201, u202, u203, u204, u205, u206, u207, u208, u209, u210, u211, u212, u213, u214, u215, u216, u217, u218, u219, u220, u221, u222, u223, u224, u225, u226, u227, u228, u229, u230, u231, u232, u233, u234, u235, u236, u237, u238, u239, u240, u241, u242, u243, u244, u245, u246, u247, u248, u249, u250, u251, u252, u253, u254, u255, u256, u257, u258, u259, u260, u261, u262, u263, u264, u265, u266, u267, u268, u269, u270, u271, u272, u273, u274, u275, u276, u277, u278, u279, u280, u281, u282, u283, u284, u285, u286, u287, u288, u289, u290, u291, u292, u293, u294, u295, u296, u297, u298, u299, u300, u301, u302, u303, u304, u305, u306, u307, u308, u309, u310, u311, u312, u313, u314, u315, u316, u317, u318, u319, u320, u321, u322, u323, u324, u325, u326, u327, u328, u329, u330, u331, u332, u333, u334, u335, u336, u337, u338, u339, u340, u341, u342, u343, u344, u345, u346, u347, u348, u349, u350, u351, u352, u353, u354, u355, u356, u357, u358, u359, u360, u361, u362, u363, u364, u365, u366, u367, u368, u369, u370, u371, u372, u373, u374, u375, u376, u377, u378, u379, u380, u381, u382, u383, u384, u385, u386, u387, u388, u389, u390, u391, u392, u393, u394, u395, u396, u397, u398, u399, u400, u401, u402, u403, u404, u405, u406, u407, u408, u409, u410, u411, u412, u413, u414, u415, u416, u417, u418, u419, u420, u421, u422, u423, u424, u425, u426, u427, u428, u429, u430, u431, u432, u433, u434, u435, u436, u437, u438, u439, u440, u441, u442, u443, u444, u445, u446, u447, u448, u449, u450, u451, u452, u453, u454, u455, u456, u457, u458, u459, u460, u461, u462, u463, u464, u465, u466, u467, u468, u469, u470, u471, u472, u473, u474, u475, u476, u477, u478, u479, u480, u481, u482, u483, u484, u485, u486, u487, u488, u489, u490, u491, u492, u493, u494, u495, u496, u497, u498, u499, u500, u501, u502, u503, u504, u505, u506, u507, u508, u509, u510, u511, u512, u513, u514, u515, u516, u517, u518, u519, u520, u521, u522, u523, u524, u525, u526, u527, u528, u529, u530, u531, u532, u533, u534, u535, u536, u537, u538, u539, u540, u541, u542, u543, u544, u545, u546, u547, u548, u549, u550, u551, u552, u553, u554, u555, u556, u557, u558, u559, u560, u561, u562, u563, u564, u565, u566, u567, u568, u569, u570, u571, u572, u573, u574, u575, u576, u577, u578, u579, u580, u581, u582, u583, u584, u585, u586, u587, u588, u589, u590, u591, u592, u593, u594, u595, u596, u597, u598, u599, u600, u601, u602, u603, u604, u605, u606, u607, u608, u609, u610, u611, u612, u613, u614, u615, u616, u617, u618, u619, u620, u621, u622, u623, u624, u625, u626, u627], []⟩ w := by
  conv => arg 2; whnf
  dsimp only
  have HS : Hid (Sw w0 w NB Gs nb cb tb mb bs mk bk wb ob sb pb nm m bits s) := hS
  obtain ⟨ah, nh, ch, ap, np, cp, ar, nr, cr, hm⟩ := hS.mc
  have HM : Hid (MC w Gs bs s ah nh ch ap np cp ar nr cr) := hm
  have c1 := hm.c1
  have x0 : w.cell? ⟨ob, 0, none⟩ = some (.int .i32 m.o) := hS.op.cell 0
  have x1 : w.cell? ⟨ob, 1, none⟩ = some (.int .u32 m.q) := hS.op.cell 1
  have HE : Hid (outReply s m = { m.reply with found := putFound s m } ∧ outS bits s m = putS s m ∧ outK s m = cntOf (putFound s m)) := by
    refine ⟨?_, ?_, ?_⟩
    · rw [outReply, if_pos h1]
    · rw [outS, if_pos h1]
    · rw [outK, if_pos h1]
  clear hS hm h1
  go_step
  go_step
  rename_i K hK
  have HKK : Hid _ := hK
  clear hK
  go_upto_region 61 with fail
  refine (ri_any bs ap np cp s.res m.o m.q w c1 HM.out.res.pairs).mono ?_
  rintro e w1 ⟨rfl, hk1⟩
  have hm1 := HM.out.kept hk1 (fun _ _ _ => id)
  have HK1 : Hid (Kept (fun _ => False) w w1) := hk1
  have HM1 : Hid (MC w1 Gs bs s ah nh ch ap np cp ar nr cr) := hm1
  clear hk1 hm1 c1 x0 x1
  go_upto_region 61 with fail
  go_cut [40, 310] from 296 to 309 (fun i v wx => i = .int .i64 (riOf s.res m.o m.q) ∧ v = .bool (ours s m.o m.q m.key) ∧ wx = w1)
  case first =>
    rcases riOf_cases HS.out.fine m.o m.q with ⟨e1, e2, e3⟩ | ⟨j, x, e1, e2, e3, e4, e5, e6, e7, e8⟩
    · have HO : Hid (ours s m.o m.q m.key = false) := by show ours s m.o m.q m.key = false; unfold ours; rw [e2]; rfl
      have HR : Hid (riOf s.res m.o m.q = -1) := e1
      rw [e1]
      clear e1 e2 e3
      go_wp2_with fail
      go_meet
      case rel => exact ⟨by rw [HR.out], by rw [HO.out], rfl⟩
    · obtain ⟨h1, h2', h3⟩ := HM1.out.res.pairs
      have hjl := (List.getElem?_eq_some_iff.1 e2).1
      rcases h3 with h0 | ⟨b1, o1, rfl, hcell⟩
      · omega
      obtain ⟨q0, q1, q2⟩ := hcell j x e2
      have jn : (j : Int) < (np : Int) := by omega
      have d1 := HM1.out.c1
      clear hcell h1 h2' e2 hjl
      by_cases hkey : x.key = m.key
      · have HO : Hid (ours s m.o m.q m.key = true) := by show ours s m.o m.q m.key = true; unfold ours; rw [e5, e6, hkey]; simp
        rw [hkey] at q2
        have HR : Hid (riOf s.res m.o m.q = j) := e1
        rw [e1]
        clear e1 e3 e4 e5 e6 e7 e8 hkey
        go_wp2_with fail
        go_meet
        case rel => exact ⟨by rw [HR.out], by rw [HO.out], rfl⟩
      · have HO : Hid (ours s m.o m.q m.key = false) := by show ours s m.o m.q m.key = false; unfold ours; rw [e5, e6, str_ne hkey]; rfl
        have hks := str_ne hkey
        have HR : Hid (riOf s.res m.o m.q = j) := e1
        rw [e1]
        clear e1 e3 e4 e5 e6 e7 e8 hkey
        go_wp2_with fail
        go_meet
        case rel => exact ⟨by rw [HR.out], by rw [HO.out], rfl⟩
  case rest =>
  rename World => w1'
  obtain ⟨rfl, rfl, rfl⟩ := hcut
  go_step
  go_cut [39, 40] from 310 to 316 (fun v _ wx => v = .bool (keepsB s m.o m.q m.key) ∧ MAt wx Gs bs (keepsS s m.o m.q m.key) ∧ Kept Gs w wx)
  case first =>
    cases ho : ours s m.o m.q m.key with
    | false =>
      have HO : Hid (ours s m.o m.q m.key = false) := ho
      clear ho
      go_wp2_with fail
      refine (room_any Gs bs s m.key w1' ⟨_, _, _, _, _, _, _, _, _, HM1.out⟩ HS.out.fine).mono ?_
      rintro e w2 ⟨rfl, hm2, hk2⟩
      have HM2 : Hid _ := hm2
      have HK2 : Hid (Kept Gs w1' w2) := hk2
      clear hm2 hk2
      go_wp2_with fail
      go_meet
      case rel =>
        rw [keepsB, keepsS, HO.out]
        exact ⟨rfl, HM2.out, (HK1.out.mono (fun _ => False.elim)).trans HK2.out⟩
    | true =>
      have HO : Hid (ours s m.o m.q m.key = true) := ho
      rcases riOf_cases HS.out.fine m.o m.q with ⟨e1, e2, e3⟩ | ⟨j, x, e1, e2, e3, e4, e5, e6, e7, e8⟩
      · unfold ours at ho
        rw [e2] at ho
        cases ho
      have HJL : Hid (j < s.res.length) := (List.getElem?_eq_some_iff.1 e2).1
      have HE7 : Hid (delR s.res m.o m.q = s.res.take j ++ s.res.drop (j + 1)) := e7
      rw [e1]
      clear e1 e2 e3 e4 e5 e6 e7 e8 ho
      go_wp2_with fail
      refine (drop_any Gs bs s j w1' ⟨_, _, _, _, _, _, _, _, _, HM1.out⟩ HJL.out).mono ?_
      rintro e w2 ⟨rfl, hm2, hk2⟩
      have HM2 : Hid _ := hm2
      have HK2 : Hid (Kept Gs w1' w2) := hk2
      clear hm2 hk2
      go_wp2_with fail
      go_meet
      case rel =>
        rw [keepsB, keepsS, HO.out, HE7.out]
        exact ⟨rfl, HM2.out, (HK1.out.mono (fun _ => False.elim)).trans HK2.out⟩
  case rest =>
  rename World => w2
  obtain ⟨rfl, hm2, hk2⟩ := hcut
  have HM2 : Hid (MAt w2 Gs bs (keepsS s m.o m.q m.key)) := hm2
  have HK2 : Hid (Kept Gs w w2) := hk2
  have HWB : Hid (Blk w2 wb m.reply.cells) := HS.out.want.kept hk2 HS.out.far.2.2.1
  have w13 : w2.cell? ⟨wb, 13, none⟩ = some (.bool false) := HWB.out.cell 13
  have f13 := HWB.out.free 13
  clear hm2 hk2 HK1 HM1
  cases hkb : keepsB s m.o m.q m.key with
  | false =>
    have HPF : Hid (putFound s m = false ∧ putS s m = keepsS s m.o m.q m.key) := ⟨hkb, if_neg (by rw [putFound, hkb]; decide)⟩
    clear hkb
    go_wp2_with fail
    refine HKK.out _ _ (tail25 (HS.out.toPre ((HK2.out.mono (fun _ h => .inl h)).setCell (p := ⟨wb, 13, none⟩) (.inr rfl) _) ?_ ?_) ?_)
    · rw [HE.out.2.1, HPF.out.2]; exact HM2.out.setFar HS.out.far.2.2.1 13 _
    · rw [HE.out.1, HPF.out.1]; exact HWB.out.set 13 _
    · rw [HE.out.2.2, HPF.out.1]; rfl
  | true =>
    have HPF : Hid (putFound s m = true) := hkb
    clear hkb w13 f13
    have p10 : w2.cell? ⟨pb, 10, none⟩ = some (.string m.value) := by
      rw [World.cell?_of_block (w := w) (HK2.out.block pb (World.block_lt_of_cell? w _ HS.out.val) HS.out.far.2.2.2.2.2)]
      exact HS.out.val
    have hst := HS.out.st.kept HK2.out HS.out.far.2.2.2.2.1
    have s0 : w2.cell? ⟨sb, 0, none⟩ = some (.int .u64 m.count) := hst.cell 0
    have s1 : w2.cell? ⟨sb, 1, none⟩ = some (.int .i32 m.writer) := hst.cell 1
    obtain ⟨ah, nh, ch, ap, np, cp, ar, nr, cr, hm2⟩ := HM2.out
    have HC2 : Hid (MC w2 Gs bs (keepsS s m.o m.q m.key) ah nh ch ap np cp ar nr cr) := hm2
    clear hst hm2
    go_upto_region 69 with fail
    have HW3 : Hid (MC (w2.alloc (.cells #[.string m.key, .string m.value, .int .u64 m.count, .int .i32 m.writer] 37)) Gs bs (keepsS s m.o m.q m.key) ah nh ch ap np cp ar nr cr) := HC2.out.kept (G' := fun _ => False) ((Kept.refl _ w2).alloc _) (fun _ _ _ => id)
    refine (hi_any bs ah nh ch (keepsS s m.o m.q m.key).held m.key _ HW3.out.c0 HW3.out.held.items).mono ?_
    rintro e w3 ⟨rfl, hw3⟩
    have hm3 := HW3.out
    rw [← hw3] at hm3
    have hib : Blk w3 w2.heap.size #[.string m.key, .string m.value, .int .u64 m.count, .int .i32 m.writer] := by rw [hw3]; exact Blk.new _ _ _
    have HK3 : Hid (Kept Gs w w3) := by rw [hw3]; exact HK2.out.alloc _
    have HC3 : Hid (MC w3 Gs bs (keepsS s m.o m.q m.key) ah nh ch ap np cp ar nr cr) := hm3
    have HIB : Hid (Blk w3 w2.heap.size #[.string m.key, .string m.value, .int .u64 m.count, .int .i32 m.writer]) := hib
    clear hm3 hw3 hib p10 s0 s1 HW3 HC2
    go_upto_region 69 with fail
    go_cut [42, 327] from 325 to 326 (fun v d wx => v = .int .i64 (hiOf (keepsS s m.o m.q m.key).held m.key) ∧ d = .bool (decide (0 ≤ hiOf (keepsS s m.o m.q m.key).held m.key)) ∧ wx = w3)
    case first =>
      go_wp2_with fail
      go_meet
      case rel => exact ⟨rfl, rfl, rfl⟩
    case rest =>
    rename World => w3'
    obtain ⟨rfl, rfl, rfl⟩ := hcut
    go_step
    go_cut [42] from 325 to 344 (fun _ wx => MAt wx Gs bs { keepsS s m.o m.q m.key with held := keepL (keepsS s m.o m.q m.key).held ⟨m.key, m.value, m.count, m.writer⟩ } ∧ Kept Gs w wx)
    case first =>
      have d0 := HC3.out.c0
      have g0 := HC3.out.blk.free 0
      have i0 : w3'.cell? ⟨w2.heap.size, 0, none⟩ = some (.string m.key) := HIB.out.cell 0
      have i1 : w3'.cell? ⟨w2.heap.size, 1, none⟩ = some (.string m.value) := HIB.out.cell 1
      have i2 : w3'.cell? ⟨w2.heap.size, 2, none⟩ = some (.int .u64 m.count) := HIB.out.cell 2
      have i3 : w3'.cell? ⟨w2.heap.size, 3, none⟩ = some (.int .i32 m.writer) := HIB.out.cell 3
      have hbsl : bs < w3'.heap.size := HC3.out.blk.lt
      have hixl : w2.heap.size < w3'.heap.size := HIB.out.lt
      rcases hiOf_cases (keepsS s m.o m.q m.key).held m.key with ⟨e1, e2⟩ | ⟨j, y, e1, e2, e3⟩
      · have HKL : Hid (keepL (keepsS s m.o m.q m.key).held ⟨m.key, m.value, m.count, m.writer⟩ = (keepsS s m.o m.q m.key).held ++ [⟨m.key, m.value, m.count, m.writer⟩]) := if_neg (by show ¬ 0 ≤ hiOf _ m.key; rw [e1]; decide)
        have hd : decide ((0 : Int) ≤ hiOf (keepsS s m.o m.q m.key).held m.key) = false := by rw [e1]; decide
        rw [hd, e1]
        clear e1 e2 hd
        obtain ⟨t0, ht0, hz0, hz1, hz2⟩ := info_parts info37
        have HA : Hid (MC (w3'.alloc (.cells #[.string m.key, .string m.value, .int .u64 m.count, .int .i32 m.writer] 37)) Gs bs (keepsS s m.o m.q m.key) ah nh ch ap np cp ar nr cr) := HC3.out.kept (G' := fun _ => False) ((Kept.refl _ w3').alloc _) (fun _ _ _ => id)
        have HNB : Hid (Blk (w3'.alloc (.cells #[.string m.key, .string m.value, .int .u64 m.count, .int .i32 m.writer] 37)) w3'.heap.size #[.string m.key, .string m.value, .int .u64 m.count, .int .i32 m.writer]) := Blk.new _ _ _
        have hnh : nh ≤ 10000 := by have e1 := HC3.out.held.len; rw [keepsS_held] at e1; have := HS.out.hlen; omega
        have HCQ : Hid (some bs ≠ blkOf ah) := fun e => (HC3.out.gh bs e.symm).2 rfl
        go_wp2_with fail
        go_region_law (refine step_append_row (by rfl) (.tmp 339) (.tmp 341) 30 (by rfl) it_len it_one 37 t0 (.agg #[.string ⟨#[]⟩, .string ⟨#[]⟩, .int .u64 0, .int .i32 0]) 48 und30 ht0 hz0 hz1 hz2 rfl ah nh ch (keepsS s m.o m.q m.key).held (by rfl) (by exact HA.out.held.eqv (fun _ _ => rfl)) ⟨w3'.heap.size, 0, none⟩ 1 1 [⟨m.key, m.value, m.count, m.writer⟩] (by rfl) rfl (by exact one_cells4 HNB.out) (by omega) (by omega) ?_; intro a' c2 w4 hrow hgrow hnew; have hg3 := grown_drew hgrow; have hbl := HA.out.blk.grown hg3 HCQ.out; have z1 : w4.cell? ⟨bs, 0, none⟩ = some (.slice ah nh ch) := hbl.cell 0; have z2 := hbl.free 0; have HR : Hid _ := hrow; have HG : Hid _ := hg3; have HW : Hid _ := hnew; clear hrow hgrow hnew hbl hg3)
        all_goals
          go_wp2_with fail
          go_meet
          case rel =>
            rw [HKL.out]
            exact ⟨⟨_, _, _, _, _, _, _, _, _, HA.out.setHeld HR.out HG.out HW.out⟩, ((HK3.out.alloc _).grown HG.out (fun k e => (HC3.out.gh k e).1)).setCell (p := ⟨bs, 0, none⟩) HC3.out.gs _⟩
      · have HKL : Hid (keepL (keepsS s m.o m.q m.key).held ⟨m.key, m.value, m.count, m.writer⟩ = (keepsS s m.o m.q m.key).held.set j ⟨m.key, m.value, m.count, m.writer⟩) := by
          show keepL _ _ = _
          unfold keepL
          simp only []
          rw [e1, if_pos (by omega)]
          rfl
        obtain ⟨h1, h2', h3⟩ := HC3.out.held.items
        have hjl := (List.getElem?_eq_some_iff.1 e2).1
        rcases h3 with h0 | ⟨b1, o1, rfl, hcell⟩
        · omega
        obtain ⟨q0, q1, q2, q3⟩ := hcell j y e2
        have jn : (j : Int) < (nh : Int) := by omega
        have HJ : Hid (j < nh) := by show j < nh; omega
        obtain ⟨fr0, fr1, fr2, fr3⟩ : w3'.frozen? ⟨b1, o1 + j * 4, none⟩ = false ∧ w3'.frozen? ⟨b1, o1 + j * 4 + 1, none⟩ = false ∧ w3'.frozen? ⟨b1, o1 + j * 4 + 2, none⟩ = false ∧ w3'.frozen? ⟨b1, o1 + j * 4 + 3, none⟩ = false := by
          rcases HC3.out.held.row with ⟨h0, _⟩ | ⟨b', o', cs', h1, h2, _⟩
          · cases h0
          · cases h1; exact ⟨h2.free _, h2.free _, h2.free _, h2.free _⟩
        have hd : decide ((0 : Int) ≤ hiOf (keepsS s m.o m.q m.key).held m.key) = true := by rw [e1]; simp
        rw [hd, e1]
        clear hcell h1 h2' e1 e2 e3 hjl hd
        go_wp2_with fail
        go_region
        all_goals
          go_wp2_with fail
          go_meet
          case rel =>
            rw [HKL.out]
            have hg : w3'.grownBy (((((w3'.setCell ⟨b1, o1 + j * 4, none⟩ (.string m.key)).setCell ⟨b1, o1 + j * 4 + 1, none⟩ (.string m.value)).setCell ⟨b1, o1 + j * 4 + 2, none⟩ (.int .u64 m.count)).setCell ⟨b1, o1 + j * 4 + 3, none⟩ (.int .i32 m.writer))) (blkOf (some ⟨b1, o1, none⟩)) :=
              grown_set (grown_set (grown_set (grown_set (grown_refl _ _) _ _) _ _) _ _) _ _
            exact ⟨⟨_, _, _, _, _, _, _, _, _, (HC3.out.setItems (HC3.out.held.setItem j HJ.out ⟨m.key, m.value, m.count, m.writer⟩) hg).kept (G' := fun _ => False) (Kept.refl _ _).drew (fun _ _ _ => id)⟩, (HK3.out.grown hg (fun k e => (HC3.out.gh k e).1)).drew⟩
    case rest =>
    rename World => w4
    obtain ⟨hm4, hk4⟩ := hcut
    obtain ⟨s2, hs2⟩ : ∃ s2 : MS, s2 = { keepsS s m.o m.q m.key with held := keepL (keepsS s m.o m.q m.key).held ⟨m.key, m.value, m.count, m.writer⟩ } := ⟨_, rfl⟩
    rw [← hs2] at hm4
    have HPS : Hid (putS s m = { s2 with told := toldOf s2.held.length s2.told }) := by
      show putS s m = _
      rw [hs2]
      exact if_pos HPF.out
    have HK4 : Hid (Kept Gs w w4) := hk4
    obtain ⟨ah4, nh4, ch4, ap4, np4, cp4, ar4, nr4, cr4, hm4⟩ := hm4
    have HC4 : Hid (MC w4 Gs bs s2 ah4 nh4 ch4 ap4 np4 cp4 ar4 nr4 cr4) := hm4
    have HW4 : Hid (Blk w4 wb m.reply.cells) := HS.out.want.kept hk4 HS.out.far.2.2.1
    have d0 := hm4.c0
    have d4 := hm4.c4
    have g4 := hm4.blk.free 4
    have w13 : w4.cell? ⟨wb, 13, none⟩ = some (.bool false) := HW4.out.cell 13
    have f13 := HW4.out.free 13
    have hne : wb ≠ bs := fun e => HS.out.far.2.2.1 (e ▸ hm4.gs)
    have HL : Hid (s2.held.length = nh4) := hm4.held.len
    clear hm4 hk4 hs2 HC3 HIB HK3 HK2 HM2
    obtain ⟨E, hE⟩ : ∃ E, (if 1 < wrap64 (s2.told.tdiv 64) then wrap64 (s2.told.tdiv 64) else 1) = E := ⟨_, rfl⟩
    have hst : stepOf s2.told = wrap64 (s2.told + E) := by unfold stepOf; rw [hE]
    go_step
    by_cases hd : (nh4 : Int) < stepOf s2.told
    · have HT : Hid (toldOf s2.held.length s2.told = s2.told) := by show toldOf _ _ = _; rw [HL.out]; exact if_pos hd
      have hd1 : decide (wrap64 (s2.told + E) ≤ (nh4 : Int)) = false := decide_eq_false (by rw [← hst]; omega)
      clear hd hst
      go_wp2_with fail
      go_quiet (fail)
      go_wp2_with fail
      refine HKK.out _ _ (tail25 (HS.out.toPre (((HK4.out.mono (fun _ h => .inl h)).drewN _).setCell (p := ⟨wb, 13, none⟩) (.inr rfl) _) ?_ ?_) ?_)
      · rw [HE.out.2.1, HPS.out, HT.out]
        exact MAt.setFar ⟨_, _, _, _, _, _, _, _, _, HC4.out.kept (G' := fun _ => False) ((Kept.refl _ w4).drewN _) (fun _ _ _ => id)⟩ HS.out.far.2.2.1 13 _
      · rw [HE.out.1, HPF.out]; exact Blk.set (w := w4.drewN _) HW4.out 13 _
      · rw [HE.out.2.2, HPF.out]; rfl
    · have HT : Hid (toldOf s2.held.length s2.told = nh4) := by show toldOf _ _ = _; rw [HL.out]; exact if_neg hd
      have hd1 : decide (wrap64 (s2.told + E) ≤ (nh4 : Int)) = true := decide_eq_true (by rw [← hst]; omega)
      clear hd hst
      go_wp2_with fail
      go_quiet (fail)
      go_wp2_with fail
      refine HKK.out _ _ (tail25 (HS.out.toPre ((((HK4.out.mono (fun _ h => .inl h)).drewN _).setCell (p := ⟨bs, 4, none⟩) (.inl HC4.out.gs) _).setCell (p := ⟨wb, 13, none⟩) (.inr rfl) _) ?_ ?_) ?_)
      · rw [HE.out.2.1, HPS.out, HT.out]
        exact MAt.setFar ⟨_, _, _, _, _, _, _, _, _, (HC4.out.kept (G' := fun _ => False) ((Kept.refl _ w4).drewN _) (fun _ _ _ => id)).setTold nh4⟩ HS.out.far.2.2.1 13 _
      · rw [HE.out.1, HPF.out]
        exact ((Blk.other (w := w4.drewN _) HW4.out hne 4 _).set 13 _)
      · rw [HE.out.2.2, HPF.out]; rfl

end Go.Proofs.YbulkdywgDoor
