/-
  Seat b6272aD: the law's loop over the model's pairs.
-/
import Derived.Test.YbulkdywgDoorT30
namespace Go.Proofs.YbulkdywgDoor
open Go.RowKit
set_option linter.unusedVariables false

theorem find_mem {res : List Pr} (h : res.Pairwise (fun p p' => ¬ (p.o = p'.o ∧ p.q = p'.q))) {p : Pr} (hp : p ∈ res) : res.find? (isOp p.o p.q) = some p := by
  induction res with
  | nil => simp at hp
  | cons x r ih =>
    rw [List.pairwise_cons] at h
    rcases List.mem_cons.1 hp with rfl | hp
    · simp [isOp]
    · have hx : isOp p.o p.q x = false := by
        rw [← Bool.not_eq_true]
        intro e
        exact h.1 p hp (isOp_iff.1 e)
      rw [List.find?_cons, hx]
      exact ih h.2 hp
theorem look_mem {res : List Pr} (h : Fine res) {p : Pr} (hp : p ∈ res) : lookR res p.o p.q = p.key ∧ res.any (isOp p.o p.q) = true := by
  refine ⟨by unfold lookR; rw [find_mem h.apart hp]; rfl, List.any_eq_true.2 ⟨p, hp, isOp_iff.2 ⟨rfl, rfl⟩⟩⟩

theorem NAt.quiet {w w' : World} {G : Nat → Prop} {nb cb tb mb : Nat} {keeps bits : Int} {s : MS} {nm : Nat} (h : NAt w G nb cb tb mb keeps bits nm s) (hk : Kept (fun _ => False) w w') : NAt w' G nb cb tb mb keeps bits nm s := by
  obtain ⟨_, _, _, _, _, _, _, h⟩ := h
  exact ⟨_, _, _, _, _, _, _, h.quiet hk⟩
theorem MAt.quiet {w w' : World} {G : Nat → Prop} {bs : Nat} {s : MS} (h : MAt w G bs s) (hk : Kept (fun _ => False) w w') : MAt w' G bs s := by
  obtain ⟨_, _, _, _, _, _, _, _, _, h⟩ := h
  exact ⟨_, _, _, _, _, _, _, _, _, h.kept hk (fun _ _ _ => id)⟩
theorem Below.keptB {w0 w w' : World} (h : Below w0.heap.size w0 w) (hk : Kept (fun _ => False) w w') : Below w0.heap.size w0 w' :=
  ⟨hk.os.trans h.os, hk.tape.trans h.tape, hk.output.trans h.output, Nat.le_trans h.size hk.size, fun i hi => (hk.block i (Nat.lt_of_lt_of_le hi h.size) id).trans (h.block i hi)⟩

set_option maxHeartbeats 4000000 in
set_option maxRecDepth 100000 in
theorem tail29 {u0 u1 u2 u3 u4 u5 u6 u7 u8 u9 u11 u12 u13 u14 u15 u16 u17 u18 u19 u20 u21 u22 u23 u24 u25 u26 u27 u28 u29 u30 u31 u32 u33 u34 u37 u38 u39 u40 u41 u42 u43 u44 u45 u46 u47 u48 u49 u50 u51 u52 u53 u54 u55 u56 u57 u58 u59 u60 u61 u62 u63 u64 u65 u66 u67 u68 u69 u70 u71 u72 u73 u74 u75 u76 u77 u78 u79 u80 u81 u82 u83 u84 u85 u86 u87 u88 u89 u90 u91 u92 u93 u94 u95 u96 u97 u98 u99 u100 u101 u102 u103 u104 u105 u106 u107 u108 u109 u110 u111 u112 u113 u114 u115 u116 u117 u118 u119 u120 u121 u122 u123 u124 u125 u126 u127 u128 u129 u130 u131 u132 u133 u134 u135 u136 u137 u138 u139 u140 u141 u142 u143 u144 u145 u146 u147 u148 u149 u150 u151 u152 u153 u154 u155 u156 u157 u158 u159 u160 u161 u162 u163 u164 u165 u166 u167 u168 u169 u170 u171 u172 u173 u174 u175 u176 u177 u178 u179 u180 u181 u182 u183 u184 u185 u186 u187 u188 u189 u190 u191 u192 u193 u194 u195 u196 u197 u198 u199 u200 u201 u202 u203 u204 u205 u206 u207 u208 u209 u210 u211 u212 u213 u214 u215 u216 u217 u218 u219 u220 u221 u222 u223 u224 u225 u226 u227 u228 u229 u230 u231 u232 u233 u234 u235 u236 u237 u238 u239 u240 u241 u242 u243 u244 u245 u246 u247 u248 u249 u250 u251 u252 u253 u254 u255 u256 u257 u258 u259 u260 u261 u262 u263 u264 u265 u266 u267 u268 u269 u270 u271 u272 u273 u274 u275 u276 u277 u278 u279 u280 u281 u282 u283 u284 u285 u286 u287 u288 u289 u290 u291 u292 u293 u294 u295 u296 u297 u298 u299 u300 u301 u302 u303 u304 u305 u306 u307 u308 u309 u310 u311 u312 u313 u314 u315 u316 u317 u318 u319 u320 u321 u322 u323 u324 u325 u326 u327 u328 u329 u330 u331 u332 u333 u334 u335 u336 u337 u338 u339 u340 u341 u342 u343 u344 u345 u346 u347 u348 u349 u350 u351 u352 u353 u354 u355 u356 u357 u358 u359 u360 u361 u362 u363 u364 u365 u366 u367 u368 u369 u370 u371 u372 u373 u374 u375 u376 u377 u378 u379 u380 u381 u382 u383 u384 u385 u386 u387 u388 u389 u390 u391 u392 u393 u394 u395 u396 u397 u398 u399 u400 u401 u402 u403 u404 u405 u406 u407 u408 u409 u410 u411 u412 u413 u414 u415 u416 u417 u418 u419 u420 u421 u422 u423 u424 u425 u426 u427 u428 u429 u430 u431 u432 u433 u434 u435 u436 u437 u438 u439 u440 u441 u442 u443 u444 u445 u446 u447 u448 u449 u450 u451 u452 u453 u454 u455 u456 u457 u458 u459 u460 u461 u462 u463 u464 u465 u466 u467 u468 u469 u470 u471 u472 u473 u474 u475 u476 u477 u478 u479 u480 u481 u482 u483 u484 u485 u486 u487 u488 u489 u490 u491 u492 u493 u494 u495 u496 u497 u498 u499 u500 u501 u502 u503 u504 u505 u506 u507 u508 u509 u510 u511 u512 u513 u514 u515 u516 u517 u518 u519 u520 u521 u522 u523 u524 u525 u526 u527 u528 u529 u530 u531 u532 u533 u534 u535 u536 u537 u538 u539 u540 u541 u542 u543 u544 u545 u546 u547 u548 u549 u550 u551 u552 u553 u554 u555 u556 u557 u558 u559 u560 u561 u562 u563 u564 u565 u566 u567 u568 u569 u570 u571 u572 u573 u574 u575 u576 u577 u578 u579 u580 u581 u582 u583 u584 u585 u586 u587 u588 u589 u590 u591 u592 u593 u594 u595 u596 u597 u598 u599 u600 u601 u602 u603 u604 u605 u606 u607 u608 u609 u610 u611 u612 u613 u614 u615 u616 u617 u618 u619 u620 u621 u622 u623 u624 u625 u626 u627 : Value} {w0 w : World} {Gn Gs : Nat → Prop} {nb cb tb mb bs nm : Nat} {k bits : Int} {S : MS} (hn : NAt w Gn nb cb tb mb k bits nm S) (hm : MAt w Gs bs S) (hb : Below w0.heap.size w0 w) :
    Code.wp Ybad.prog (dropSeq 29 (Ybad.f3.body.getD .skip)) (bodyPost Ybad.prog Ybad.f3 fun e w' => e = .returned (.bool true) ∧ Below w0.heap.size w0 w') ⟨#[u0, u1, u2, u3, u4, u5, u6, u7, u8, u9, .bool false, u11, u12, u13, u14, u15, u16, u17, u18, u19, u20, u21, u22, u23, u24, u25, u26, u27, u28, u29, u30, u31, u32, u33, u34, .pointer (some ⟨nb, 0, none⟩), .pointer (some ⟨bs, 0, none⟩), u37, u38, u39, u40, u41, u42, u43, u44, u45, u46, u47, u48, u49, u50, u51, u52, u53, u54, u55, u56, u57, u58, u59, u60, u61, u62, u63, u64, u65, u66, u67, u68, u69, u70, u71, u72, u73, u74, u75, u76, u77, u78, u79, u80, u81, u82, u83, u84, u85, u86, u87, u88, u89, u90, u91, u92, u93, u94, u95, u96, u97, u98, u99, u100, u101, u102, u103, u104, u105, u106, u107, u108, u109, u110, u111, u112, u113, u114, u115, u116, u117, u118, u119, u120, u121, u122, u123, u124, u125, u126, u127, u128, u129, u130, u131, u132, u133, u134, u135, u136, u137, u138, u139, u140, u141, u142, u143, u144, u145, u146, u147, u148, u149, u150, u151, u152, u153, u154, u155, u156, u157, u158, u159, u160, u161, u162, u163, u164, u165, u166, u167, u168, u169, u170, u171, u172, u173, u174, u175, u176, u177, u178, u179, u180, u181, u182, u183, u184, u185, u186, u187, u188, u189, u190, u191, u192, u193, u194, u195, u196, u197, u198, u199, u200, u201, u202, u203, u204, u205, u206, u207, u208, u209, u210, u211, u212, u213, u214, u215, u216, u217, u218, u219, u220, u221, u222, u223, u224, u225, u226, u227, u228, u229, u230, u231, u232, u233, u234, u235, u236, u237, u238, u239, u240, u241, u242, u243, u244, u245, u246, u247, u248, u249, u250, u251, u252, u253, u254, u255, u256, u257, u258, u259, u260, u261, u262, u263, u264, u265, u266, u267, u268, u269, u270, u271, u272, u273, u274, u275, u276, u277, u278, u279, u280, u281, u282, u283, u284, u285, u286, u287, u288, u289, u290, u291, u292, u293, u294, u295, u296, u297, u298, u299, u300, u301, u302, u303, u304, u305, u306, u307, u308, u309, u310, u311, u312, u313, u314, u315, u316, u317, u318, u319, u320, u321, u322, u323, u324, u325, u326, u327, u328, u329, u330, u331, u332, u333, u334, u335, u336, u337, u338, u339, u340, u341, u342, u343, u344, u345, u346, u347, u348, u349, u350, u351, u352, u353, u354, u355, u356, u357, u358, u359, u360, u361, u362, u363, u364, u365, u366, u367, u368, u369, u370, u371, u372, u373, u374, u375, u376, u377, u378, u379, u380, u381, u382, u383, u384, u385, u386, u387, u388, u389, u390, u391, u392, u393, u394, u395, u396, u397, u398, u399, u400, u401, u402, u403, u404, u405, u406, u407, u408, u409, u410, u411, u412, u413, u414, u415, u416, u417, u418, u419, u420, u421, u422, u423, u424, u425, u426, u427, u428, u429, u430, u431, u432, u433, u434, u435, u436, u437, u438, u439, u440, u441, u442, u443, u444, u445, u446, u447, u448, u449, u450, u451, u452, u453, u454, u455, u456, u457, u458, u459, u460, u461, u462, u463, u464, u465, u466, u467, u468, u469, u470, u471, u472, u473, u474, u475, u476, u477, u478, u479, u480, u481, u482, u483, u484, u485, u486, u487, u488, u489, u490, u491, u492, u493, u494, u495, u496, u497, u498, u499, u500, u501, u502, u503, u504, u505, u506, u507, u508, u509, u510, u511, u512, u513, u514, u515, u516, u517, u518, u519, u520, u521, u522, u523, u524, u525, u526, u527, u528, u529, u530, u531, u532, u533, u534, u535, u536, u537, u538, u539, u540, u541, u542, u543, u544, u545, u546, u547, u548, u549, u550, u551, u552, u553, u554, u555, u556, u557, u558, u559, u560, u561, u562, u563, u564, u565, u566, u567, u568, u569, u570, u571, u572, u573, u574, u575, u576, u577, u578, u579, u580, u581, u582, u583, u584, u585, u586, u587, u588, u589, u590, u591, u592, u593, u594, u595, u596, u597, u598, u599, u600, u601, u602, u603, u604, u605, u606, u607, u608, u609, u610, u611, u612, u613, u614, u615, u616, u617, u618, u619, u620, u621, u622, u623, u624, u625, u626, u627], []⟩ w := by
  conv => arg 2; whnf
  dsimp only
  have HNA : Hid (NAt w Gn nb cb tb mb k bits nm S) := hn
  have HMA : Hid (MAt w Gs bs S) := hm
  obtain ⟨cs, ah, nh, ch, ar, nr, cr, hn⟩ := hn
  obtain ⟨ah2, nh2, ch2, ap2, np2, cp2, ar2, nr2, cr2, hm⟩ := hm
  have HN : Hid (NC w Gn nb cb tb mb k bits S cs nm ah nh ch ar nr cr) := hn
  have HM : Hid (MC w Gs bs S ah2 nh2 ch2 ap2 np2 cp2 ar2 nr2 cr2) := hm
  have HB : Hid (Below w0.heap.size w0 w) := hb
  have c1 := hm.c1
  have hlp := hm.res.len
  have hsp := hm.res.small
  clear hn hm hb
  go_step
  go_step
  go_cut [10, 51, 52, 53] from 548 to 575 (fun v _ _ _ wx => v = .bool false ∧ Kept (fun _ => False) w wx)
  case first =>
    go_wp2_with fail
    go_loopw [10, 553] (fun v i wr => ∃ j : Nat, v = .bool false ∧ j ≤ np2 ∧ i = .int .i64 j ∧ Hid (Kept (fun _ => False) w wr)) (fun _ i _ => np2 - (intOf i).toNat)
    case atStart => exact ⟨0, rfl, Nat.zero_le _, rfl, Kept.refl _ w⟩
    case round =>
      as_aux_lemma =>
      obtain ⟨j, rfl, hj, rfl, HK⟩ := hrel
      have hn1 := HN.out.quiet HK.out
      have hm1 := HM.out.kept HK.out (fun _ _ _ => id)
      by_cases hlt : j < np2
      · obtain ⟨h1, h2, h3⟩ := hm1.res.pairs
        rcases h3 with h0 | ⟨b1, o1, rfl, hcell⟩
        · omega
        have hx : S.res[j]? = some (S.res[j]'(by omega)) := by simp
        obtain ⟨x, hxx⟩ : ∃ x, S.res[j]? = some x := ⟨_, hx⟩
        obtain ⟨q0, q1, q2⟩ := hcell j x hxx
        have kk : (j : Int) < (np2 : Int) := by omega
        have hmem : x ∈ S.res := List.mem_of_getElem? hxx
        obtain ⟨hk1, hk2⟩ := look_mem hn1.map.1 hmem
        have hin := (hn1.map.1.in4 x hmem).1
        have d86 := hn1.d86
        have hlb : nb < wr.heap.size := hn1.blk.lt
        have hl : ∀ n : Nat, (Instr.lookup 39 (.map (some mb)) (.agg #[.int .i32 x.o, .int .u32 x.q]) true).run Ybad.prog ((wr.alloc (.cells #[.int .i32 x.o, .int .u32 x.q, .string x.key] 47)).drewN n) = .ok (.tuple #[.string x.key, .bool true]) ((wr.alloc (.cells #[.int .i32 x.o, .int .u32 x.q, .string x.key] 47)).drewN n) := fun n => by
          have := ((hn1.map.alloc (.cells #[.int .i32 x.o, .int .u32 x.q, .string x.key] 47)).eqv (w' := (wr.alloc (.cells #[.int .i32 x.o, .int .u32 x.q, .string x.key] 47)).drewN n) rfl).look hin
          rw [hk1, hk2] at this
          exact this
        clear hn1 hm1 h1 h2 hcell hx hxx hmem hk1 hk2 hin c1
        go_wp2_with fail
        go_quiet (fail)
        clear hl
        as_aux_lemma =>
        go_wp2_with fail
        go_roundw
        case rel => exact ⟨j + 1, rfl, by omega, by go_num, (HK.out.alloc _).drewN _⟩
        case measure => simp [intOf]; omega
      · obtain rfl : j = np2 := by omega
        clear hn1 hm1
        go_wp2_with fail
        go_meet
        case rel => exact ⟨rfl, HK.out⟩
  case rest =>
  rename World => w1
  obtain ⟨rfl, hk1⟩ := hcut
  go_step
  exact tail30 (HNA.out.quiet hk1) (HMA.out.quiet hk1) (Below.keptB HB.out hk1)

end Go.Proofs.YbulkdywgDoor
