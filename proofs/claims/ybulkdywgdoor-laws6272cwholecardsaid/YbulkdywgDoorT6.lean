/-
  Seat b6272aD: the law's loop that lays the reserved rooms.
-/
import Derived.Test.YbulkdywgDoorT8
namespace Go.Proofs.YbulkdywgDoor
open Go.RowKit
set_option linter.unusedVariables false

/-- One more entry: laid where no pair bears its name. -/
def addR (acc : List Pr) (z : Rz) : List Pr := if acc.any (isOp (z.o % 4) (z.q % 4)) then acc else acc ++ [⟨z.o % 4, z.q % 4, z.key⟩]
/-- The pairs of these entries. -/
def resOf (zs : List Rz) : List Pr := zs.foldl addR []

theorem resOf_snoc {zs : List Rz} {j : Nat} {x : Rz} (hx : zs[j]? = some x) : resOf (zs.take (j + 1)) = addR (resOf (zs.take j)) x := by
  rw [List.take_add_one, hx]
  simp [resOf, List.foldl_append]

theorem in4_mod (o q : Int) : In4 (o % 4) (q % 4) := ⟨by omega, by omega⟩

/-- What stands ahead of the rooms' loop. -/
structure C9 (w0 w : World) (pb qb : Nat) (ai : Option Addr) (ni ci : Nat) (m : Msg) (k0 o0 q0 : Int) (key0 : ByteArray) (kp bt : Int) (s : MS) (a2 : Option Addr) (n2 : Nat) (ys : List Rz) (a3 : Option Addr) (n3 : Nat) (zs : List Rz) : Prop where
  hd : Hd w0 w pb qb m k0 o0 q0 key0 kp bt s
  it : Row It.cells 4 w ai ni ci s.held
  hlen : s.held.length ≤ 10000
  hit : ∀ x ∈ s.held, x.k.size ≤ maxLen
  ry : Rzs w a2 n2 ys
  hrs : s.res = resOf ys
  rz : Rzs w a3 n3 zs
  hrv : s.rv = rvOf zs

theorem C9.toC8 {w0 w : World} {pb qb : Nat} {ai : Option Addr} {ni ci : Nat} {m : Msg} {k0 o0 q0 : Int} {key0 : ByteArray} {kp bt : Int} {s : MS} {a3 : Option Addr} {n3 : Nat} {zs : List Rz} {a2 : Option Addr} {n2 : Nat} {ys : List Rz} (h : C9 w0 w pb qb ai ni ci m k0 o0 q0 key0 kp bt s a2 n2 ys a3 n3 zs) {w' : World} (hk : Kept (fun k => w.heap.size ≤ k) w w') {ap : Option Addr} {np cp : Nat} (hr : Row Pr.cells 3 w' ap np cp s.res) (hm : RMap w' w.heap.size n2 s.res) : C8 w0 w' w.heap.size pb qb n2 ai ni ci ap np cp m k0 o0 q0 key0 kp bt s a3 n3 zs := by
  have hsz := h.ry.small
  have hl := hm.length_le
  exact ⟨h.hd.kept hk (Nat.le_refl _), hm, h.it.kept hk (fun b e => by have := h.it.lt b e; omega), hr, h.hd.below.size, by omega, h.hlen, by omega, hm.1, h.hit, h.rz.kept hk (Nat.le_refl _), h.hrv⟩

set_option maxHeartbeats 4000000 in
set_option maxRecDepth 100000 in
theorem tail6 {u0 u1 u4 u6 u7 u8 u12 u13 u14 u15 u18 u19 u20 u21 u22 u23 u24 u25 u26 u27 u28 u29 u30 u31 u32 u33 u34 u35 u36 u37 u38 u39 u40 u41 u42 u43 u44 u45 u46 u47 u48 u49 u50 u51 u52 u53 u54 u55 u56 u57 u58 u59 u60 u61 u62 u63 u64 u65 u66 u67 u68 u69 u70 u71 u72 u73 u74 u75 u76 u77 u78 u79 u80 u81 u82 u83 u84 u85 u86 u87 u88 u89 u90 u91 u92 u93 u94 u95 u96 u97 u98 u99 u100 u101 u102 u103 u104 u105 u106 u107 u108 u109 u110 u111 u112 u113 u114 u115 u116 u117 u118 u119 u120 u121 u122 u123 u124 u125 u126 u127 u128 u129 u130 u131 u132 u133 u134 u135 u136 u137 u138 u139 u140 u141 u142 u143 u144 u145 u146 u147 u148 u149 u150 u151 u152 u153 u154 u155 u156 u157 u158 u159 u160 u161 u162 u163 u164 u165 u166 u167 u168 u169 u170 u171 u172 u173 u174 u175 u176 u177 u178 u179 u180 u181 u182 u183 u184 u185 u186 u187 u188 u189 u190 u191 u192 u193 u194 u195 u196 u197 u198 u199 u200 u201 u202 u203 u204 u205 u206 u207 u208 u209 u210 u211 u212 u213 u214 u215 u216 u217 u218 u219 u220 u221 u222 u223 u224 u225 u226 u227 u228 u229 u230 u231 u232 u233 u234 u235 u236 u237 u238 u239 u240 u241 u242 u243 u244 u245 u246 u247 u248 u249 u250 u251 u252 u253 u254 u255 u256 u257 u258 u259 u260 u261 u262 u263 u264 u265 u266 u267 u268 u269 u270 u271 u272 u273 u274 u275 u276 u277 u278 u279 u280 u281 u282 u283 u284 u285 u286 u287 u288 u289 u290 u291 u292 u293 u294 u295 u296 u297 u298 u299 u300 u301 u302 u303 u304 u305 u306 u307 u308 u309 u310 u311 u312 u313 u314 u315 u316 u317 u318 u319 u320 u321 u322 u323 u324 u325 u326 u327 u328 u329 u330 u331 u332 u333 u334 u335 u336 u337 u338 u339 u340 u341 u342 u343 u344 u345 u346 u347 u348 u349 u350 u351 u352 u353 u354 u355 u356 u357 u358 u359 u360 u361 u362 u363 u364 u365 u366 u367 u368 u369 u370 u371 u372 u373 u374 u375 u376 u377 u378 u379 u380 u381 u382 u383 u384 u385 u386 u387 u388 u389 u390 u391 u392 u393 u394 u395 u396 u397 u398 u399 u400 u401 u402 u403 u404 u405 u406 u407 u408 u409 u410 u411 u412 u413 u414 u415 u416 u417 u418 u419 u420 u421 u422 u423 u424 u425 u426 u427 u428 u429 u430 u431 u432 u433 u434 u435 u436 u437 u438 u439 u440 u441 u442 u443 u444 u445 u446 u447 u448 u449 u450 u451 u452 u453 u454 u455 u456 u457 u458 u459 u460 u461 u462 u463 u464 u465 u466 u467 u468 u469 u470 u471 u472 u473 u474 u475 u476 u477 u478 u479 u480 u481 u482 u483 u484 u485 u486 u487 u488 u489 u490 u491 u492 u493 u494 u495 u496 u497 u498 u499 u500 u501 u502 u503 u504 u505 u506 u507 u508 u509 u510 u511 u512 u513 u514 u515 u516 u517 u518 u519 u520 u521 u522 u523 u524 u525 u526 u527 u528 u529 u530 u531 u532 u533 u534 u535 u536 u537 u538 u539 u540 u541 u542 u543 u544 u545 u546 u547 u548 u549 u550 u551 u552 u553 u554 u555 u556 u557 u558 u559 u560 u561 u562 u563 u564 u565 u566 u567 u568 u569 u570 u571 u572 u573 u574 u575 u576 u577 u578 u579 u580 u581 u582 u583 u584 u585 u586 u587 u588 u589 u590 u591 u592 u593 u594 u595 u596 u597 u598 u599 u600 u601 u602 u603 u604 u605 u606 u607 u608 u609 u610 u611 u612 u613 u614 u615 u616 u617 u618 u619 u620 u621 u622 u623 u624 u625 u626 u627 : Value} {w0 w : World} {pb qb : Nat} {ai : Option Addr} {ni ci : Nat} {m : Msg} {k0 o0 q0 : Int} {key0 : ByteArray} {kp bt : Int} {s : MS} {a3 : Option Addr} {n3 c3 : Nat} {zs : List Rz} {a2 : Option Addr} {n2 c2 : Nat} {ys : List Rz} (hA : C9 w0 w pb qb ai ni ci m k0 o0 q0 key0 kp bt s a2 n2 ys a3 n3 zs) :
    Code.wp Ybad.prog (dropSeq 6 (Ybad.f3.body.getD .skip)) (bodyPost Ybad.prog Ybad.f3 fun e w' => e = .returned (.bool true) ∧ Below w0.heap.size w0 w') ⟨#[u0, u1, .slice a2 n2 c2, .slice a3 n3 c3, u4, .pointer (some ⟨pb, 0, none⟩), u6, u7, u8, .pointer (some ⟨qb, 0, none⟩), .bool false, .slice ai ni ci, u12, u13, u14, u15, .slice none 0 0, .map (some w.heap.size), u18, u19, u20, u21, u22, u23, u24, u25, u26, u27, u28, u29, u30, u31, u32, u33, u34, u35, u36, u37, u38, u39, u40, u41, u42, u43, u44, u45, u46, u47, u48, u49, u50, u51, u52, u53, u54, u55, u56, u57, u58, u59, u60, u61, u62, u63, u64, u65, u66, u67, u68, u69, u70, u71, u72, u73, u74, u75, u76, u77, u78, u79, u80, u81, u82, u83, u84, u85, u86, u87, u88, u89, u90, u91, u92, u93, u94, u95, u96, u97, u98, u99, u100, u101, u102, u103, u104, u105, u106, u107, u108, u109, u110, u111, u112, u113, u114, u115, u116, u117, u118, u119, u120, u121, u122, u123, u124, u125, u126, u127, u128, u129, u130, u131, u132, u133, u134, u135, u136, u137, u138, u139, u140, u141, u142, u143, u144, u145, u146, u147, u148, u149, u150, u151, u152, u153, u154, u155, u156, u157, u158, u159, u160, u161, u162, u163, u164, u165, u166, u167, u168, u169, u170, u171, u172, u173, u174, u175, u176, u177, u178, u179, u180, u181, u182, u183, u184, u185, u186, u187, u188, u189, u190, u191, u192, u193, u194, u195, u196, u197, u198, u199, u200, u201, u202, u203, u204, u205, u206, u207, u208, u209, u210, u211, u212, u213, u214, u215, u216, u217, u218, u219, u220, u221, u222, u223, u224, u225, u226, u227, u228, u229, u230, u231, u232, u233, u234, u235, u236, u237, u238, u239, u240, u241, u242, u243, u244, u245, u246, u247, u248, u249, u250, u251, u252, u253, u254, u255, u256, u257, u258, u259, u260, u261, u262, u263, u264, u265, u266, u267, u268, u269, u270, u271, u272, u273, u274, u275, u276, u277, u278, u279, u280, u281, u282, u283, u284, u285, u286, u287, u288, u289, u290, u291, u292, u293, u294, u295, u296, u297, u298, u299, u300, u301, u302, u303, u304, u305, u306, u307, u308, u309, u310, u311, u312, u313, u314, u315, u316, u317, u318, u319, u320, u321, u322, u323, u324, u325, u326, u327, u328, u329, u330, u331, u332, u333, u334, u335, u336, u337, u338, u339, u340, u341, u342, u343, u344, u345, u346, u347, u348, u349, u350, u351, u352, u353, u354, u355, u356, u357, u358, u359, u360, u361, u362, u363, u364, u365, u366, u367, u368, u369, u370, u371, u372, u373, u374, u375, u376, u377, u378, u379, u380, u381, u382, u383, u384, u385, u386, u387, u388, u389, u390, u391, u392, u393, u394, u395, u396, u397, u398, u399, u400, u401, u402, u403, u404, u405, u406, u407, u408, u409, u410, u411, u412, u413, u414, u415, u416, u417, u418, u419, u420, u421, u422, u423, u424, u425, u426, u427, u428, u429, u430, u431, u432, u433, u434, u435, u436, u437, u438, u439, u440, u441, u442, u443, u444, u445, u446, u447, u448, u449, u450, u451, u452, u453, u454, u455, u456, u457, u458, u459, u460, u461, u462, u463, u464, u465, u466, u467, u468, u469, u470, u471, u472, u473, u474, u475, u476, u477, u478, u479, u480, u481, u482, u483, u484, u485, u486, u487, u488, u489, u490, u491, u492, u493, u494, u495, u496, u497, u498, u499, u500, u501, u502, u503, u504, u505, u506, u507, u508, u509, u510, u511, u512, u513, u514, u515, u516, u517, u518, u519, u520, u521, u522, u523, u524, u525, u526, u527, u528, u529, u530, u531, u532, u533, u534, u535, u536, u537, u538, u539, u540, u541, u542, u543, u544, u545, u546, u547, u548, u549, u550, u551, u552, u553, u554, u555, u556, u557, u558, u559, u560, u561, u562, u563, u564, u565, u566, u567, u568, u569, u570, u571, u572, u573, u574, u575, u576, u577, u578, u579, u580, u581, u582, u583, u584, u585, u586, u587, u588, u589, u590, u591, u592, u593, u594, u595, u596, u597, u598, u599, u600, u601, u602, u603, u604, u605, u606, u607, u608, u609, u610, u611, u612, u613, u614, u615, u616, u617, u618, u619, u620, u621, u622, u623, u624, u625, u626, u627], []⟩ (w.alloc (.map #[] 0)) := by
  conv => arg 2; whnf
  dsimp only
  have HA : Hid (C9 w0 w pb qb ai ni ci m k0 o0 q0 key0 kp bt s a2 n2 ys a3 n3 zs) := hA
  obtain ⟨hz1, hz2, hz4, hz3⟩ := hA.ry
  have HZ3 : Hid _ := hz3
  have HZ4 : Hid _ := hz4
  have HRS : Hid _ := hA.hrs
  clear hA hz3 hz4
  go_step
  go_step
  go_cut [16, 19, 20, 21, 22] from 100 to 130 (fun r _ _ _ _ wx => ∃ ap np cp, r = .slice ap np cp ∧ Row Pr.cells 3 wx ap np cp s.res ∧ RMap wx w.heap.size n2 s.res ∧ Kept (fun k => w.heap.size ≤ k) w wx)
  case first =>
    go_wp2_with fail
    go_loopw [16, 102] (fun r i wr => ∃ (j : Nat) (ap : Option Addr) (np cp : Nat), j ≤ n2 ∧ r = .slice ap np cp ∧ i = .int .i64 j ∧ Hid (Row Pr.cells 3 wr ap np cp (resOf (ys.take j)) ∧ RMap wr w.heap.size j (resOf (ys.take j)) ∧ Kept (fun k => w.heap.size ≤ k) w wr ∧ ∀ b, blkOf ap = some b → w.heap.size < b)) (fun _ i _ => n2 - (intOf i).toNat)
    case atStart => exact ⟨0, none, 0, 0, Nat.zero_le _, rfl, rfl, Row.nil (by omega), RMap.made w, (Kept.refl _ w).alloc _, by simp [blkOf]⟩
    case round =>
      as_aux_lemma =>
      obtain ⟨j, ap, np, cp, hj, rfl, rfl, HR⟩ := hrel
      by_cases hlt : j < n2
      · rcases HZ3.out with h0 | ⟨b1, o1, rfl, hcell⟩
        · omega
        obtain ⟨x, hxx⟩ : ∃ x, ys[j]? = some x := ⟨ys[j]'(by omega), by simp⟩
        obtain ⟨q0, q1, q2, q3⟩ := hcell j x hxx
        replace q0 := cell_kept HR.out.2.2.1 (Nat.le_refl _) q0
        replace q1 := cell_kept HR.out.2.2.1 (Nat.le_refl _) q1
        replace q2 := cell_kept HR.out.2.2.1 (Nat.le_refl _) q2
        replace q3 := cell_kept HR.out.2.2.1 (Nat.le_refl _) q3
        have kk : (j : Int) < (n2 : Int) := by omega
        have HXX : Hid _ := hxx
        have HXQ : Hid (0 ≤ x.q ∧ x.key.size ≤ maxLen) := HZ4.out x (List.mem_of_getElem? hxx)
        have HNP : Hid (np ≤ j) := by have := HR.out.2.1.length_le; have := HR.out.1.len; show np ≤ j; omega
        obtain ⟨i0, hi0, hy0, hy1, hy2⟩ := info_parts info47
        clear hcell hxx
        go_wp2_with fail
        clear q0 q1 q2 q3
        refine (op_any x.o x.q _ HXQ.out.1).mono ?_
        rintro e w1 ⟨rfl, hk1⟩
        have hbx : Blk w1 wr.heap.size #[.int .i32 x.o, .int .u32 x.q, .string x.key, .int .i64 x.t] := (Blk.new wr _ 41).kept hk1 id
        have hmp := (HR.out.2.1.alloc (.cells #[.int .i32 x.o, .int .u32 x.q, .string x.key, .int .i64 x.t] 41)).kept hk1 id
        have hlk := (hmp.alloc (.cells #[.int .i32 (x.o % 4), .int .u32 (x.q % 4)] 43)).look (in4_mod x.o x.q)
        have hrow0 := (HR.out.1.alloc (.cells #[.int .i32 x.o, .int .u32 x.q, .string x.key, .int .i64 x.t] 41)).kept hk1 (fun _ _ => id)
        have HK1 : Hid (Kept (fun k => w.heap.size ≤ k) w w1) := (HR.out.2.2.1.alloc _).trans (hk1.mono (fun _ => False.elim))
        have hlt1 : wr.heap.size < w1.heap.size := hbx.lt
        have y2 : w1.cell? ⟨wr.heap.size, 2, none⟩ = some (.string x.key) := hbx.cell 2
        have HBX : Hid (Blk w1 wr.heap.size #[.int .i32 x.o, .int .u32 x.q, .string x.key, .int .i64 x.t]) := hbx
        have HMP : Hid (RMap w1 w.heap.size j (resOf (ys.take j))) := hmp
        have HROW0 : Hid _ := hrow0
        clear hk1 hbx hmp hrow0
        unfold opV at hlk ⊢
        by_cases hany : (resOf (ys.take j)).any (isOp (x.o % 4) (x.q % 4)) = true
        · rw [hany] at hlk
          go_wp2_with fail
          go_roundw
          case rel =>
            refine ⟨j + 1, ap, np, cp, by omega, rfl, by go_num, ?_, ?_, HK1.out.alloc _, HR.out.2.2.2⟩
            · rw [resOf_snoc HXX.out, addR, if_pos hany]
              exact HROW0.out.alloc _
            · rw [resOf_snoc HXX.out, addR, if_pos hany]
              exact (HMP.out.alloc _).mono (by omega)
          case measure => simp [intOf]; omega
        · have hno : (resOf (ys.take j)).any (isOp (x.o % 4) (x.q % 4)) = false := by simpa using hany
          rw [hno] at hlk
          obtain ⟨w2, hput, hm2, hg2, hs2⟩ := (HMP.out.alloc (.cells #[.int .i32 (x.o % 4), .int .u32 (x.q % 4)] 43)).put (in4_mod x.o x.q) HXQ.out.2 (by have := HMP.out.length_le; simp only [maxLen]; omega)
          rw [setR_new hno] at hm2
          have hob2 : Blk w2 w1.heap.size #[.int .i32 (x.o % 4), .int .u32 (x.q % 4)] := (Blk.new w1 _ 43).grown hg2 (by have := HMP.out.lt; simp; omega)
          have hbx2 := (HBX.out.alloc (.cells #[.int .i32 (x.o % 4), .int .u32 (x.q % 4)] 43)).grown hg2 (by have := HR.out.2.1.lt; simp; omega)
          have hrow2 := (HROW0.out.alloc (.cells #[.int .i32 (x.o % 4), .int .u32 (x.q % 4)] 43)).grown hg2 (fun b e => by have := HR.out.2.2.2 b e; simp; omega)
          have HK2 : Hid (Kept (fun k => w.heap.size ≤ k) w w2) := (HK1.out.alloc _).grown hg2 (fun k e => by simp at e; omega)
          have o0' : w2.cell? ⟨w1.heap.size, 0, none⟩ = some (.int .i32 (x.o % 4)) := hob2.cell 0
          have o1' : w2.cell? ⟨w1.heap.size, 1, none⟩ = some (.int .u32 (x.q % 4)) := hob2.cell 1
          have y2' : w2.cell? ⟨wr.heap.size, 2, none⟩ = some (.string x.key) := hbx2.cell 2
          have HM2 : Hid (RMap w2 w.heap.size (j + 1) (resOf (ys.take j) ++ [⟨x.o % 4, x.q % 4, x.key⟩])) := hm2
          have HROW2 : Hid _ := hrow2
          have HNP := HNP.out
          unfold opV at hput
          clear hg2 hm2 hob2 hbx2 hrow2 hs2
          go_wp2_with (at_builtin; refine wpList_append_row _ rfl (.tmp 123) (.tmp 128) 38 rfl pr_len pr_one 47 i0 (.agg #[.int .i32 0, .int .u32 0, .string ⟨#[]⟩]) 24 und38 hi0 hy0 hy1 hy2 rfl ap np cp (resOf (ys.take j)) rfl (HROW2.out.alloc _) ⟨w2.heap.size, 0, none⟩ 1 1 [⟨x.o % 4, x.q % 4, x.key⟩] rfl rfl (one_cells3 (Blk.new w2 _ _)) (by omega) (by omega) ?_; intro a5 c5 w5 hrow hgrow hnew hnone; have HR5 : Hid _ := hrow; have HG5 : Hid _ := hgrow; have HW5 : Hid _ := hnew; clear hrow hgrow hnew hnone)
          go_roundw
          case rel =>
            have hlo := HR.out.2.1.lt
            have hsz2 := HK2.out.size
            refine ⟨j + 1, a5, np + 1, c5, by omega, rfl, by go_num, ?_, ?_, (HK2.out.alloc _).grown HG5.out (fun k e => by have := HR.out.2.2.2 k e; omega), fun b e => ?_⟩
            · rw [resOf_snoc HXX.out, addR, if_neg hany]
              exact HR5.out
            · rw [resOf_snoc HXX.out, addR, if_neg hany]
              exact (HM2.out.alloc _).grown HG5.out (fun e => by have := HR.out.2.2.2 _ e.symm; omega)
            · rcases HW5.out b e with h | h
              · exact HR.out.2.2.2 b h
              · have hl2 := HM2.out.lt
                simp at h
                omega
          case measure => simp [intOf]; omega
      · obtain rfl : j = n2 := by omega
        go_wp2_with fail
        go_meet
        case rel =>
          have h1 := HR.out.1
          have h2 := HR.out.2.1
          rw [List.take_of_length_le (by omega)] at h1 h2
          rw [HRS.out]
          exact ⟨ap, np, cp, rfl, h1, h2, HR.out.2.2.1⟩
  case rest =>
  rename World => w1
  obtain ⟨ap, np, cp, rfl, hr1, hm1, hk1⟩ := hcut
  go_step
  exact tail7 (HA.out.toC8 hk1 hr1 hm1)

set_option maxHeartbeats 4000000 in
set_option maxRecDepth 100000 in
theorem tail5 {u0 u1 u4 u6 u7 u8 u12 u13 u14 u15 u17 u18 u19 u20 u21 u22 u23 u24 u25 u26 u27 u28 u29 u30 u31 u32 u33 u34 u35 u36 u37 u38 u39 u40 u41 u42 u43 u44 u45 u46 u47 u48 u49 u50 u51 u52 u53 u54 u55 u56 u57 u58 u59 u60 u61 u62 u63 u64 u65 u66 u67 u68 u69 u70 u71 u72 u73 u74 u75 u76 u77 u78 u79 u80 u81 u82 u83 u84 u85 u86 u87 u88 u89 u90 u91 u92 u93 u94 u95 u96 u97 u98 u99 u100 u101 u102 u103 u104 u105 u106 u107 u108 u109 u110 u111 u112 u113 u114 u115 u116 u117 u118 u119 u120 u121 u122 u123 u124 u125 u126 u127 u128 u129 u130 u131 u132 u133 u134 u135 u136 u137 u138 u139 u140 u141 u142 u143 u144 u145 u146 u147 u148 u149 u150 u151 u152 u153 u154 u155 u156 u157 u158 u159 u160 u161 u162 u163 u164 u165 u166 u167 u168 u169 u170 u171 u172 u173 u174 u175 u176 u177 u178 u179 u180 u181 u182 u183 u184 u185 u186 u187 u188 u189 u190 u191 u192 u193 u194 u195 u196 u197 u198 u199 u200 u201 u202 u203 u204 u205 u206 u207 u208 u209 u210 u211 u212 u213 u214 u215 u216 u217 u218 u219 u220 u221 u222 u223 u224 u225 u226 u227 u228 u229 u230 u231 u232 u233 u234 u235 u236 u237 u238 u239 u240 u241 u242 u243 u244 u245 u246 u247 u248 u249 u250 u251 u252 u253 u254 u255 u256 u257 u258 u259 u260 u261 u262 u263 u264 u265 u266 u267 u268 u269 u270 u271 u272 u273 u274 u275 u276 u277 u278 u279 u280 u281 u282 u283 u284 u285 u286 u287 u288 u289 u290 u291 u292 u293 u294 u295 u296 u297 u298 u299 u300 u301 u302 u303 u304 u305 u306 u307 u308 u309 u310 u311 u312 u313 u314 u315 u316 u317 u318 u319 u320 u321 u322 u323 u324 u325 u326 u327 u328 u329 u330 u331 u332 u333 u334 u335 u336 u337 u338 u339 u340 u341 u342 u343 u344 u345 u346 u347 u348 u349 u350 u351 u352 u353 u354 u355 u356 u357 u358 u359 u360 u361 u362 u363 u364 u365 u366 u367 u368 u369 u370 u371 u372 u373 u374 u375 u376 u377 u378 u379 u380 u381 u382 u383 u384 u385 u386 u387 u388 u389 u390 u391 u392 u393 u394 u395 u396 u397 u398 u399 u400 u401 u402 u403 u404 u405 u406 u407 u408 u409 u410 u411 u412 u413 u414 u415 u416 u417 u418 u419 u420 u421 u422 u423 u424 u425 u426 u427 u428 u429 u430 u431 u432 u433 u434 u435 u436 u437 u438 u439 u440 u441 u442 u443 u444 u445 u446 u447 u448 u449 u450 u451 u452 u453 u454 u455 u456 u457 u458 u459 u460 u461 u462 u463 u464 u465 u466 u467 u468 u469 u470 u471 u472 u473 u474 u475 u476 u477 u478 u479 u480 u481 u482 u483 u484 u485 u486 u487 u488 u489 u490 u491 u492 u493 u494 u495 u496 u497 u498 u499 u500 u501 u502 u503 u504 u505 u506 u507 u508 u509 u510 u511 u512 u513 u514 u515 u516 u517 u518 u519 u520 u521 u522 u523 u524 u525 u526 u527 u528 u529 u530 u531 u532 u533 u534 u535 u536 u537 u538 u539 u540 u541 u542 u543 u544 u545 u546 u547 u548 u549 u550 u551 u552 u553 u554 u555 u556 u557 u558 u559 u560 u561 u562 u563 u564 u565 u566 u567 u568 u569 u570 u571 u572 u573 u574 u575 u576 u577 u578 u579 u580 u581 u582 u583 u584 u585 u586 u587 u588 u589 u590 u591 u592 u593 u594 u595 u596 u597 u598 u599 u600 u601 u602 u603 u604 u605 u606 u607 u608 u609 u610 u611 u612 u613 u614 u615 u616 u617 u618 u619 u620 u621 u622 u623 u624 u625 u626 u627 : Value} {w0 w : World} {pb qb : Nat} {ai : Option Addr} {ni ci : Nat} {m : Msg} {k0 o0 q0 : Int} {key0 : ByteArray} {kp bt : Int} {s : MS} {a3 : Option Addr} {n3 c3 : Nat} {zs : List Rz} {a2 : Option Addr} {n2 c2 : Nat} {ys : List Rz} (hA : C9 w0 w pb qb ai ni ci m k0 o0 q0 key0 kp bt s a2 n2 ys a3 n3 zs) :
    Code.wp Ybad.prog (dropSeq 5 (Ybad.f3.body.getD .skip)) (bodyPost Ybad.prog Ybad.f3 fun e w' => e = .returned (.bool true) ∧ Below w0.heap.size w0 w') ⟨#[u0, u1, .slice a2 n2 c2, .slice a3 n3 c3, u4, .pointer (some ⟨pb, 0, none⟩), u6, u7, u8, .pointer (some ⟨qb, 0, none⟩), .bool false, .slice ai ni ci, u12, u13, u14, u15, .slice none 0 0, u17, u18, u19, u20, u21, u22, u23, u24, u25, u26, u27, u28, u29, u30, u31, u32, u33, u34, u35, u36, u37, u38, u39, u40, u41, u42, u43, u44, u45, u46, u47, u48, u49, u50, u51, u52, u53, u54, u55, u56, u57, u58, u59, u60, u61, u62, u63, u64, u65, u66, u67, u68, u69, u70, u71, u72, u73, u74, u75, u76, u77, u78, u79, u80, u81, u82, u83, u84, u85, u86, u87, u88, u89, u90, u91, u92, u93, u94, u95, u96, u97, u98, u99, u100, u101, u102, u103, u104, u105, u106, u107, u108, u109, u110, u111, u112, u113, u114, u115, u116, u117, u118, u119, u120, u121, u122, u123, u124, u125, u126, u127, u128, u129, u130, u131, u132, u133, u134, u135, u136, u137, u138, u139, u140, u141, u142, u143, u144, u145, u146, u147, u148, u149, u150, u151, u152, u153, u154, u155, u156, u157, u158, u159, u160, u161, u162, u163, u164, u165, u166, u167, u168, u169, u170, u171, u172, u173, u174, u175, u176, u177, u178, u179, u180, u181, u182, u183, u184, u185, u186, u187, u188, u189, u190, u191, u192, u193, u194, u195, u196, u197, u198, u199, u200, u201, u202, u203, u204, u205, u206, u207, u208, u209, u210, u211, u212, u213, u214, u215, u216, u217, u218, u219, u220, u221, u222, u223, u224, u225, u226, u227, u228, u229, u230, u231, u232, u233, u234, u235, u236, u237, u238, u239, u240, u241, u242, u243, u244, u245, u246, u247, u248, u249, u250, u251, u252, u253, u254, u255, u256, u257, u258, u259, u260, u261, u262, u263, u264, u265, u266, u267, u268, u269, u270, u271, u272, u273, u274, u275, u276, u277, u278, u279, u280, u281, u282, u283, u284, u285, u286, u287, u288, u289, u290, u291, u292, u293, u294, u295, u296, u297, u298, u299, u300, u301, u302, u303, u304, u305, u306, u307, u308, u309, u310, u311, u312, u313, u314, u315, u316, u317, u318, u319, u320, u321, u322, u323, u324, u325, u326, u327, u328, u329, u330, u331, u332, u333, u334, u335, u336, u337, u338, u339, u340, u341, u342, u343, u344, u345, u346, u347, u348, u349, u350, u351, u352, u353, u354, u355, u356, u357, u358, u359, u360, u361, u362, u363, u364, u365, u366, u367, u368, u369, u370, u371, u372, u373, u374, u375, u376, u377, u378, u379, u380, u381, u382, u383, u384, u385, u386, u387, u388, u389, u390, u391, u392, u393, u394, u395, u396, u397, u398, u399, u400, u401, u402, u403, u404, u405, u406, u407, u408, u409, u410, u411, u412, u413, u414, u415, u416, u417, u418, u419, u420, u421, u422, u423, u424, u425, u426, u427, u428, u429, u430, u431, u432, u433, u434, u435, u436, u437, u438, u439, u440, u441, u442, u443, u444, u445, u446, u447, u448, u449, u450, u451, u452, u453, u454, u455, u456, u457, u458, u459, u460, u461, u462, u463, u464, u465, u466, u467, u468, u469, u470, u471, u472, u473, u474, u475, u476, u477, u478, u479, u480, u481, u482, u483, u484, u485, u486, u487, u488, u489, u490, u491, u492, u493, u494, u495, u496, u497, u498, u499, u500, u501, u502, u503, u504, u505, u506, u507, u508, u509, u510, u511, u512, u513, u514, u515, u516, u517, u518, u519, u520, u521, u522, u523, u524, u525, u526, u527, u528, u529, u530, u531, u532, u533, u534, u535, u536, u537, u538, u539, u540, u541, u542, u543, u544, u545, u546, u547, u548, u549, u550, u551, u552, u553, u554, u555, u556, u557, u558, u559, u560, u561, u562, u563, u564, u565, u566, u567, u568, u569, u570, u571, u572, u573, u574, u575, u576, u577, u578, u579, u580, u581, u582, u583, u584, u585, u586, u587, u588, u589, u590, u591, u592, u593, u594, u595, u596, u597, u598, u599, u600, u601, u602, u603, u604, u605, u606, u607, u608, u609, u610, u611, u612, u613, u614, u615, u616, u617, u618, u619, u620, u621, u622, u623, u624, u625, u626, u627], []⟩ w := by
  conv => arg 2; whnf
  dsimp only
  have HA : Hid (C9 w0 w pb qb ai ni ci m k0 o0 q0 key0 kp bt s a2 n2 ys a3 n3 zs) := hA
  clear hA
  go_step
  go_step
  rename_i K hK
  have HKK : Hid _ := hK
  clear hK
  have hmk : (Instr.makeMap 39 none).run Ybad.prog w = .ok (.map (some w.heap.size)) (w.alloc (.map #[] 0)) := by kernel_rfl
  go_wp2_with fail
  exact HKK.out _ _ (tail6 HA.out)

set_option maxHeartbeats 4000000 in
set_option maxRecDepth 100000 in
theorem tail4 {u0 u1 u4 u6 u7 u8 u12 u13 u14 u15 u16 u17 u18 u19 u20 u21 u22 u23 u24 u25 u26 u27 u28 u29 u30 u31 u32 u33 u34 u35 u36 u37 u38 u39 u40 u41 u42 u43 u44 u45 u46 u47 u48 u49 u50 u51 u52 u53 u54 u55 u56 u57 u58 u59 u60 u61 u62 u63 u64 u65 u66 u67 u68 u69 u70 u71 u72 u73 u74 u75 u76 u77 u78 u79 u80 u81 u82 u83 u84 u85 u86 u87 u88 u89 u90 u91 u92 u93 u94 u95 u96 u97 u98 u99 u100 u101 u102 u103 u104 u105 u106 u107 u108 u109 u110 u111 u112 u113 u114 u115 u116 u117 u118 u119 u120 u121 u122 u123 u124 u125 u126 u127 u128 u129 u130 u131 u132 u133 u134 u135 u136 u137 u138 u139 u140 u141 u142 u143 u144 u145 u146 u147 u148 u149 u150 u151 u152 u153 u154 u155 u156 u157 u158 u159 u160 u161 u162 u163 u164 u165 u166 u167 u168 u169 u170 u171 u172 u173 u174 u175 u176 u177 u178 u179 u180 u181 u182 u183 u184 u185 u186 u187 u188 u189 u190 u191 u192 u193 u194 u195 u196 u197 u198 u199 u200 u201 u202 u203 u204 u205 u206 u207 u208 u209 u210 u211 u212 u213 u214 u215 u216 u217 u218 u219 u220 u221 u222 u223 u224 u225 u226 u227 u228 u229 u230 u231 u232 u233 u234 u235 u236 u237 u238 u239 u240 u241 u242 u243 u244 u245 u246 u247 u248 u249 u250 u251 u252 u253 u254 u255 u256 u257 u258 u259 u260 u261 u262 u263 u264 u265 u266 u267 u268 u269 u270 u271 u272 u273 u274 u275 u276 u277 u278 u279 u280 u281 u282 u283 u284 u285 u286 u287 u288 u289 u290 u291 u292 u293 u294 u295 u296 u297 u298 u299 u300 u301 u302 u303 u304 u305 u306 u307 u308 u309 u310 u311 u312 u313 u314 u315 u316 u317 u318 u319 u320 u321 u322 u323 u324 u325 u326 u327 u328 u329 u330 u331 u332 u333 u334 u335 u336 u337 u338 u339 u340 u341 u342 u343 u344 u345 u346 u347 u348 u349 u350 u351 u352 u353 u354 u355 u356 u357 u358 u359 u360 u361 u362 u363 u364 u365 u366 u367 u368 u369 u370 u371 u372 u373 u374 u375 u376 u377 u378 u379 u380 u381 u382 u383 u384 u385 u386 u387 u388 u389 u390 u391 u392 u393 u394 u395 u396 u397 u398 u399 u400 u401 u402 u403 u404 u405 u406 u407 u408 u409 u410 u411 u412 u413 u414 u415 u416 u417 u418 u419 u420 u421 u422 u423 u424 u425 u426 u427 u428 u429 u430 u431 u432 u433 u434 u435 u436 u437 u438 u439 u440 u441 u442 u443 u444 u445 u446 u447 u448 u449 u450 u451 u452 u453 u454 u455 u456 u457 u458 u459 u460 u461 u462 u463 u464 u465 u466 u467 u468 u469 u470 u471 u472 u473 u474 u475 u476 u477 u478 u479 u480 u481 u482 u483 u484 u485 u486 u487 u488 u489 u490 u491 u492 u493 u494 u495 u496 u497 u498 u499 u500 u501 u502 u503 u504 u505 u506 u507 u508 u509 u510 u511 u512 u513 u514 u515 u516 u517 u518 u519 u520 u521 u522 u523 u524 u525 u526 u527 u528 u529 u530 u531 u532 u533 u534 u535 u536 u537 u538 u539 u540 u541 u542 u543 u544 u545 u546 u547 u548 u549 u550 u551 u552 u553 u554 u555 u556 u557 u558 u559 u560 u561 u562 u563 u564 u565 u566 u567 u568 u569 u570 u571 u572 u573 u574 u575 u576 u577 u578 u579 u580 u581 u582 u583 u584 u585 u586 u587 u588 u589 u590 u591 u592 u593 u594 u595 u596 u597 u598 u599 u600 u601 u602 u603 u604 u605 u606 u607 u608 u609 u610 u611 u612 u613 u614 u615 u616 u617 u618 u619 u620 u621 u622 u623 u624 u625 u626 u627 : Value} {w0 w : World} {pb qb : Nat} {ai : Option Addr} {ni ci : Nat} {m : Msg} {k0 o0 q0 : Int} {key0 : ByteArray} {kp bt : Int} {s : MS} {a3 : Option Addr} {n3 c3 : Nat} {zs : List Rz} {a2 : Option Addr} {n2 c2 : Nat} {ys : List Rz} (hA : C9 w0 w pb qb ai ni ci m k0 o0 q0 key0 kp bt s a2 n2 ys a3 n3 zs) :
    Code.wp Ybad.prog (dropSeq 4 (Ybad.f3.body.getD .skip)) (bodyPost Ybad.prog Ybad.f3 fun e w' => e = .returned (.bool true) ∧ Below w0.heap.size w0 w') ⟨#[u0, u1, .slice a2 n2 c2, .slice a3 n3 c3, u4, .pointer (some ⟨pb, 0, none⟩), u6, u7, u8, .pointer (some ⟨qb, 0, none⟩), .bool false, .slice ai ni ci, u12, u13, u14, u15, u16, u17, u18, u19, u20, u21, u22, u23, u24, u25, u26, u27, u28, u29, u30, u31, u32, u33, u34, u35, u36, u37, u38, u39, u40, u41, u42, u43, u44, u45, u46, u47, u48, u49, u50, u51, u52, u53, u54, u55, u56, u57, u58, u59, u60, u61, u62, u63, u64, u65, u66, u67, u68, u69, u70, u71, u72, u73, u74, u75, u76, u77, u78, u79, u80, u81, u82, u83, u84, u85, u86, u87, u88, u89, u90, u91, u92, u93, u94, u95, u96, u97, u98, u99, u100, u101, u102, u103, u104, u105, u106, u107, u108, u109, u110, u111, u112, u113, u114, u115, u116, u117, u118, u119, u120, u121, u122, u123, u124, u125, u126, u127, u128, u129, u130, u131, u132, u133, u134, u135, u136, u137, u138, u139, u140, u141, u142, u143, u144, u145, u146, u147, u148, u149, u150, u151, u152, u153, u154, u155, u156, u157, u158, u159, u160, u161, u162, u163, u164, u165, u166, u167, u168, u169, u170, u171, u172, u173, u174, u175, u176, u177, u178, u179, u180, u181, u182, u183, u184, u185, u186, u187, u188, u189, u190, u191, u192, u193, u194, u195, u196, u197, u198, u199, u200, u201, u202, u203, u204, u205, u206, u207, u208, u209, u210, u211, u212, u213, u214, u215, u216, u217, u218, u219, u220, u221, u222, u223, u224, u225, u226, u227, u228, u229, u230, u231, u232, u233, u234, u235, u236, u237, u238, u239, u240, u241, u242, u243, u244, u245, u246, u247, u248, u249, u250, u251, u252, u253, u254, u255, u256, u257, u258, u259, u260, u261, u262, u263, u264, u265, u266, u267, u268, u269, u270, u271, u272, u273, u274, u275, u276, u277, u278, u279, u280, u281, u282, u283, u284, u285, u286, u287, u288, u289, u290, u291, u292, u293, u294, u295, u296, u297, u298, u299, u300, u301, u302, u303, u304, u305, u306, u307, u308, u309, u310, u311, u312, u313, u314, u315, u316, u317, u318, u319, u320, u321, u322, u323, u324, u325, u326, u327, u328, u329, u330, u331, u332, u333, u334, u335, u336, u337, u338, u339, u340, u341, u342, u343, u344, u345, u346, u347, u348, u349, u350, u351, u352, u353, u354, u355, u356, u357, u358, u359, u360, u361, u362, u363, u364, u365, u366, u367, u368, u369, u370, u371, u372, u373, u374, u375, u376, u377, u378, u379, u380, u381, u382, u383, u384, u385, u386, u387, u388, u389, u390, u391, u392, u393, u394, u395, u396, u397, u398, u399, u400, u401, u402, u403, u404, u405, u406, u407, u408, u409, u410, u411, u412, u413, u414, u415, u416, u417, u418, u419, u420, u421, u422, u423, u424, u425, u426, u427, u428, u429, u430, u431, u432, u433, u434, u435, u436, u437, u438, u439, u440, u441, u442, u443, u444, u445, u446, u447, u448, u449, u450, u451, u452, u453, u454, u455, u456, u457, u458, u459, u460, u461, u462, u463, u464, u465, u466, u467, u468, u469, u470, u471, u472, u473, u474, u475, u476, u477, u478, u479, u480, u481, u482, u483, u484, u485, u486, u487, u488, u489, u490, u491, u492, u493, u494, u495, u496, u497, u498, u499, u500, u501, u502, u503, u504, u505, u506, u507, u508, u509, u510, u511, u512, u513, u514, u515, u516, u517, u518, u519, u520, u521, u522, u523, u524, u525, u526, u527, u528, u529, u530, u531, u532, u533, u534, u535, u536, u537, u538, u539, u540, u541, u542, u543, u544, u545, u546, u547, u548, u549, u550, u551, u552, u553, u554, u555, u556, u557, u558, u559, u560, u561, u562, u563, u564, u565, u566, u567, u568, u569, u570, u571, u572, u573, u574, u575, u576, u577, u578, u579, u580, u581, u582, u583, u584, u585, u586, u587, u588, u589, u590, u591, u592, u593, u594, u595, u596, u597, u598, u599, u600, u601, u602, u603, u604, u605, u606, u607, u608, u609, u610, u611, u612, u613, u614, u615, u616, u617, u618, u619, u620, u621, u622, u623, u624, u625, u626, u627], []⟩ w := by
  conv => arg 2; whnf
  dsimp only
  have HA : Hid (C9 w0 w pb qb ai ni ci m k0 o0 q0 key0 kp bt s a2 n2 ys a3 n3 zs) := hA
  clear hA
  go_step
  go_step
  rename_i K hK
  have HKK : Hid _ := hK
  clear hK
  go_wp2_with fail
  exact HKK.out _ _ (tail5 HA.out)

end Go.Proofs.YbulkdywgDoor
