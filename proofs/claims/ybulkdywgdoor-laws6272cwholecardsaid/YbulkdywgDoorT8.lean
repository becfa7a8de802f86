/-
  Seat b6272aD: the law's loop that lays the reservations.
-/
import Derived.Test.YbulkdywgDoorT12
import Derived.Deep.RegionHeld3
namespace Go.Proofs.YbulkdywgDoor
open Go.RowKit
set_option linter.unusedVariables false

/-- An entry as the law is handed it. -/
structure Rz where
  o : Int
  q : Int
  key : ByteArray
  t : Int

/-- A slice whose elements are these entries. -/
structure Rzs (w : World) (a : Option Addr) (n : Nat) (zs : List Rz) : Prop where
  len : zs.length = n
  small : n ≤ 4096
  fine : ∀ z ∈ zs, 0 ≤ z.q ∧ z.key.size ≤ maxLen
  row : n = 0 ∨ ∃ b o, a = some ⟨b, o, none⟩ ∧ ∀ j x, zs[j]? = some x →
    w.cell? ⟨b, o + j * 4, none⟩ = some (.int .i32 x.o) ∧ w.cell? ⟨b, o + j * 4 + 1, none⟩ = some (.int .u32 x.q) ∧ w.cell? ⟨b, o + j * 4 + 2, none⟩ = some (.string x.key) ∧ w.cell? ⟨b, o + j * 4 + 3, none⟩ = some (.int .i64 x.t)

theorem cell_kept {w w' : World} {B : Nat} (hk : Kept (fun k => B ≤ k) w w') (hB : w.heap.size ≤ B) {p : Addr} {v : Value} (h : w.cell? p = some v) : w'.cell? p = some v := by
  have hl := World.block_lt_of_cell? w p h
  rw [World.cell?_of_block (w := w) (hk.block p.block hl (by omega))]
  exact h

theorem Rzs.kept {w w' : World} {a : Option Addr} {n : Nat} {zs : List Rz} {B : Nat} (h : Rzs w a n zs) (hk : Kept (fun k => B ≤ k) w w') (hB : w.heap.size ≤ B) : Rzs w' a n zs :=
  ⟨h.len, h.small, h.fine, orMap h.row id fun ⟨b, o, h1, h2⟩ => ⟨b, o, h1, fun j x hx => by
    obtain ⟨q0, q1, q2, q3⟩ := h2 j x hx
    exact ⟨cell_kept hk hB q0, cell_kept hk hB q1, cell_kept hk hB q2, cell_kept hk hB q3⟩⟩⟩

/-- The reservations of these entries. -/
def rvOf (zs : List Rz) : List Rs := zs.map (fun z => ⟨z.o % 4, z.q % 4, z.t⟩)

theorem rvOf_snoc {zs : List Rz} {j : Nat} {x : Rz} (hx : zs[j]? = some x) : rvOf (zs.take (j + 1)) = rvOf (zs.take j) ++ [⟨x.o % 4, x.q % 4, x.t⟩] := by
  rw [List.take_add_one, hx]
  simp [rvOf]

theorem rvOf_in4 {zs : List Rz} : ∀ r ∈ rvOf zs, In4 r.o r.q := by
  intro r hr
  obtain ⟨z, _, rfl⟩ := List.mem_map.1 hr
  exact ⟨by show 0 ≤ z.o % 4 ∧ z.o % 4 < 4; omega, by show 0 ≤ z.q % 4 ∧ z.q % 4 < 4; omega⟩

/-- What stands ahead of the reservations' loop. -/
structure C8 (w0 w : World) (mb pb qb nm : Nat) (ai : Option Addr) (ni ci : Nat) (ap : Option Addr) (np cp : Nat) (m : Msg) (k0 o0 q0 : Int) (key0 : ByteArray) (kp bt : Int) (s : MS) (a3 : Option Addr) (n3 : Nat) (zs : List Rz) : Prop where
  hd : Hd w0 w pb qb m k0 o0 q0 key0 kp bt s
  map : RMap w mb nm s.res
  it : Row It.cells 4 w ai ni ci s.held
  pr : Row Pr.cells 3 w ap np cp s.res
  ge : w0.heap.size ≤ mb
  hnm : nm ≤ 2000000
  hlen : s.held.length ≤ 10000
  hres : s.res.length ≤ 10000
  fine : Fine s.res
  hit : ∀ x ∈ s.held, x.k.size ≤ maxLen
  rz : Rzs w a3 n3 zs
  hrv : s.rv = rvOf zs

theorem C8.toC7 {w0 w : World} {mb pb qb nm : Nat} {ai : Option Addr} {ni ci : Nat} {ap : Option Addr} {np cp : Nat} {m : Msg} {k0 o0 q0 : Int} {key0 : ByteArray} {kp bt : Int} {s : MS} {a3 : Option Addr} {n3 : Nat} {zs : List Rz} (h : C8 w0 w mb pb qb nm ai ni ci ap np cp m k0 o0 q0 key0 kp bt s a3 n3 zs) {w' : World} (hk : Kept (fun k => w.heap.size ≤ k) w w') {ar : Option Addr} {cr : Nat} (hr : Row Rs.cells 3 w' ar n3 cr s.rv) : C7 w0 w' mb pb qb nm ai ni ci ap np cp ar n3 cr m k0 o0 q0 key0 kp bt s := by
  have l1 := h.map.lt
  have hsz := h.rz.small
  refine ⟨h.hd.kept hk (Nat.le_refl _), h.map.kept hk (by omega), h.it.kept hk (fun b e => by have := h.it.lt b e; omega), h.pr.kept hk (fun b e => by have := h.pr.lt b e; omega), hr, h.ge, ?_, h.hnm, h.hlen, ?_, h.hres, h.fine, h.hit⟩
  · rw [h.hrv]
    exact rvOf_in4
  · have := hr.len
    omega

set_option maxHeartbeats 4000000 in
set_option maxRecDepth 100000 in
theorem tail8 {u0 u1 u2 u4 u6 u7 u8 u12 u13 u14 u15 u18 u19 u20 u21 u22 u24 u25 u26 u27 u28 u29 u30 u31 u32 u33 u34 u35 u36 u37 u38 u39 u40 u41 u42 u43 u44 u45 u46 u47 u48 u49 u50 u51 u52 u53 u54 u55 u56 u57 u58 u59 u60 u61 u62 u63 u64 u65 u66 u67 u68 u69 u70 u71 u72 u73 u74 u75 u76 u77 u78 u79 u80 u81 u82 u83 u84 u85 u86 u87 u88 u89 u90 u91 u92 u93 u94 u95 u96 u97 u98 u99 u100 u101 u102 u103 u104 u105 u106 u107 u108 u109 u110 u111 u112 u113 u114 u115 u116 u117 u118 u119 u120 u121 u122 u123 u124 u125 u126 u127 u128 u129 u130 u131 u132 u133 u134 u135 u136 u137 u138 u139 u140 u141 u142 u143 u144 u145 u146 u147 u148 u149 u150 u151 u152 u153 u154 u155 u156 u157 u158 u159 u160 u161 u162 u163 u164 u165 u166 u167 u168 u169 u170 u171 u172 u173 u174 u175 u176 u177 u178 u179 u180 u181 u182 u183 u184 u185 u186 u187 u188 u189 u190 u191 u192 u193 u194 u195 u196 u197 u198 u199 u200 u201 u202 u203 u204 u205 u206 u207 u208 u209 u210 u211 u212 u213 u214 u215 u216 u217 u218 u219 u220 u221 u222 u223 u224 u225 u226 u227 u228 u229 u230 u231 u232 u233 u234 u235 u236 u237 u238 u239 u240 u241 u242 u243 u244 u245 u246 u247 u248 u249 u250 u251 u252 u253 u254 u255 u256 u257 u258 u259 u260 u261 u262 u263 u264 u265 u266 u267 u268 u269 u270 u271 u272 u273 u274 u275 u276 u277 u278 u279 u280 u281 u282 u283 u284 u285 u286 u287 u288 u289 u290 u291 u292 u293 u294 u295 u296 u297 u298 u299 u300 u301 u302 u303 u304 u305 u306 u307 u308 u309 u310 u311 u312 u313 u314 u315 u316 u317 u318 u319 u320 u321 u322 u323 u324 u325 u326 u327 u328 u329 u330 u331 u332 u333 u334 u335 u336 u337 u338 u339 u340 u341 u342 u343 u344 u345 u346 u347 u348 u349 u350 u351 u352 u353 u354 u355 u356 u357 u358 u359 u360 u361 u362 u363 u364 u365 u366 u367 u368 u369 u370 u371 u372 u373 u374 u375 u376 u377 u378 u379 u380 u381 u382 u383 u384 u385 u386 u387 u388 u389 u390 u391 u392 u393 u394 u395 u396 u397 u398 u399 u400 u401 u402 u403 u404 u405 u406 u407 u408 u409 u410 u411 u412 u413 u414 u415 u416 u417 u418 u419 u420 u421 u422 u423 u424 u425 u426 u427 u428 u429 u430 u431 u432 u433 u434 u435 u436 u437 u438 u439 u440 u441 u442 u443 u444 u445 u446 u447 u448 u449 u450 u451 u452 u453 u454 u455 u456 u457 u458 u459 u460 u461 u462 u463 u464 u465 u466 u467 u468 u469 u470 u471 u472 u473 u474 u475 u476 u477 u478 u479 u480 u481 u482 u483 u484 u485 u486 u487 u488 u489 u490 u491 u492 u493 u494 u495 u496 u497 u498 u499 u500 u501 u502 u503 u504 u505 u506 u507 u508 u509 u510 u511 u512 u513 u514 u515 u516 u517 u518 u519 u520 u521 u522 u523 u524 u525 u526 u527 u528 u529 u530 u531 u532 u533 u534 u535 u536 u537 u538 u539 u540 u541 u542 u543 u544 u545 u546 u547 u548 u549 u550 u551 u552 u553 u554 u555 u556 u557 u558 u559 u560 u561 u562 u563 u564 u565 u566 u567 u568 u569 u570 u571 u572 u573 u574 u575 u576 u577 u578 u579 u580 u581 u582 u583 u584 u585 u586 u587 u588 u589 u590 u591 u592 u593 u594 u595 u596 u597 u598 u599 u600 u601 u602 u603 u604 u605 u606 u607 u608 u609 u610 u611 u612 u613 u614 u615 u616 u617 u618 u619 u620 u621 u622 u623 u624 u625 u626 u627 : Value} {w0 w : World} {mb pb qb nm : Nat} {ai : Option Addr} {ni ci : Nat} {ap : Option Addr} {np cp : Nat} {m : Msg} {k0 o0 q0 : Int} {key0 : ByteArray} {kp bt : Int} {s : MS} {a3 : Option Addr} {n3 c3 : Nat} {zs : List Rz} (hA : C8 w0 w mb pb qb nm ai ni ci ap np cp m k0 o0 q0 key0 kp bt s a3 n3 zs) :
    Code.wp Ybad.prog (dropSeq 8 (Ybad.f3.body.getD .skip)) (bodyPost Ybad.prog Ybad.f3 fun e w' => e = .returned (.bool true) ∧ Below w0.heap.size w0 w') ⟨#[u0, u1, u2, .slice a3 n3 c3, u4, .pointer (some ⟨pb, 0, none⟩), u6, u7, u8, .pointer (some ⟨qb, 0, none⟩), .bool false, .slice ai ni ci, u12, u13, u14, u15, .slice ap np cp, .map (some mb), u18, u19, u20, u21, u22, .slice none 0 0, u24, u25, u26, u27, u28, u29, u30, u31, u32, u33, u34, u35, u36, u37, u38, u39, u40, u41, u42, u43, u44, u45, u46, u47, u48, u49, u50, u51, u52, u53, u54, u55, u56, u57, u58, u59, u60, u61, u62, u63, u64, u65, u66, u67, u68, u69, u70, u71, u72, u73, u74, u75, u76, u77, u78, u79, u80, u81, u82, u83, u84, u85, u86, u87, u88, u89, u90, u91, u92, u93, u94, u95, u96, u97, u98, u99, u100, u101, u102, u103, u104, u105, u106, u107, u108, u109, u110, u111, u112, u113, u114, u115, u116, u117, u118, u119, u120, u121, u122, u123, u124, u125, u126, u127, u128, u129, u130, u131, u132, u133, u134, u135, u136, u137, u138, u139, u140, u141, u142, u143, u144, u145, u146, u147, u148, u149, u150, u151, u152, u153, u154, u155, u156, u157, u158, u159, u160, u161, u162, u163, u164, u165, u166, u167, u168, u169, u170, u171, u172, u173, u174, u175, u176, u177, u178, u179, u180, u181, u182, u183, u184, u185, u186, u187, u188, u189, u190, u191, u192, u193, u194, u195, u196, u197, u198, u199, u200, u201, u202, u203, u204, u205, u206, u207, u208, u209, u210, u211, u212, u213, u214, u215, u216, u217, u218, u219, u220, u221, u222, u223, u224, u225, u226, u227, u228, u229, u230, u231, u232, u233, u234, u235, u236, u237, u238, u239, u240, u241, u242, u243, u244, u245, u246, u247, u248, u249, u250, u251, u252, u253, u254, u255, u256, u257, u258, u259, u260, u261, u262, u263, u264, u265, u266, u267, u268, u269, u270, u271, u272, u273, u274, u275, u276, u277, u278, u279, u280, u281, u282, u283, u284, u285, u286, u287, u288, u289, u290, u291, u292, u293, u294, u295, u296, u297, u298, u299, u300, u301, u302, u303, u304, u305, u306, u307, u308, u309, u310, u311, u312, u313, u314, u315, u316, u317, u318, u319, u320, u321, u322, u323, u324, u325, u326, u327, u328, u329, u330, u331, u332, u333, u334, u335, u336, u337, u338, u339, u340, u341, u342, u343, u344, u345, u346, u347, u348, u349, u350, u351, u352, u353, u354, u355, u356, u357, u358, u359, u360, u361, u362, u363, u364, u365, u366, u367, u368, u369, u370, u371, u372, u373, u374, u375, u376, u377, u378, u379, u380, u381, u382, u383, u384, u385, u386, u387, u388, u389, u390, u391, u392, u393, u394, u395, u396, u397, u398, u399, u400, u401, u402, u403, u404, u405, u406, u407, u408, u409, u410, u411, u412, u413, u414, u415, u416, u417, u418, u419, u420, u421, u422, u423, u424, u425, u426, u427, u428, u429, u430, u431, u432, u433, u434, u435, u436, u437, u438, u439, u440, u441, u442, u443, u444, u445, u446, u447, u448, u449, u450, u451, u452, u453, u454, u455, u456, u457, u458, u459, u460, u461, u462, u463, u464, u465, u466, u467, u468, u469, u470, u471, u472, u473, u474, u475, u476, u477, u478, u479, u480, u481, u482, u483, u484, u485, u486, u487, u488, u489, u490, u491, u492, u493, u494, u495, u496, u497, u498, u499, u500, u501, u502, u503, u504, u505, u506, u507, u508, u509, u510, u511, u512, u513, u514, u515, u516, u517, u518, u519, u520, u521, u522, u523, u524, u525, u526, u527, u528, u529, u530, u531, u532, u533, u534, u535, u536, u537, u538, u539, u540, u541, u542, u543, u544, u545, u546, u547, u548, u549, u550, u551, u552, u553, u554, u555, u556, u557, u558, u559, u560, u561, u562, u563, u564, u565, u566, u567, u568, u569, u570, u571, u572, u573, u574, u575, u576, u577, u578, u579, u580, u581, u582, u583, u584, u585, u586, u587, u588, u589, u590, u591, u592, u593, u594, u595, u596, u597, u598, u599, u600, u601, u602, u603, u604, u605, u606, u607, u608, u609, u610, u611, u612, u613, u614, u615, u616, u617, u618, u619, u620, u621, u622, u623, u624, u625, u626, u627], []⟩ w := by
  conv => arg 2; whnf
  dsimp only
  have HA : Hid (C8 w0 w mb pb qb nm ai ni ci ap np cp m k0 o0 q0 key0 kp bt s a3 n3 zs) := hA
  obtain ⟨hz1, hz2, hz4, hz3⟩ := hA.rz
  have HZ3 : Hid _ := hz3
  have HZ4 : Hid _ := hz4
  have HRV : Hid _ := hA.hrv
  clear hA hz3 hz4
  go_step
  go_step
  go_cut [23, 25] from 131 to 148 (fun r _ wx => ∃ ar cr, r = .slice ar n3 cr ∧ Row Rs.cells 3 wx ar n3 cr s.rv ∧ Kept (fun k => w.heap.size ≤ k) w wx)
  case first =>
    go_wp2_with fail
    go_loopw [23, 133] (fun r i wr => ∃ (j : Nat) (ar : Option Addr) (cr : Nat), j ≤ n3 ∧ r = .slice ar j cr ∧ i = .int .i64 j ∧ Hid (Row Rs.cells 3 wr ar j cr (rvOf (zs.take j)) ∧ Kept (fun k => w.heap.size ≤ k) w wr ∧ ∀ b, blkOf ar = some b → w.heap.size ≤ b)) (fun _ i _ => n3 - (intOf i).toNat)
    case atStart => exact ⟨0, none, 0, Nat.zero_le _, rfl, rfl, Row.nil (by omega), Kept.refl _ w, by simp [blkOf]⟩
    case round =>
      as_aux_lemma =>
      obtain ⟨j, ar, cr, hj, rfl, rfl, HR⟩ := hrel
      by_cases hlt : j < n3
      · rcases HZ3.out with h0 | ⟨b1, o1, rfl, hcell⟩
        · omega
        obtain ⟨x, hxx⟩ : ∃ x, zs[j]? = some x := ⟨zs[j]'(by omega), by simp⟩
        obtain ⟨q0, q1, q2, q3⟩ := hcell j x hxx
        replace q0 := cell_kept HR.out.2.1 (Nat.le_refl _) q0
        replace q1 := cell_kept HR.out.2.1 (Nat.le_refl _) q1
        replace q2 := cell_kept HR.out.2.1 (Nat.le_refl _) q2
        replace q3 := cell_kept HR.out.2.1 (Nat.le_refl _) q3
        have kk : (j : Int) < (n3 : Int) := by omega
        have HXX : Hid _ := hxx
        have HXQ : Hid (0 ≤ x.q) := (HZ4.out x (List.mem_of_getElem? hxx)).1
        obtain ⟨i0, hi0, hy0, hy1, hy2⟩ := info_parts info51
        clear hcell hxx
        go_wp2_with fail
        have HBX : Hid (Blk (wr.alloc (.cells #[.int .i32 x.o, .int .u32 x.q, .string x.key, .int .i64 x.t] 41)) wr.heap.size #[.int .i32 x.o, .int .u32 x.q, .string x.key, .int .i64 x.t]) := Blk.new _ _ _
        have HBQ : Hid (some wr.heap.size ≠ blkOf ar) := fun e => by have := HR.out.1.lt _ e.symm; omega
        clear q0 q1 q2 q3
        go_region_held3 (fun w' => w'.cell? ⟨wr.heap.size, 0, none⟩ = some (.int .i32 x.o) ∧ w'.cell? ⟨wr.heap.size, 1, none⟩ = some (.int .u32 x.q) ∧ w'.cell? ⟨wr.heap.size, 3, none⟩ = some (.int .i64 x.t)) (go_keep) (first
          | (go_at_call 4; refine (op_any x.o x.q _ HXQ.out).mono ?_; rintro e w1 ⟨rfl, hk1⟩; have hk1' : Kept (fun _ => False) (wr.alloc (.cells #[.int .i32 x.o, .int .u32 x.q, .string x.key, .int .i64 x.t] 41)) w1 := ⟨hk1.os, hk1.tape, hk1.output, hk1.size, hk1.block⟩; have hb1 := HBX.out.kept hk1' id; have y0 : w1.cell? ⟨wr.heap.size, 0, none⟩ = some (.int .i32 x.o) := hb1.cell 0; have y1 : w1.cell? ⟨wr.heap.size, 1, none⟩ = some (.int .u32 x.q) := hb1.cell 1; have y3 : w1.cell? ⟨wr.heap.size, 3, none⟩ = some (.int .i64 x.t) := hb1.cell 3; have hl1 : wr.heap.size < w1.heap.size := hb1.lt; have HK1 : Hid _ := hk1'; clear hk1 hk1' hb1; unfold opV)
          | (refine step_append_row (by rfl) (.tmp 137) (.tmp 146) 48 (by rfl) rs_len rs_one 51 i0 (.agg #[.int .i32 0, .int .u32 0, .int .i64 0]) 16 und48 hi0 hy0 hy1 hy2 rfl ar j cr (rvOf (zs.take j)) (by rfl) (by exact (((HR.out.1.alloc _).kept HK1.out (fun _ _ => id)).alloc _).eqv (fun _ _ => rfl)) ⟨w1.heap.size, 0, none⟩ 1 1 [⟨x.o % 4, x.q % 4, x.t⟩] (by rfl) rfl (by exact one_cells3 ((Blk.new w1 _ _).eqv rfl)) (by omega) (by omega) ?_; intro a5 c5 w5 hrow hgrow hnew; have hbl : Blk w5 wr.heap.size _ := Blk.grown (((HBX.out.kept HK1.out id).alloc _).eqv rfl) hgrow HBQ.out; have z0 : w5.cell? ⟨wr.heap.size, 0, none⟩ = some (.int .i32 x.o) := hbl.cell 0; have z1 : w5.cell? ⟨wr.heap.size, 1, none⟩ = some (.int .u32 x.q) := hbl.cell 1; have z3 : w5.cell? ⟨wr.heap.size, 3, none⟩ = some (.int .i64 x.t) := hbl.cell 3; have HR5 : Hid _ := hrow; have HG5 : Hid _ := hgrow; have HW5 : Hid _ := hnew; clear hrow hgrow hnew hbl)
          | fail)
        all_goals
          go_wp2_with fail
          go_roundw
          case rel =>
            have hk5 : Kept (fun k => w.heap.size ≤ k) w w5 := (((HR.out.2.1.alloc _).trans (HK1.out.mono (fun _ => False.elim))).alloc _).grown HG5.out (fun k e => HR.out.2.2 k e)
            refine ⟨j + 1, a5, c5, by omega, rfl, by go_num, ?_, hk5, fun b e => ?_⟩
            · rw [rvOf_snoc HXX.out]
              exact HR5.out
            · rcases HW5.out b e with h | h
              · exact HR.out.2.2 b h
              · have e1 := HR.out.2.1.size
                have e2 := HK1.out.size
                simp at e2 h
                omega
          case measure => simp [intOf]; omega
      · obtain rfl : j = n3 := by omega
        go_wp2_with fail
        go_meet
        case rel =>
          refine ⟨ar, cr, rfl, ?_, HR.out.2.1⟩
          rw [HRV.out]
          have := HR.out.1
          rwa [List.take_of_length_le (by omega)] at this
  case rest =>
  rename World => w1
  obtain ⟨ar, cr, rfl, hr1, hk1⟩ := hcut
  go_step
  exact tail9 (HA.out.toC7 hk1 hr1)

set_option maxHeartbeats 4000000 in
set_option maxRecDepth 100000 in
theorem tail7 {u0 u1 u2 u4 u6 u7 u8 u12 u13 u14 u15 u18 u19 u20 u21 u22 u23 u24 u25 u26 u27 u28 u29 u30 u31 u32 u33 u34 u35 u36 u37 u38 u39 u40 u41 u42 u43 u44 u45 u46 u47 u48 u49 u50 u51 u52 u53 u54 u55 u56 u57 u58 u59 u60 u61 u62 u63 u64 u65 u66 u67 u68 u69 u70 u71 u72 u73 u74 u75 u76 u77 u78 u79 u80 u81 u82 u83 u84 u85 u86 u87 u88 u89 u90 u91 u92 u93 u94 u95 u96 u97 u98 u99 u100 u101 u102 u103 u104 u105 u106 u107 u108 u109 u110 u111 u112 u113 u114 u115 u116 u117 u118 u119 u120 u121 u122 u123 u124 u125 u126 u127 u128 u129 u130 u131 u132 u133 u134 u135 u136 u137 u138 u139 u140 u141 u142 u143 u144 u145 u146 u147 u148 u149 u150 u151 u152 u153 u154 u155 u156 u157 u158 u159 u160 u161 u162 u163 u164 u165 u166 u167 u168 u169 u170 u171 u172 u173 u174 u175 u176 u177 u178 u179 u180 u181 u182 u183 u184 u185 u186 u187 u188 u189 u190 u191 u192 u193 u194 u195 u196 u197 u198 u199 u200 u201 u202 u203 u204 u205 u206 u207 u208 u209 u210 u211 u212 u213 u214 u215 u216 u217 u218 u219 u220 u221 u222 u223 u224 u225 u226 u227 u228 u229 u230 u231 u232 u233 u234 u235 u236 u237 u238 u239 u240 u241 u242 u243 u244 u245 u246 u247 u248 u249 u250 u251 u252 u253 u254 u255 u256 u257 u258 u259 u260 u261 u262 u263 u264 u265 u266 u267 u268 u269 u270 u271 u272 u273 u274 u275 u276 u277 u278 u279 u280 u281 u282 u283 u284 u285 u286 u287 u288 u289 u290 u291 u292 u293 u294 u295 u296 u297 u298 u299 u300 u301 u302 u303 u304 u305 u306 u307 u308 u309 u310 u311 u312 u313 u314 u315 u316 u317 u318 u319 u320 u321 u322 u323 u324 u325 u326 u327 u328 u329 u330 u331 u332 u333 u334 u335 u336 u337 u338 u339 u340 u341 u342 u343 u344 u345 u346 u347 u348 u349 u350 u351 u352 u353 u354 u355 u356 u357 u358 u359 u360 u361 u362 u363 u364 u365 u366 u367 u368 u369 u370 u371 u372 u373 u374 u375 u376 u377 u378 u379 u380 u381 u382 u383 u384 u385 u386 u387 u388 u389 u390 u391 u392 u393 u394 u395 u396 u397 u398 u399 u400 u401 u402 u403 u404 u405 u406 u407 u408 u409 u410 u411 u412 u413 u414 u415 u416 u417 u418 u419 u420 u421 u422 u423 u424 u425 u426 u427 u428 u429 u430 u431 u432 u433 u434 u435 u436 u437 u438 u439 u440 u441 u442 u443 u444 u445 u446 u447 u448 u449 u450 u451 u452 u453 u454 u455 u456 u457 u458 u459 u460 u461 u462 u463 u464 u465 u466 u467 u468 u469 u470 u471 u472 u473 u474 u475 u476 u477 u478 u479 u480 u481 u482 u483 u484 u485 u486 u487 u488 u489 u490 u491 u492 u493 u494 u495 u496 u497 u498 u499 u500 u501 u502 u503 u504 u505 u506 u507 u508 u509 u510 u511 u512 u513 u514 u515 u516 u517 u518 u519 u520 u521 u522 u523 u524 u525 u526 u527 u528 u529 u530 u531 u532 u533 u534 u535 u536 u537 u538 u539 u540 u541 u542 u543 u544 u545 u546 u547 u548 u549 u550 u551 u552 u553 u554 u555 u556 u557 u558 u559 u560 u561 u562 u563 u564 u565 u566 u567 u568 u569 u570 u571 u572 u573 u574 u575 u576 u577 u578 u579 u580 u581 u582 u583 u584 u585 u586 u587 u588 u589 u590 u591 u592 u593 u594 u595 u596 u597 u598 u599 u600 u601 u602 u603 u604 u605 u606 u607 u608 u609 u610 u611 u612 u613 u614 u615 u616 u617 u618 u619 u620 u621 u622 u623 u624 u625 u626 u627 : Value} {w0 w : World} {mb pb qb nm : Nat} {ai : Option Addr} {ni ci : Nat} {ap : Option Addr} {np cp : Nat} {m : Msg} {k0 o0 q0 : Int} {key0 : ByteArray} {kp bt : Int} {s : MS} {a3 : Option Addr} {n3 c3 : Nat} {zs : List Rz} (hA : C8 w0 w mb pb qb nm ai ni ci ap np cp m k0 o0 q0 key0 kp bt s a3 n3 zs) :
    Code.wp Ybad.prog (dropSeq 7 (Ybad.f3.body.getD .skip)) (bodyPost Ybad.prog Ybad.f3 fun e w' => e = .returned (.bool true) ∧ Below w0.heap.size w0 w') ⟨#[u0, u1, u2, .slice a3 n3 c3, u4, .pointer (some ⟨pb, 0, none⟩), u6, u7, u8, .pointer (some ⟨qb, 0, none⟩), .bool false, .slice ai ni ci, u12, u13, u14, u15, .slice ap np cp, .map (some mb), u18, u19, u20, u21, u22, u23, u24, u25, u26, u27, u28, u29, u30, u31, u32, u33, u34, u35, u36, u37, u38, u39, u40, u41, u42, u43, u44, u45, u46, u47, u48, u49, u50, u51, u52, u53, u54, u55, u56, u57, u58, u59, u60, u61, u62, u63, u64, u65, u66, u67, u68, u69, u70, u71, u72, u73, u74, u75, u76, u77, u78, u79, u80, u81, u82, u83, u84, u85, u86, u87, u88, u89, u90, u91, u92, u93, u94, u95, u96, u97, u98, u99, u100, u101, u102, u103, u104, u105, u106, u107, u108, u109, u110, u111, u112, u113, u114, u115, u116, u117, u118, u119, u120, u121, u122, u123, u124, u125, u126, u127, u128, u129, u130, u131, u132, u133, u134, u135, u136, u137, u138, u139, u140, u141, u142, u143, u144, u145, u146, u147, u148, u149, u150, u151, u152, u153, u154, u155, u156, u157, u158, u159, u160, u161, u162, u163, u164, u165, u166, u167, u168, u169, u170, u171, u172, u173, u174, u175, u176, u177, u178, u179, u180, u181, u182, u183, u184, u185, u186, u187, u188, u189, u190, u191, u192, u193, u194, u195, u196, u197, u198, u199, u200, u201, u202, u203, u204, u205, u206, u207, u208, u209, u210, u211, u212, u213, u214, u215, u216, u217, u218, u219, u220, u221, u222, u223, u224, u225, u226, u227, u228, u229, u230, u231, u232, u233, u234, u235, u236, u237, u238, u239, u240, u241, u242, u243, u244, u245, u246, u247, u248, u249, u250, u251, u252, u253, u254, u255, u256, u257, u258, u259, u260, u261, u262, u263, u264, u265, u266, u267, u268, u269, u270, u271, u272, u273, u274, u275, u276, u277, u278, u279, u280, u281, u282, u283, u284, u285, u286, u287, u288, u289, u290, u291, u292, u293, u294, u295, u296, u297, u298, u299, u300, u301, u302, u303, u304, u305, u306, u307, u308, u309, u310, u311, u312, u313, u314, u315, u316, u317, u318, u319, u320, u321, u322, u323, u324, u325, u326, u327, u328, u329, u330, u331, u332, u333, u334, u335, u336, u337, u338, u339, u340, u341, u342, u343, u344, u345, u346, u347, u348, u349, u350, u351, u352, u353, u354, u355, u356, u357, u358, u359, u360, u361, u362, u363, u364, u365, u366, u367, u368, u369, u370, u371, u372, u373, u374, u375, u376, u377, u378, u379, u380, u381, u382, u383, u384, u385, u386, u387, u388, u389, u390, u391, u392, u393, u394, u395, u396, u397, u398, u399, u400, u401, u402, u403, u404, u405, u406, u407, u408, u409, u410, u411, u412, u413, u414, u415, u416, u417, u418, u419, u420, u421, u422, u423, u424, u425, u426, u427, u428, u429, u430, u431, u432, u433, u434, u435, u436, u437, u438, u439, u440, u441, u442, u443, u444, u445, u446, u447, u448, u449, u450, u451, u452, u453, u454, u455, u456, u457, u458, u459, u460, u461, u462, u463, u464, u465, u466, u467, u468, u469, u470, u471, u472, u473, u474, u475, u476, u477, u478, u479, u480, u481, u482, u483, u484, u485, u486, u487, u488, u489, u490, u491, u492, u493, u494, u495, u496, u497, u498, u499, u500, u501, u502, u503, u504, u505, u506, u507, u508, u509, u510, u511, u512, u513, u514, u515, u516, u517, u518, u519, u520, u521, u522, u523, u524, u525, u526, u527, u528, u529, u530, u531, u532, u533, u534, u535, u536, u537, u538, u539, u540, u541, u542, u543, u544, u545, u546, u547, u548, u549, u550, u551, u552, u553, u554, u555, u556, u557, u558, u559, u560, u561, u562, u563, u564, u565, u566, u567, u568, u569, u570, u571, u572, u573, u574, u575, u576, u577, u578, u579, u580, u581, u582, u583, u584, u585, u586, u587, u588, u589, u590, u591, u592, u593, u594, u595, u596, u597, u598, u599, u600, u601, u602, u603, u604, u605, u606, u607, u608, u609, u610, u611, u612, u613, u614, u615, u616, u617, u618, u619, u620, u621, u622, u623, u624, u625, u626, u627], []⟩ w := by
  conv => arg 2; whnf
  dsimp only
  have HA : Hid (C8 w0 w mb pb qb nm ai ni ci ap np cp m k0 o0 q0 key0 kp bt s a3 n3 zs) := hA
  clear hA
  go_step
  go_step
  rename_i K hK
  have HKK : Hid _ := hK
  clear hK
  go_wp2_with fail
  exact HKK.out _ _ (tail8 HA.out)

end Go.Proofs.YbulkdywgDoor
