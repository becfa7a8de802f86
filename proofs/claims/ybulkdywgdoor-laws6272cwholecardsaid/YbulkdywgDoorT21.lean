/-
  Seat b6272aD: the model is laid.
-/
import Derived.Test.YbulkdywgDoorT22
namespace Go.Proofs.YbulkdywgDoor
open Go.RowKit
set_option linter.unusedVariables false

/-- What stands ahead of the model. -/
structure Av (w0 w : World) (T nb cb tb mb mk bk ob sb pb qb nm : Nat) (ai : Option Addr) (ni ci : Nat) (ap : Option Addr) (np cp : Nat) (ar : Option Addr) (nr cr : Nat) (m : Msg) (k0 o0 q0 : Int) (key0 : ByteArray) (kp bt bits : Int) (s : MS) : Prop where
  nc : NAt w (fun b => (b = mb ∨ T ≤ b) ∨ w.heap.size ≤ b) nb cb tb mb 0 bits nm s
  it : Row It.cells 4 w ai ni ci s.held
  pr : Row Pr.cells 3 w ap np cp s.res
  rv : Row Rs.cells 3 w ar nr cr s.rv
  st : Blk w qb #[.int .u8 bt, .int .i64 s.now, .int .i64 s.told, .int .i64 s.typ, .bool s.cmp, .bool s.fresh]
  arg : Blk w pb (argCells m k0 o0 q0 key0 kp)
  op : Blk w ob #[.int .i32 m.o, .int .u32 m.q]
  stp : Blk w sb #[.int .u64 m.count, .int .i32 m.writer]
  msg : Blk w mk m.cells
  bef : Blk w bk m.cells
  kinds : KindsIn w
  k0 : 0 ≤ m.kind
  k1 : m.kind < 13
  lt : mk < T ∧ bk < T ∧ mb < T ∧ T ≤ w.heap.size ∧ mk ≠ mb ∧ bk ≠ mb
  ge : w0.heap.size ≤ mb ∧ w0.heap.size ≤ T
  pos : 0 < w0.heap.size
  h4 : ∀ r ∈ s.rv, In4 r.o r.q
  hnm : nm ≤ 2000000
  ho4 : In4 m.o m.q
  hks : m.key.size ≤ maxLen
  hb : 0 ≤ bits ∧ bits < 16
  hlen : s.held.length ≤ 10000
  hrl : s.rv.length ≤ 10000
  hres : s.res.length ≤ 10000
  fine : Fine s.res
  below : Below w0.heap.size w0 w

theorem Av.toWn {w0 w w' : World} {T nb cb tb mb mk bk ob sb pb qb nm bs : Nat} {ai : Option Addr} {ni ci : Nat} {ap : Option Addr} {np cp : Nat} {ar : Option Addr} {nr cr : Nat} {m : Msg} {k0 o0 q0 : Int} {key0 : ByteArray} {kp bt bits : Int} {s : MS} (h : Av w0 w T nb cb tb mb mk bk ob sb pb qb nm ai ni ci ap np cp ar nr cr m k0 o0 q0 key0 kp bt bits s) (hk : Kept (fun _ => False) w w') (hm : MAt w' (fun b => w.heap.size ≤ b) bs s) :
    Wn w0 w' (fun b => b = mb ∨ (T ≤ b ∧ b < w.heap.size)) (fun b => w.heap.size ≤ b) nb cb tb mb bs mk bk ob sb pb nm m k0 o0 q0 key0 kp bits s := by
  have hsz := hk.size
  have hlt := h.lt
  have hge := h.ge
  refine ⟨h.arg.kept hk id, h.op.kept hk id, fun w2 hk2 hw2 => ?_⟩
  have hka := hk.trans hk2
  have hwl := hw2.lt
  have hs2 := hk2.size
  obtain ⟨cs, ah, nh, ch, ar', nr', cr', n⟩ := h.nc
  obtain ⟨ah2, nh2, ch2, ap2, np2, cp2, ar2, nr2, cr2, c⟩ := hm
  have nbo : ∀ b, b < w.heap.size → ((b = mb ∨ T ≤ b) ∨ w.heap.size ≤ b) → (b = mb ∨ (T ≤ b ∧ b < w.heap.size)) := fun b hb x => by omega
  have n2 := n.quiet hka
  have c2 := c.kept hk2 (fun _ _ _ => id)
  refine ⟨⟨cs, ah, nh, ch, ar', nr', cr', n2.blk, n2.cells, n2.cond, n2.net, n2.map, n2.held, n2.rv, ⟨.inl (nbo _ n.blk.lt n.g.1), .inl (nbo _ n.cond.lt n.g.2.1), .inl (nbo _ n.net.lt n.g.2.2.1), .inl (nbo _ n.map.lt n.g.2.2.2)⟩, n.ne, fun b e => ⟨.inl (nbo b (n.held.lt b e) (n.gh b e).1), (n.gh b e).2⟩, fun b e => ⟨.inl (nbo b (n.rv.lt b e) (n.gr b e).1), (n.gr b e).2⟩, n.hr, fun b hb => .inr hb⟩,
    ⟨ah2, nh2, ch2, ap2, np2, cp2, ar2, nr2, cr2, c2.blk, c2.held, c2.res, c2.rv, ⟨c.gs, ?_⟩, fun b e => ⟨⟨(c.gh b e).1, ?_⟩, (c.gh b e).2⟩, fun b e => ⟨⟨(c.gp b e).1, ?_⟩, (c.gp b e).2⟩, fun b e => ⟨⟨(c.gr b e).1, ?_⟩, (c.gr b e).2⟩, c.hp, c.hr, c.pr, fun b hb => ⟨?_, ?_⟩⟩,
    hw2, h.msg.kept hka id, h.bef.kept hka id, h.op.kept hka id, h.stp.kept hka id, ?_, ?_, h.k0, h.k1, ⟨?_, ?_, ?_, ?_, ?_, ?_⟩, ⟨?_, ?_, ?_, ?_, ?_⟩, ⟨?_, ?_, ?_⟩, fun b hb x => ?_, fun b hb => ⟨fun x => ?_, fun x => ?_, ?_⟩, h.pos, h.h4, h.hnm, h.ho4, h.hks, h.hb, h.hlen, h.hrl, h.hres, h.fine, Below.keptB h.below hka⟩
  · have := c.blk.lt; omega
  · have := c.held.lt b e; omega
  · have := c.res.lt b e; omega
  · have := c.rv.lt b e; omega
  · omega
  · omega
  · exact (h.arg.kept hka id).cell 10
  · intro k hk'
    rw [World.cell?_of_block (w := w) (hka.block 0 (Nat.lt_of_lt_of_le h.pos h.below.size) id)]
    exact h.kinds k hk'
  all_goals have hbs := h.below.size
  · intro x; have := h.msg.lt; omega
  · intro x; have := h.bef.lt; omega
  · intro x; exact x.2 rfl
  · intro x; have := h.op.lt; omega
  · intro x; have := h.stp.lt; omega
  · intro x; have := h.arg.lt; omega
  · have := h.msg.lt; omega
  · have := h.bef.lt; omega
  · have := h.op.lt; omega
  · have := h.stp.lt; omega
  · have := h.arg.lt; omega
  · intro x; omega
  · intro x; omega
  · intro x; omega
  · omega
  · omega
  · omega
  · omega

theorem MC.made {w w1 w2 w3 : World} {s : MS} {a1 a2 a3 : Option Addr} {ni c1 np c2 nr c3 : Nat} (h1 : Row It.cells 4 w1 a1 ni c1 s.held) (k12 : Kept (fun _ => False) w1 w2) (h2 : Row Pr.cells 3 w2 a2 np c2 s.res) (k23 : Kept (fun _ => False) w2 w3) (h3 : Row Rs.cells 3 w3 a3 nr c3 s.rv) (s01 : w.heap.size ≤ w1.heap.size)
    (f1 : ∀ b, blkOf a1 = some b → w.heap.size ≤ b) (f2 : ∀ b, blkOf a2 = some b → w1.heap.size ≤ b) (f3 : ∀ b, blkOf a3 = some b → w2.heap.size ≤ b) :
    MC (w3.alloc (.cells #[.slice a1 ni c1, .slice a2 np c2, .slice a3 nr c3, .int .i64 s.now, .int .i64 s.told, .int .i64 s.typ, .bool s.cmp, .bool s.fresh] 98)) (fun b => w.heap.size ≤ b) w3.heap.size s a1 ni c1 a2 np c2 a3 nr c3 := by
  have e12 := k12.size
  have e23 := k23.size
  refine ⟨Blk.new _ _ _, ((h1.kept k12 (fun _ _ => id)).kept k23 (fun _ _ => id)).alloc _, (h2.kept k23 (fun _ _ => id)).alloc _, h3.alloc _, by omega, fun b e => ⟨f1 b e, ?_⟩, fun b e => ⟨?_, ?_⟩, fun b e => ⟨?_, ?_⟩, fun b e e' => ?_, fun b e e' => ?_, fun b e e' => ?_, fun b hb => ?_⟩
  · have := h1.lt b e; omega
  · have := f2 b e; omega
  · have := h2.lt b e; omega
  · have := f3 b e; omega
  · have := h3.lt b e; omega
  · have := h1.lt b e; have := f2 b e'; omega
  · have := h1.lt b e; have := f3 b e'; omega
  · have := h2.lt b e; have := f3 b e'; omega
  · simp at hb; omega

set_option maxHeartbeats 4000000 in
set_option maxRecDepth 100000 in
theorem tail21 {u0 u1 u2 u3 u4 u6 u7 u8 u12 u13 u14 u15 u17 u18 u19 u20 u21 u22 u24 u25 u36 u37 u38 u39 u40 u41 u42 u43 u44 u45 u46 u47 u48 u49 u50 u51 u52 u53 u54 u55 u56 u57 u58 u59 u60 u61 u62 u63 u64 u65 u66 u67 u68 u69 u70 u71 u72 u73 u74 u75 u76 u77 u78 u79 u80 u81 u82 u83 u84 u85 u86 u87 u88 u89 u90 u91 u92 u93 u94 u95 u96 u97 u98 u99 u100 u101 u102 u103 u104 u105 u106 u107 u108 u109 u110 u111 u112 u113 u114 u115 u116 u117 u118 u119 u120 u121 u122 u123 u124 u125 u126 u127 u128 u129 u130 u131 u132 u133 u134 u135 u136 u137 u138 u139 u140 u141 u142 u143 u144 u145 u146 u147 u148 u149 u150 u151 u152 u153 u154 u155 u156 u157 u158 u159 u160 u161 u162 u163 u164 u165 u166 u167 u168 u169 u170 u171 u172 u173 u174 u175 u176 u177 u178 u179 u180 u181 u182 u183 u184 u185 u186 u187 u188 u189 u190 u191 u192 u193 u194 u195 u196 u197 u198 u199 u200 u201 u202 u203 u204 u205 u206 u207 u208 u209 u210 u211 u212 u213 u214 u215 u216 u217 u218 u219 u220 u221 u222 u223 u224 u225 u226 u227 u228 u229 u230 u231 u232 u233 u234 u235 u236 u237 u238 u239 u240 u241 u242 u243 u244 u245 u246 u247 u248 u249 u250 u251 u252 u253 u254 u255 u256 u257 u258 u259 u260 u261 u262 u263 u264 u265 u266 u267 u268 u269 u270 u271 u272 u273 u274 u275 u276 u277 u278 u279 u280 u281 u282 u283 u284 u285 u286 u287 u288 u289 u290 u291 u292 u293 u294 u295 u296 u297 u298 u299 u300 u301 u302 u303 u304 u305 u306 u307 u308 u309 u310 u311 u312 u313 u314 u315 u316 u317 u318 u319 u320 u321 u322 u323 u324 u325 u326 u327 u328 u329 u330 u331 u332 u333 u334 u335 u336 u337 u338 u339 u340 u341 u342 u343 u344 u345 u346 u347 u348 u349 u350 u351 u352 u353 u354 u355 u356 u357 u358 u359 u360 u361 u362 u363 u364 u365 u366 u367 u368 u369 u370 u371 u372 u373 u374 u375 u376 u377 u378 u379 u380 u381 u382 u383 u384 u385 u386 u387 u388 u389 u390 u391 u392 u393 u394 u395 u396 u397 u398 u399 u400 u401 u402 u403 u404 u405 u406 u407 u408 u409 u410 u411 u412 u413 u414 u415 u416 u417 u418 u419 u420 u421 u422 u423 u424 u425 u426 u427 u428 u429 u430 u431 u432 u433 u434 u435 u436 u437 u438 u439 u440 u441 u442 u443 u444 u445 u446 u447 u448 u449 u450 u451 u452 u453 u454 u455 u456 u457 u458 u459 u460 u461 u462 u463 u464 u465 u466 u467 u468 u469 u470 u471 u472 u473 u474 u475 u476 u477 u478 u479 u480 u481 u482 u483 u484 u485 u486 u487 u488 u489 u490 u491 u492 u493 u494 u495 u496 u497 u498 u499 u500 u501 u502 u503 u504 u505 u506 u507 u508 u509 u510 u511 u512 u513 u514 u515 u516 u517 u518 u519 u520 u521 u522 u523 u524 u525 u526 u527 u528 u529 u530 u531 u532 u533 u534 u535 u536 u537 u538 u539 u540 u541 u542 u543 u544 u545 u546 u547 u548 u549 u550 u551 u552 u553 u554 u555 u556 u557 u558 u559 u560 u561 u562 u563 u564 u565 u566 u567 u568 u569 u570 u571 u572 u573 u574 u575 u576 u577 u578 u579 u580 u581 u582 u583 u584 u585 u586 u587 u588 u589 u590 u591 u592 u593 u594 u595 u596 u597 u598 u599 u600 u601 u602 u603 u604 u605 u606 u607 u608 u609 u610 u611 u612 u613 u614 u615 u616 u617 u618 u619 u620 u621 u622 u623 u624 u625 u626 u627 : Value} {w0 w : World} {T nb cb tb mb mk bk ob sb pb qb nm : Nat} {ai : Option Addr} {ni ci : Nat} {ap : Option Addr} {np cp : Nat} {ar : Option Addr} {nr cr : Nat} {m : Msg} {k0 o0 q0 : Int} {key0 : ByteArray} {kp bt bits : Int} {s : MS} (hA : Av w0 w T nb cb tb mb mk bk ob sb pb qb nm ai ni ci ap np cp ar nr cr m k0 o0 q0 key0 kp bt bits s) :
    Code.wp Ybad.prog (dropSeq 21 (Ybad.f3.body.getD .skip)) (bodyPost Ybad.prog Ybad.f3 fun e w' => e = .returned (.bool true) ∧ Below w0.heap.size w0 w') ⟨#[u0, u1, u2, u3, u4, .pointer (some ⟨pb, 0, none⟩), u6, u7, u8, .pointer (some ⟨qb, 0, none⟩), .bool false, .slice ai ni ci, u12, u13, u14, u15, .slice ap np cp, u17, u18, u19, u20, u21, u22, .slice ar nr cr, u24, u25, .string m.key, .int .u8 m.kind, .pointer (some ⟨ob, 0, none⟩), .pointer (some ⟨sb, 0, none⟩), .pointer (some ⟨mk, 0, none⟩), .pointer (some ⟨bk, 0, none⟩), .int .i64 bits, .pointer (some ⟨tb, 0, none⟩), .pointer (some ⟨cb, 0, none⟩), .pointer (some ⟨nb, 0, none⟩), u36, u37, u38, u39, u40, u41, u42, u43, u44, u45, u46, u47, u48, u49, u50, u51, u52, u53, u54, u55, u56, u57, u58, u59, u60, u61, u62, u63, u64, u65, u66, u67, u68, u69, u70, u71, u72, u73, u74, u75, u76, u77, u78, u79, u80, u81, u82, u83, u84, u85, u86, u87, u88, u89, u90, u91, u92, u93, u94, u95, u96, u97, u98, u99, u100, u101, u102, u103, u104, u105, u106, u107, u108, u109, u110, u111, u112, u113, u114, u115, u116, u117, u118, u119, u120, u121, u122, u123, u124, u125, u126, u127, u128, u129, u130, u131, u132, u133, u134, u135, u136, u137, u138, u139, u140, u141, u142, u143, u144, u145, u146, u147, u148, u149, u150, u151, u152, u153, u154, u155, u156, u157, u158, u159, u160, u161, u162, u163, u164, u165, u166, u167, u168, u169, u170, u171, u172, u173, u174, u175, u176, u177, u178, u179, u180, u181, u182, u183, u184, u185, u186, u187, u188, u189, u190, u191, u192, u193, u194, u195, u196, u197, u198, u199, u200, u201, u202, u203, u204, u205, u206, u207, u208, u209, u210, u211, u212, u213, u214, u215, u216, u217, u218, u219, u220, u221, u222, u223, u224, u225, u226, u227, u228, u229, u230, u231, u232, u233, u234, u235, u236, u237, u238, u239, u240, u241, u242, u243, u244, u245, u246, u247, u248, u249, u250, u251, u252, u253, u254, u255, u256, u257, u258, u259, u260, u261, u262, u263, u264, u265, u266, u267, u268, u269, u270, u271, u272, u273, u274, u275, u276, u277, u278, u279, u280, u281, u282, u283, u284, u285, u286, u287, u288, u289, u290, u291, u292, u293, u294, u295, u296, u297, u298, u299, u300, u301, u302, u303, u304, u305, u306, u307, u308, u309, u310, u311, u312, u313, u314, u315, u316, u317, u318, u319, u320, u321, u322, u323, u324, u325, u326, u327, u328, u329, u330, u331, u332, u333, u334, u335, u336, u337, u338, u339, u340, u341, u342, u343, u344, u345, u346, u347, u348, u349, u350, u351, u352, u353, u354, u355, u356, u357, u358, u359, u360, u361, u362, u363, u364, u365, u366, u367, u368, u369, u370, u371, u372, u373, u374, u375, u376, u377, u378, u379, u380, u381, u382, u383, u384, u385, u386, u387, u388, u389, u390, u391, u392, u393, u394, u395, u396, u397, u398, u399, u400, u401, u402, u403, u404, u405, u406, u407, u408, u409, u410, u411, u412, u413, u414, u415, u416, u417, u418, u419, u420, u421, u422, u423, u424, u425, u426, u427, u428, u429, u430, u431, u432, u433, u434, u435, u436, u437, u438, u439, u440, u441, u442, u443, u444, u445, u446, u447, u448, u449, u450, u451, u452, u453, u454, u455, u456, u457, u458, u459, u460, u461, u462, u463, u464, u465, u466, u467, u468, u469, u470, u471, u472, u473, u474, u475, u476, u477, u478, u479, u480, u481, u482, u483, u484, u485, u486, u487, u488, u489, u490, u491, u492, u493, u494, u495, u496, u497, u498, u499, u500, u501, u502, u503, u504, u505, u506, u507, u508, u509, u510, u511, u512, u513, u514, u515, u516, u517, u518, u519, u520, u521, u522, u523, u524, u525, u526, u527, u528, u529, u530, u531, u532, u533, u534, u535, u536, u537, u538, u539, u540, u541, u542, u543, u544, u545, u546, u547, u548, u549, u550, u551, u552, u553, u554, u555, u556, u557, u558, u559, u560, u561, u562, u563, u564, u565, u566, u567, u568, u569, u570, u571, u572, u573, u574, u575, u576, u577, u578, u579, u580, u581, u582, u583, u584, u585, u586, u587, u588, u589, u590, u591, u592, u593, u594, u595, u596, u597, u598, u599, u600, u601, u602, u603, u604, u605, u606, u607, u608, u609, u610, u611, u612, u613, u614, u615, u616, u617, u618, u619, u620, u621, u622, u623, u624, u625, u626, u627], []⟩ w := by
  conv => arg 2; whnf
  dsimp only
  have HA : Hid (Av w0 w T nb cb tb mb mk bk ob sb pb qb nm ai ni ci ap np cp ar nr cr m k0 o0 q0 key0 kp bt bits s) := hA
  have s1 : w.cell? ⟨qb, 1, none⟩ = some (.int .i64 s.now) := hA.st.cell 1
  have s2 : w.cell? ⟨qb, 2, none⟩ = some (.int .i64 s.told) := hA.st.cell 2
  have s3 : w.cell? ⟨qb, 3, none⟩ = some (.int .i64 s.typ) := hA.st.cell 3
  have s4 : w.cell? ⟨qb, 4, none⟩ = some (.bool s.cmp) := hA.st.cell 4
  have s5 : w.cell? ⟨qb, 5, none⟩ = some (.bool s.fresh) := hA.st.cell 5
  have hq : qb < w.heap.size := hA.st.lt
  clear hA
  go_step
  go_step
  rename_i K hK
  have HKK : Hid _ := hK
  clear hK
  go_wp2_with fail
  go_region_held3 (fun w' => w'.cell? ⟨qb, 1, none⟩ = some (.int .i64 s.now) ∧ w'.cell? ⟨qb, 2, none⟩ = some (.int .i64 s.told) ∧ w'.cell? ⟨qb, 3, none⟩ = some (.int .i64 s.typ) ∧ w'.cell? ⟨qb, 4, none⟩ = some (.bool s.cmp) ∧ w'.cell? ⟨qb, 5, none⟩ = some (.bool s.fresh)) (go_keep) (first
    | (go_at_call 5; refine (cloneI_any ai ni ci s.held w.drew (HA.out.it.eqv (fun _ _ => rfl)) (by have := HA.out.it.len; have := HA.out.hlen; omega)).mono ?_; rintro e w1 ⟨a1, c1, rfl, hr1, hk1, hf1⟩; have hk1' : Kept (fun _ => False) w w1 := ⟨hk1.os, hk1.tape, hk1.output, hk1.size, hk1.block⟩; have hb1 := HA.out.st.kept hk1' id; have y1 : w1.cell? ⟨qb, 1, none⟩ = some (.int .i64 s.now) := hb1.cell 1; have y2 : w1.cell? ⟨qb, 2, none⟩ = some (.int .i64 s.told) := hb1.cell 2; have y3 : w1.cell? ⟨qb, 3, none⟩ = some (.int .i64 s.typ) := hb1.cell 3; have y4 : w1.cell? ⟨qb, 4, none⟩ = some (.bool s.cmp) := hb1.cell 4; have y5 : w1.cell? ⟨qb, 5, none⟩ = some (.bool s.fresh) := hb1.cell 5; have HR1 : Hid _ := hr1; have HK1 : Hid _ := hk1'; have HF1 : Hid _ := hf1; clear hr1 hk1 hk1' hf1 hb1)
    | (go_at_call 7; refine (cloneP_any ap np cp s.res w1 (HA.out.pr.kept HK1.out (fun _ _ => id)) (by have := HA.out.pr.len; have := HA.out.hres; omega)).mono ?_; rintro e w2 ⟨a2, c2, rfl, hr2, hk2, hf2⟩; have hk2' := HK1.out.trans hk2; have hb2 := HA.out.st.kept hk2' id; have y1' : w2.cell? ⟨qb, 1, none⟩ = some (.int .i64 s.now) := hb2.cell 1; have y2' : w2.cell? ⟨qb, 2, none⟩ = some (.int .i64 s.told) := hb2.cell 2; have y3' : w2.cell? ⟨qb, 3, none⟩ = some (.int .i64 s.typ) := hb2.cell 3; have y4' : w2.cell? ⟨qb, 4, none⟩ = some (.bool s.cmp) := hb2.cell 4; have y5' : w2.cell? ⟨qb, 5, none⟩ = some (.bool s.fresh) := hb2.cell 5; have HR2 : Hid _ := hr2; have HK12 : Hid _ := hk2; have HK2 : Hid _ := hk2'; have HF2 : Hid _ := hf2; clear hr2 hk2 hk2' hf2 hb2)
    | (go_at_call 6; refine (cloneR_any ar nr cr s.rv w2 (HA.out.rv.kept HK2.out (fun _ _ => id)) (by have := HA.out.rv.len; have := HA.out.hrl; omega)).mono ?_; rintro e w3 ⟨a3, c3, rfl, hr3, hk3, hf3⟩; have hk3' := HK2.out.trans hk3; have hb3 := HA.out.st.kept hk3' id; have y1'' : w3.cell? ⟨qb, 1, none⟩ = some (.int .i64 s.now) := hb3.cell 1; have y2'' : w3.cell? ⟨qb, 2, none⟩ = some (.int .i64 s.told) := hb3.cell 2; have y3'' : w3.cell? ⟨qb, 3, none⟩ = some (.int .i64 s.typ) := hb3.cell 3; have y4'' : w3.cell? ⟨qb, 4, none⟩ = some (.bool s.cmp) := hb3.cell 4; have y5'' : w3.cell? ⟨qb, 5, none⟩ = some (.bool s.fresh) := hb3.cell 5; have HR3 : Hid _ := hr3; have HK23 : Hid _ := hk3; have HK3 : Hid _ := hk3'; have HF3 : Hid _ := hf3; clear hr3 hk3 hk3' hf3 hb3))
  all_goals
    go_wp2_with fail
    have hmc := MC.made (w := w) HR1.out HK12.out HR2.out HK23.out HR3.out HK1.out.size HF1.out HF2.out HF3.out
    exact HKK.out _ _ (tail22 (HA.out.toWn (HK3.out.alloc _) ⟨_, _, _, _, _, _, _, _, _, hmc⟩))

end Go.Proofs.YbulkdywgDoor
