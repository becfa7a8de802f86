/-
  Seat b6272aD: the call of the node's apply.
-/
import Derived.Test.YbulkdywgDoorT26
import Derived.Test.YbulkdywgDoorStamp
namespace Go.Proofs.YbulkdywgDoor
open Go.RowKit
set_option linter.unusedVariables false

def outReply (s : MS) (m : Msg) : Msg := if m.kind = 1 then { m.reply with found := putFound s m } else if m.kind = 2 then getReply s.held m else if m.kind = 10 then stampReply s m else m.reply
def outS (bits : Int) (s : MS) (m : Msg) : MS := if m.kind = 1 then putS s m else if m.kind = 2 then s else if m.kind = 10 then reserveS s bits m.o m.q m.key else s
def outK (s : MS) (m : Msg) : Int := if m.kind = 1 then cntOf (putFound s m) else 0

theorem NAt.mapMono {w : World} {G : Nat → Prop} {nb cb tb mb : Nat} {keeps bits : Int} {s : MS} {nm : Nat} (h : NAt w G nb cb tb mb keeps bits nm s) : NAt w G nb cb tb mb keeps bits (nm + 1) s := by
  obtain ⟨_, _, _, _, _, _, _, h⟩ := h
  exact ⟨_, _, _, _, _, _, _, h.mapMono (Nat.le_succ _)⟩

theorem apply_any (G : Nat → Prop) (nb cb tb mb mk : Nat) (bits : Int) (nm : Nat) (s : MS) (m : Msg) (w : World) (hn : NAt w G nb cb tb mb 0 bits nm s) (hm : Blk w mk m.cells) (hk : KindsIn w) (hk0 : 0 ≤ m.kind) (hk1 : m.kind < 13)
    (hg : ¬ G mk) (h4 : ∀ r ∈ s.rv, In4 r.o r.q) (hnm : nm ≤ 2000000) (ho4 : In4 m.o m.q) (hks : m.key.size ≤ maxLen) (hb : 0 ≤ bits ∧ bits < 16) (hlen : s.held.length ≤ 10000) (hrl : (weigh s).rv.length ≤ 10000) :
    Calls Ybad.prog 13 #[.pointer (some ⟨nb, 0, none⟩), .pointer (some ⟨mk, 0, none⟩)] w fun e w' => e = .returned (.pointer (some ⟨w.heap.size, 0, none⟩)) ∧
      Blk w' w.heap.size (outReply s m).cells ∧ NAt w' (boxG G w.heap.size) nb cb tb mb (outK s m) bits (nm + 1) (outS bits s m) ∧ Kept (boxG G w.heap.size) w w' := by
  by_cases h1 : m.kind = 1
  · refine (apply_put G nb cb tb mb mk bits nm s m w hn hm hk h1 hg h4 hnm ho4 hlen).mono ?_
    rintro e w' ⟨rfl, r1, r2, r3⟩
    simp only [outReply, outS, outK, if_pos h1]
    exact ⟨trivial, r1, r2.mapMono, r3⟩
  · by_cases h2 : m.kind = 2
    · refine (apply_get G nb cb tb mb mk bits nm s m w hn hm hk h2 hg).mono ?_
      rintro e w' ⟨rfl, r1, r2, r3⟩
      simp only [outReply, outS, outK, if_neg h1, if_pos h2]
      exact ⟨trivial, r1, r2.mapMono, r3⟩
    · by_cases h3 : m.kind = 10
      · refine (apply_stamp G nb cb tb mb mk bits nm s m w hn hm hk h3 hg h4 hnm ho4 hks hb hrl).mono ?_
        rintro e w' ⟨rfl, r1, r2, r3⟩
        simp only [outReply, outS, outK, if_neg h1, if_neg h2, if_pos h3]
        exact ⟨trivial, r1, r2, r3⟩
      · obtain ⟨cs, ah, nh, ch, ar, nr, cr, hn⟩ := hn
        refine (apply_other nb mk m w hm hk hk0 hk1 h1 h2 h3).mono ?_
        rintro e w' ⟨rfl, r1, r3⟩
        simp only [outReply, outS, outK, if_neg h1, if_neg h2, if_neg h3]
        refine ⟨trivial, r1, ⟨cs, ah, nh, ch, ar, nr, cr, ?_⟩, r3.mono (fun _ => False.elim)⟩
        have hq := hn.quiet r3
        have h10 := hn.blk.lt
        have h11 := hn.cond.lt
        have h12 := hn.net.lt
        have h13 := hn.map.lt
        have hlt := r1.lt
        refine ⟨hq.blk, hq.cells, hq.cond, hq.net, hq.map.mono (Nat.le_succ _), hq.held, hq.rv, ⟨⟨hn.g.1, by omega⟩, ⟨hn.g.2.1, by omega⟩, ⟨hn.g.2.2.1, by omega⟩, ⟨hn.g.2.2.2, by omega⟩⟩, hn.ne, fun b e => ⟨⟨(hn.gh b e).1, ?_⟩, (hn.gh b e).2⟩, fun b e => ⟨⟨(hn.gr b e).1, ?_⟩, (hn.gr b e).2⟩, hn.hr, fun b hb => ⟨hn.fresh b ?_, ?_⟩⟩
        · have := hn.held.lt b e; omega
        · have := hn.rv.lt b e; omega
        · omega
        · omega

/-- What stands when the node is asked. -/
structure Pre (w0 w : World) (Gn Gs : Nat → Prop) (nb cb tb mb bs mk bk wb nm : Nat) (m : Msg) (bits : Int) (s : MS) : Prop where
  nc : NAt w Gn nb cb tb mb 0 bits nm s
  mc : MAt w Gs bs (outS bits s m)
  want : Blk w wb (outReply s m).cells
  msg : Blk w mk m.cells
  bef : Blk w bk m.cells
  kinds : KindsIn w
  k0 : 0 ≤ m.kind
  k1 : m.kind < 13
  gm : ¬ Gn mk
  gb : ¬ Gn bk
  gw : ¬ Gn wb
  gs : ∀ b, b < w.heap.size → Gs b → ¬ Gn b
  g0 : ∀ b, b < w0.heap.size → ¬ Gn b
  h4 : ∀ r ∈ s.rv, In4 r.o r.q
  hnm : nm ≤ 2000000
  ho4 : In4 m.o m.q
  hks : m.key.size ≤ maxLen
  hb : 0 ≤ bits ∧ bits < 16
  hlen : s.held.length ≤ 10000
  hrl : (weigh s).rv.length ≤ 10000
  below : Below w0.heap.size w0 w

set_option maxHeartbeats 4000000 in
set_option maxRecDepth 100000 in
theorem tail25 {u0 u1 u2 u3 u4 u5 u6 u7 u8 u9 u11 u12 u13 u14 u15 u16 u17 u18 u19 u20 u21 u22 u23 u24 u25 u26 u27 u28 u29 u32 u39 u40 u41 u42 u43 u44 u45 u46 u47 u48 u49 u50 u51 u52 u53 u54 u55 u56 u57 u58 u59 u60 u61 u62 u63 u64 u65 u66 u67 u68 u69 u70 u71 u72 u73 u74 u75 u76 u77 u78 u79 u80 u81 u82 u83 u84 u85 u86 u87 u88 u89 u90 u91 u92 u93 u94 u95 u96 u97 u98 u99 u100 u101 u102 u103 u104 u105 u106 u107 u108 u109 u110 u111 u112 u113 u114 u115 u116 u117 u118 u119 u120 u121 u122 u123 u124 u125 u126 u127 u128 u129 u130 u131 u132 u133 u134 u135 u136 u137 u138 u139 u140 u141 u142 u143 u144 u145 u146 u147 u148 u149 u150 u151 u152 u153 u154 u155 u156 u157 u158 u159 u160 u161 u162 u163 u164 u165 u166 u167 u168 u169 u170 u171 u172 u173 u174 u175 u176 u177 u178 u179 u180 u181 u182 u183 u184 u185 u186 u187 u188 u189 u190 u191 u192 u193 u194 u195 u196 u197 u198 u199 u200 u201 u202 u203 u204 u205 u206 u207 u208 u209 u210 u211 u212 u213 u214 u215 u216 u217 u218 u219 u220 u221 u222 u223 u224 u225 u226 u227 u228 u229 u230 u231 u232 u233 u234 u235 u236 u237 u238 u239 u240 u241 u242 u243 u244 u245 u246 u247 u248 u249 u250 u251 u252 u253 u254 u255 u256 u257 u258 u259 u260 u261 u262 u263 u264 u265 u266 u267 u268 u269 u270 u271 u272 u273 u274 u275 u276 u277 u278 u279 u280 u281 u282 u283 u284 u285 u286 u287 u288 u289 u290 u291 u292 u293 u294 u295 u296 u297 u298 u299 u300 u301 u302 u303 u304 u305 u306 u307 u308 u309 u310 u311 u312 u313 u314 u315 u316 u317 u318 u319 u320 u321 u322 u323 u324 u325 u326 u327 u328 u329 u330 u331 u332 u333 u334 u335 u336 u337 u338 u339 u340 u341 u342 u343 u344 u345 u346 u347 u348 u349 u350 u351 u352 u353 u354 u355 u356 u357 u358 u359 u360 u361 u362 u363 u364 u365 u366 u367 u368 u369 u370 u371 u372 u373 u374 u375 u376 u377 u378 u379 u380 u381 u382 u383 u384 u385 u386 u387 u388 u389 u390 u391 u392 u393 u394 u395 u396 u397 u398 u399 u400 u401 u402 u403 u404 u405 u406 u407 u408 u409 u410 u411 u412 u413 u414 u415 u416 u417 u418 u419 u420 u421 u422 u423 u424 u425 u426 u427 u428 u429 u430 u431 u432 u433 u434 u435 u436 u437 u438 u439 u440 u441 u442 u443 u444 u445 u446 u447 u448 u449 u450 u451 u452 u453 u454 u455 u456 u457 u458 u459 u460 u461 u462 u463 u464 u465 u466 u467 u468 u469 u470 u471 u472 u473 u474 u475 u476 u477 u478 u479 u480 u481 u482 u483 u484 u485 u486 u487 u488 u489 u490 u491 u492 u493 u494 u495 u496 u497 u498 u499 u500 u501 u502 u503 u504 u505 u506 u507 u508 u509 u510 u511 u512 u513 u514 u515 u516 u517 u518 u519 u520 u521 u522 u523 u524 u525 u526 u527 u528 u529 u530 u531 u532 u533 u534 u535 u536 u537 u538 u539 u540 u541 u542 u543 u544 u545 u546 u547 u548 u549 u550 u551 u552 u553 u554 u555 u556 u557 u558 u559 u560 u561 u562 u563 u564 u565 u566 u567 u568 u569 u570 u571 u572 u573 u574 u575 u576 u577 u578 u579 u580 u581 u582 u583 u584 u585 u586 u587 u588 u589 u590 u591 u592 u593 u594 u595 u596 u597 u598 u599 u600 u601 u602 u603 u604 u605 u606 u607 u608 u609 u610 u611 u612 u613 u614 u615 u616 u617 u618 u619 u620 u621 u622 u623 u624 u625 u626 u627 : Value} {w0 w : World} {Gn Gs : Nat → Prop} {nb cb tb mb bs mk bk wb nm : Nat} {m : Msg} {k bits : Int} {s : MS} (hP : Pre w0 w Gn Gs nb cb tb mb bs mk bk wb nm m bits s) (hk : k = outK s m) :
    Code.wp Ybad.prog (dropSeq 25 (Ybad.f3.body.getD .skip)) (bodyPost Ybad.prog Ybad.f3 fun e w' => e = .returned (.bool true) ∧ Below w0.heap.size w0 w') ⟨#[u0, u1, u2, u3, u4, u5, u6, u7, u8, u9, .bool false, u11, u12, u13, u14, u15, u16, u17, u18, u19, u20, u21, u22, u23, u24, u25, u26, u27, u28, u29, .pointer (some ⟨mk, 0, none⟩), .pointer (some ⟨bk, 0, none⟩), u32, .pointer (some ⟨tb, 0, none⟩), .pointer (some ⟨cb, 0, none⟩), .pointer (some ⟨nb, 0, none⟩), .pointer (some ⟨bs, 0, none⟩), .pointer (some ⟨wb, 0, none⟩), .int .i64 k, u39, u40, u41, u42, u43, u44, u45, u46, u47, u48, u49, u50, u51, u52, u53, u54, u55, u56, u57, u58, u59, u60, u61, u62, u63, u64, u65, u66, u67, u68, u69, u70, u71, u72, u73, u74, u75, u76, u77, u78, u79, u80, u81, u82, u83, u84, u85, u86, u87, u88, u89, u90, u91, u92, u93, u94, u95, u96, u97, u98, u99, u100, u101, u102, u103, u104, u105, u106, u107, u108, u109, u110, u111, u112, u113, u114, u115, u116, u117, u118, u119, u120, u121, u122, u123, u124, u125, u126, u127, u128, u129, u130, u131, u132, u133, u134, u135, u136, u137, u138, u139, u140, u141, u142, u143, u144, u145, u146, u147, u148, u149, u150, u151, u152, u153, u154, u155, u156, u157, u158, u159, u160, u161, u162, u163, u164, u165, u166, u167, u168, u169, u170, u171, u172, u173, u174, u175, u176, u177, u178, u179, u180, u181, u182, u183, u184, u185, u186, u187, u188, u189, u190, u191, u192, u193, u194, u195, u196, u197, u198, u199, u200, u201, u202, u203, u204, u205, u206, u207, u208, u209, u210, u211, u212, u213, u214, u215, u216, u217, u218, u219, u220, u221, u222, u223, u224, u225, u226, u227, u228, u229, u230, u231, u232, u233, u234, u235, u236, u237, u238, u239, u240, u241, u242, u243, u244, u245, u246, u247, u248, u249, u250, u251, u252, u253, u254, u255, u256, u257, u258, u259, u260, u261, u262, u263, u264, u265, u266, u267, u268, u269, u270, u271, u272, u273, u274, u275, u276, u277, u278, u279, u280, u281, u282, u283, u284, u285, u286, u287, u288, u289, u290, u291, u292, u293, u294, u295, u296, u297, u298, u299, u300, u301, u302, u303, u304, u305, u306, u307, u308, u309, u310, u311, u312, u313, u314, u315, u316, u317, u318, u319, u320, u321, u322, u323, u324, u325, u326, u327, u328, u329, u330, u331, u332, u333, u334, u335, u336, u337, u338, u339, u340, u341, u342, u343, u344, u345, u346, u347, u348, u349, u350, u351, u352, u353, u354, u355, u356, u357, u358, u359, u360, u361, u362, u363, u364, u365, u366, u367, u368, u369, u370, u371, u372, u373, u374, u375, u376, u377, u378, u379, u380, u381, u382, u383, u384, u385, u386, u387, u388, u389, u390, u391, u392, u393, u394, u395, u396, u397, u398, u399, u400, u401, u402, u403, u404, u405, u406, u407, u408, u409, u410, u411, u412, u413, u414, u415, u416, u417, u418, u419, u420, u421, u422, u423, u424, u425, u426, u427, u428, u429, u430, u431, u432, u433, u434, u435, u436, u437, u438, u439, u440, u441, u442, u443, u444, u445, u446, u447, u448, u449, u450, u451, u452, u453, u454, u455, u456, u457, u458, u459, u460, u461, u462, u463, u464, u465, u466, u467, u468, u469, u470, u471, u472, u473, u474, u475, u476, u477, u478, u479, u480, u481, u482, u483, u484, u485, u486, u487, u488, u489, u490, u491, u492, u493, u494, u495, u496, u497, u498, u499, u500, u501, u502, u503, u504, u505, u506, u507, u508, u509, u510, u511, u512, u513, u514, u515, u516, u517, u518, u519, u520, u521, u522, u523, u524, u525, u526, u527, u528, u529, u530, u531, u532, u533, u534, u535, u536, u537, u538, u539, u540, u541, u542, u543, u544, u545, u546, u547, u548, u549, u550, u551, u552, u553, u554, u555, u556, u557, u558, u559, u560, u561, u562, u563, u564, u565, u566, u567, u568, u569, u570, u571, u572, u573, u574, u575, u576, u577, u578, u579, u580, u581, u582, u583, u584, u585, u586, u587, u588, u589, u590, u591, u592, u593, u594, u595, u596, u597, u598, u599, u600, u601, u602, u603, u604, u605, u606, u607, u608, u609, u610, u611, u612, u613, u614, u615, u616, u617, u618, u619, u620, u621, u622, u623, u624, u625, u626, u627], []⟩ w := by
  conv => arg 2; whnf
  dsimp only
  have HP : Hid (Pre w0 w Gn Gs nb cb tb mb bs mk bk wb nm m bits s) := hP
  have HE : Hid (k = outK s m) := hk
  clear hP hk
  go_step
  go_step
  rename_i K hK
  have HKK : Hid _ := hK
  clear hK
  go_wp2_with fail
  refine (apply_any Gn nb cb tb mb mk bits nm s m w HP.out.nc HP.out.msg HP.out.kinds HP.out.k0 HP.out.k1 HP.out.gm HP.out.h4 HP.out.hnm HP.out.ho4 HP.out.hks HP.out.hb HP.out.hlen HP.out.hrl).mono ?_
  rintro e w' ⟨rfl, r1, r2, r3⟩
  have HR1 : Hid _ := r1
  have HR2 : Hid _ := r2
  have HR3 : Hid (Kept (boxG Gn w.heap.size) w w') := r3
  clear r1 r2 r3
  go_wp2_with fail
  have hP := HP.out
  have r3 := HR3.out
  refine HKK.out _ _ (tail26 (Gn := boxG Gn w.heap.size) (Gs := Gs) (mb := mb) (nm := nm + 1) (R := outReply s m) (m := m) (bits := bits) (S := outS bits s m) ⟨HR1.out, hP.want.kept r3 (fun h => hP.gw h.1), hP.msg.kept r3 (fun h => hP.gm h.1), hP.bef.kept r3 (fun h => hP.gb h.1), ?_, ?_, ?_, ?_⟩)
  · have := hP.msg.lt; omega
  · rw [HE.out]; exact HR2.out
  · obtain ⟨ah2, nh2, ch2, ap2, np2, cp2, ar2, nr2, cr2, hm⟩ := hP.mc
    exact ⟨_, _, _, _, _, _, _, _, _, hm.kept r3 (fun b hb hg h => hP.gs b hb hg h.1)⟩
  · exact ⟨r3.os.trans hP.below.os, r3.tape.trans hP.below.tape, r3.output.trans hP.below.output, Nat.le_trans hP.below.size r3.size, fun i hi => (r3.block i (Nat.lt_of_lt_of_le hi hP.below.size) (fun h => hP.g0 i hi h.1)).trans (hP.below.block i hi)⟩

end Go.Proofs.YbulkdywgDoor
