/-
  Seat b6272aD: the law's switch at a stamp.
-/
import Derived.Test.YbulkdywgDoorSw
namespace Go.Proofs.YbulkdywgDoor
open Go.RowKit
set_option linter.unusedVariables false

/-- One pair's key rewritten in its place. -/
theorem Row.setKey {w : World} {b o n c : Nat} {ps : List Pr} (h : Row Pr.cells 3 w (some ⟨b, o, none⟩) n c ps) (j : Nat) (x : Pr) (hx : ps[j]? = some x) (key : ByteArray) :
    Row Pr.cells 3 (w.setCell ⟨b, o + j * 3 + 2, none⟩ (.string key)) (some ⟨b, o, none⟩) n c (ps.set j ⟨x.o, x.q, key⟩) := by
  have hl := h.len
  have hj : j < n := by have := (List.getElem?_eq_some_iff.1 hx).1; omega
  refine ⟨by simpa using hl, h.small, h.le, h.cmax, h.pos, by rw [flatMap_len pr_len]; simp [hl], ?_⟩
  rcases h.row with ⟨h0, _⟩ | ⟨b', o', cs, h1, h2, h3, h4⟩
  · cases h0
  · cases h1
    have hfit : o + j * 3 + 3 ≤ cs.size := by have := h.le; omega
    refine .inr ⟨b, o, _, rfl, h2.set _ _, by simpa using h3, fun i u hu => ?_⟩
    obtain ⟨k, t, rfl, ht⟩ : ∃ k t, i = k * 3 + t ∧ t < 3 := ⟨i / 3, i % 3, by omega, by omega⟩
    rw [flatMap_get pr_len t ht] at hu
    by_cases hk : k = j
    · subst hk
      rw [List.getElem?_set_self (by omega)] at hu
      simp only [Option.bind_some] at hu
      by_cases ht2 : t = 2
      · subst ht2
        simp [Pr.cells] at hu
        subst hu
        rw [show o + (k * 3 + 2) = o + k * 3 + 2 by omega, Array.getElem?_setIfInBounds_self_of_lt (by omega)]
      · rw [Array.getElem?_setIfInBounds_ne (by omega)]
        refine h4 _ _ ?_
        rw [flatMap_get pr_len t ht, hx]
        simp only [Option.bind_some]
        have h5 : t = 0 ∨ t = 1 := by omega
        rcases h5 with rfl | rfl
        · exact hu
        · exact hu
    · rw [List.getElem?_set_ne (Ne.symm hk)] at hu
      rw [Array.getElem?_setIfInBounds_ne (by omega)]
      exact h4 _ _ (by rw [flatMap_get pr_len t ht]; exact hu)

/-- The pairs' row rewritten in its place. -/
theorem MC.setPairs {w w' : World} {G : Nat → Prop} {bs : Nat} {s : MS} {ah : Option Addr} {nh ch : Nat} {ap : Option Addr} {np cp : Nat} {ar : Option Addr} {nr cr : Nat} (h : MC w G bs s ah nh ch ap np cp ar nr cr) {xs : List Pr} (hr : Row Pr.cells 3 w' ap np cp xs) (hg : w.grownBy w' (blkOf ap)) : MC w' G bs { s with res := xs } ah nh ch ap np cp ar nr cr :=
  ⟨h.blk.grown hg (fun e => (h.gp bs e.symm).2 rfl), h.held.grown hg (fun b e e' => h.hp b e e'.symm), hr, h.rv.grown hg (fun b e e' => h.pr b e'.symm e), h.gs, h.gh, h.gp, h.gr, h.hp, h.hr, h.pr, fun b hb => h.fresh b (Nat.le_trans hg.size hb)⟩

theorem reserve_held {s : MS} {bits o q : Int} {key : ByteArray} (h : 0 ≤ hiOf s.held key) : reserveB s o q key = true ∧ reserveS s bits o q key = s := by
  by_cases ho : ours s o q key = true
  · exact ⟨if_pos ho, if_pos ho⟩
  · exact ⟨(if_neg ho).trans (if_pos h), (if_neg ho).trans (if_pos h)⟩
theorem reserve_ours {s : MS} {bits o q : Int} {key : ByteArray} (ho : ours s o q key = true) : reserveB s o q key = true ∧ reserveS s bits o q key = s := ⟨if_pos ho, if_pos ho⟩
theorem reserve_new {s : MS} {bits o q : Int} {key : ByteArray} (ho : ours s o q key = false) (h : hiOf s.held key = -1) : reserveB s o q key = fits (weigh s) ∧ reserveS s bits o q key = if fits (weigh s) then reserved (weigh s) bits o q key else weigh s := by
  have h1 : ¬ ours s o q key = true := by rw [ho]; decide
  have h2 : ¬ 0 ≤ hiOf s.held key := by rw [h]; decide
  exact ⟨(if_neg h1).trans (if_neg h2), (if_neg h1).trans (if_neg h2)⟩

theorem MC.far {w : World} {Gs : Nat → Prop} {bs : Nat} {s : MS} {ah : Option Addr} {nh ch : Nat} {ap : Option Addr} {np cp : Nat} {ar : Option Addr} {nr cr : Nat} (h : MC w Gs bs s ah nh ch ap np cp ar nr cr) {b : Nat} (hb : ¬ Gs b) (k : Nat) (v : Value) : MC (w.setCell ⟨b, k, none⟩ v) Gs bs s ah nh ch ap np cp ar nr cr := by
  have hk : Kept (fun x => x = b) w (w.setCell ⟨b, k, none⟩ v) := ⟨rfl, rfl, rfl, by simp [World.setCell], fun i hi hg => heap_setCell_other w _ i v hg⟩
  exact h.kept hk (fun x _ hg e => hb (e ▸ hg))

theorem weigh_res (s : MS) : (weigh s).res.length ≤ s.res.length := by
  have key : ∀ (rs : List Rs) (res : List Pr), (lapseR s.now rs res).2.length ≤ res.length := by
    intro rs
    induction rs with
    | nil => intro res; exact Nat.le_refl _
    | cons r rs ih =>
      intro res
      unfold lapseR
      split
      · exact Nat.le_trans (ih _) (List.length_filter_le _ _)
      · exact Nat.le_refl _
  unfold weigh
  simp only []
  split
  · exact key _ _
  · exact key _ _
theorem weigh_fine {s : MS} (h : Fine s.res) : Fine (weigh s).res := by
  have key : ∀ (rs : List Rs) (res : List Pr), Fine res → Fine (lapseR s.now rs res).2 := by
    intro rs
    induction rs with
    | nil => intro res h; exact h
    | cons r rs ih =>
      intro res h
      unfold lapseR
      split
      · exact ih _ (h.del _ _)
      · exact h
  unfold weigh
  simp only []
  split
  · exact key _ _ h
  · exact key _ _ h

set_option maxHeartbeats 4000000 in
set_option maxRecDepth 100000 in
theorem sw_stampH {u0 u1 u2 u3 u4 u6 u7 u8 u9 u11 u12 u13 u14 u15 u16 u17 u18 u19 u20 u21 u22 u23 u24 u25 u39 u40 u41 u42 u43 u44 u45 u46 u47 u48 u49 u50 u51 u52 u53 u54 u55 u56 u57 u58 u59 u60 u61 u62 u63 u64 u65 u66 u67 u68 u69 u70 u71 u72 u73 u74 u75 u76 u77 u78 u79 u80 u81 u82 u83 u84 u85 u86 u87 u88 u89 u90 u91 u92 u93 u94 u95 u96 u97 u98 u99 u100 u101 u102 u103 u104 u105 u106 u107 u108 u109 u110 u111 u112 u113 u114 u115 u116 u117 u118 u119 u120 u121 u122 u123 u124 u125 u126 u127 u128 u129 u130 u131 u132 u133 u134 u135 u136 u137 u138 u139 u140 u141 u142 u143 u144 u145 u146 u147 u148 u149 u150 u151 u152 u153 u154 u155 u156 u157 u158 u159 u160 u161 u162 u163 u164 u165 u166 u167 u168 u169 u170 u171 u172 u173 u174 u175 u176 u177 u178 u179 u180 u181 u182 u183 u184 u185 u186 u187 u188 u189 u190 u191 u192 u193 u194 u195 u196 u197 u198 u199 u200 u201 u202 u203 u204 u205 u206 u207 u208 u209 u210 u211 u212 u213 u214 u215 u216 u217 u218 u219 u220 u221 u222 u223 u224 u225 u226 u227 u228 u229 u230 u231 u232 u233 u234 u235 u236 u237 u238 u239 u240 u241 u242 u243 u244 u245 u246 u247 u248 u249 u250 u251 u252 u253 u254 u255 u256 u257 u258 u259 u260 u261 u262 u263 u264 u265 u266 u267 u268 u269 u270 u271 u272 u273 u274 u275 u276 u277 u278 u279 u280 u281 u282 u283 u284 u285 u286 u287 u288 u289 u290 u291 u292 u293 u294 u295 u296 u297 u298 u299 u300 u301 u302 u303 u304 u305 u306 u307 u308 u309 u310 u311 u312 u313 u314 u315 u316 u317 u318 u319 u320 u321 u322 u323 u324 u325 u326 u327 u328 u329 u330 u331 u332 u333 u334 u335 u336 u337 u338 u339 u340 u341 u342 u343 u344 u345 u346 u347 u348 u349 u350 u351 u352 u353 u354 u355 u356 u357 u358 u359 u360 u361 u362 u363 u364 u365 u366 u367 u368 u369 u370 u371 u372 u373 u374 u375 u376 u377 u378 u379 u380 u381 u382 u383 u384 u385 u386 u387 u388 u389 u390 u391 u392 u393 u394 u395 u396 u397 u398 u399 u400 u401 u402 u403 u404 u405 u406 u407 u408 u409 u410 u411 u412 u413 u414 u415 u416 u417 u418 u419 u420 u421 u422 u423 u424 u425 u426 u427 u428 u429 u430 u431 u432 u433 u434 u435 u436 u437 u438 u439 u440 u441 u442 u443 u444 u445 u446 u447 u448 u449 u450 u451 u452 u453 u454 u455 u456 u457 u458 u459 u460 u461 u462 u463 u464 u465 u466 u467 u468 u469 u470 u471 u472 u473 u474 u475 u476 u477 u478 u479 u480 u481 u482 u483 u484 u485 u486 u487 u488 u489 u490 u491 u492 u493 u494 u495 u496 u497 u498 u499 u500 u501 u502 u503 u504 u505 u506 u507 u508 u509 u510 u511 u512 u513 u514 u515 u516 u517 u518 u519 u520 u521 u522 u523 u524 u525 u526 u527 u528 u529 u530 u531 u532 u533 u534 u535 u536 u537 u538 u539 u540 u541 u542 u543 u544 u545 u546 u547 u548 u549 u550 u551 u552 u553 u554 u555 u556 u557 u558 u559 u560 u561 u562 u563 u564 u565 u566 u567 u568 u569 u570 u571 u572 u573 u574 u575 u576 u577 u578 u579 u580 u581 u582 u583 u584 u585 u586 u587 u588 u589 u590 u591 u592 u593 u594 u595 u596 u597 u598 u599 u600 u601 u602 u603 u604 u605 u606 u607 u608 u609 u610 u611 u612 u613 u614 u615 u616 u617 u618 u619 u620 u621 u622 u623 u624 u625 u626 u627 : Value} {w0 w : World} {NB Gs : Nat → Prop} {nb cb tb mb bs mk bk wb ob sb pb nm : Nat} {m : Msg} {bits : Int} {s : MS} (hS : Sw w0 w NB Gs nb cb tb mb bs mk bk wb ob sb pb nm m bits s) (h1 : m.kind = 10) (hh : 0 ≤ hiOf s.held m.key) :
    Code.wp Ybad.prog (dropSeq 24 (Ybad.f3.body.getD .skip)) (bodyPost Ybad.prog Ybad.f3 fun e w' => e = .returned (.bool true) ∧ Below w0.heap.size w0 w') ⟨#[u0, u1, u2, u3, u4, .pointer (some ⟨pb, 0, none⟩), u6, u7, u8, u9, .bool false, u11, u12, u13, u14, u15, u16, u17, u18, u19, u20, u21, u22, u23, u24, u25, .string m.key, .int .u8 10, .pointer (some ⟨ob, 0, none⟩), .pointer (some ⟨sb, 0, none⟩), .pointer (some ⟨mk, 0, none⟩), .pointer (some ⟨bk, 0, none⟩), .int .i64 bits, .pointer (some ⟨tb, 0, none⟩), .pointer (some ⟨cb, 0, none⟩), .pointer (some ⟨nb, 0, none⟩), .pointer (some ⟨bs, 0, none⟩), .pointer (some ⟨wb, 0, none⟩), .int .i64 0, u39, u40, u41, u42, u43, u44, u45, u46, u47, u48, u49, u50, u51, u52, u53, u54, u55, u56, u57, u58, u59, u60, u61, u62, u63, u64, u65, u66, u67, u68, u69, u70, u71, u72, u73, u74, u75, u76, u77, u78, u79, u80, u81, u82, u83, u84, u85, u86, u87, u88, u89, u90, u91, u92, u93, u94, u95, u96, u97, u98, u99, u100, u101, u102, u103, u104, u105, u106, u107, u108, u109, u110, u111, u112, u113, u114, u115, u116, u117, u118, u119, u120, u121, u122, u123, u124, u125, u126, u127, u128, u129, u130, u131, u132, u133, u134, u135, u136, u137, u138, u139, u140, u141, u142, u143, u144, u145, u146, u147, u148, u149, u150, u151, u152, u153, u154, u155, u156, u157, u158, u159, u160, u161, u162, u163, u164, u165, u166, u167, u168, u169, u170, u171, u172, u173, u174, u175, u176, u177, u178, u179, u180, u181, u182, u183, u184, u185, u186, u187, u188, u189, u190, u191, u192, u193, u194, u195, u196, u197, u198, u199, u200, u201, u202, u203, u204, u205, u206, u207, u208, u209, u210, u211, u212, u213, u214, u215, u216, u217, u218, u219, u220, u221, u222, u223, u224, u225, u226, u227, u228, u229, u230, u231, u232, u233, u234, u235, u236, u237, u238, u239, u240, u241, u242, u243, u244, u245, u246, u247, u248, u249, u250, u251, u252, u253, u254, u255, u256, u257, u258, u259, u260, u261, u262, u263, u264, u265, u266, u267, u268, u269, u270, u271, u272, u273, u274, u275, u276, u277, u278, u279, u280, u281, u282, u283, u284, u285, u286, u287, u288, u289, u290, u291, u292, u293, u294, u295, u296, u297, u298, u299, u300, u301, u302, u303, u304, u305, u306, u307, u308, u309, u310, u311, u312, u313, u314, u315, u316, u317, u318, u319, u320, u321, u322, u323, u324, u325, u326, u327, u328, u329, u330, u331, u332, u333, u334, u335, u336, u337, u338, u339, u340, u341, u342, u343, u344, u345, u346, u347, u348, u349, u350, u351, u352, u353, u354, u355, u356, u357, u358, u359, u360, u361, u362, u363, u364, u365, u366, u367, u368, u369, u370, u371, u372, u373, u374, u375, u376, u377, u378, u379, u380, u381, u382, u383, u384, u385, u386, u387, u388, u389, u390, u391, u392, u393, u394, u395, u396, u397, u398, u399, u400, u401, u402, u403, u404, u405, u406, u407, u408, u409, u410, u411, u412, u413, u414, u415, u416, u417, u418, u419, u420, u421, u422, u423, u424, u425, u426, u427, u428, u429, u430, u431, u432, u433, u434, u435, u436, u437, u438, u439, u440, u441, u442, u443, u444, u445, u446, u447, u448, u449, u450, u451, u452, u453, u454, u455, u456, u457, u458, u459, u460, u461, u462, u463, u464, u465, u466, u467, u468, u469, u470, u471, u472, u473, u474, u475, u476, u477, u478, u479, u480, u481, u482, u483, u484, u485, u486, u487, u488, u489, u490, u491, u492, u493, u494, u495, u496, u497, u498, u499, u500, u501, u502, u503, u504, u505, u506, u507, u508, u509, u510, u511, u512, u513, u514, u515, u516, u517, u518, u519, u520, u521, u522, u523, u524, u525, u526, u527, u528, u529, u530, u531, u532, u533, u534, u535, u536, u537, u538, u539, u540, u541, u542, u543, u544, u545, u546, u547, u548, u549, u550, u551, u552, u553, u554, u555, u556, u557, u558, u559, u560, u561, u562, u563, u564, u565, u566, u567, u568, u569, u570, u571, u572, u573, u574, u575, u576, u577, u578, u579, u580, u581, u582, u583, u584, u585, u586, u587, u588, u589, u590, u591, u592, u593, u594, u595, u596, u597, u598, u599, u600, u601, u602, u603, u604, u605, u606, u607, u608, u609, u610, u611, u612, u613, u614, u615, u616, u617, u618, u619, u620, u621, u622, u623, u624, u625, u626, u627], []⟩ w := by
  conv => arg 2; whnf
  dsimp only
  have HS : Hid (Sw w0 w NB Gs nb cb tb mb bs mk bk wb ob sb pb nm m bits s) := hS
  obtain ⟨ah, nh, ch, ap, np, cp, ar, nr, cr, hm⟩ := hS.mc
  have HM : Hid (MC w Gs bs s ah nh ch ap np cp ar nr cr) := hm
  have c0 := hm.c0
  have c1 := hm.c1
  have x0 : w.cell? ⟨ob, 0, none⟩ = some (.int .i32 m.o) := hS.op.cell 0
  have x1 : w.cell? ⟨ob, 1, none⟩ = some (.int .u32 m.q) := hS.op.cell 1
  have HE : Hid (outReply s m = stampReply s m ∧ outS bits s m = reserveS s bits m.o m.q m.key ∧ outK s m = 0) := by
    refine ⟨?_, ?_, ?_⟩
    · rw [outReply, if_neg (by omega), if_neg (by omega), if_pos h1]
    · rw [outS, if_neg (by omega), if_neg (by omega), if_pos h1]
    · rw [outK, if_neg (by omega)]
  have hwg : wb ≠ bs := fun e => hS.far.2.2.1 (e ▸ hm.gs)
  have hwo : wb ≠ ob := fun e => hS.ne.2.2.1 e.symm
  have w11 : w.cell? ⟨wb, 11, none⟩ = some (.int .u64 0) := hS.want.cell 11
  have w12 : w.cell? ⟨wb, 12, none⟩ = some (.int .i32 0) := hS.want.cell 12
  have w13 : w.cell? ⟨wb, 13, none⟩ = some (.bool false) := hS.want.cell 13
  have f11 := hS.want.free 11
  have f12 := hS.want.free 12
  have f13 := hS.want.free 13
  obtain ⟨j, x, HJ, hx⟩ : ∃ (j : Nat) (x : It), Hid (hiOf s.held m.key = j) ∧ s.held[j]? = some x := by
    rcases hiOf_cases s.held m.key with ⟨e1, e2⟩ | ⟨j, x, e1, e2, e3⟩
    · omega
    · exact ⟨j, x, e1, e2⟩
  have HX : Hid (ansX s.held m.key = some x) := (ansV_some HJ.out hx).2
  obtain ⟨h1', h2', h3⟩ := hm.held.items
  have hjl := (List.getElem?_eq_some_iff.1 hx).1
  rcases h3 with h0 | ⟨b1, o1, rfl, hcell⟩
  · omega
  obtain ⟨q0, q1, q2, q3⟩ := hcell j x hx
  have hb1 : b1 ≠ wb := fun e => hS.far.2.2.1 (e ▸ (hm.gh b1 rfl).1)
  have jn : (j : Int) < (nh : Int) := by omega
  have HRB : Hid (reserveB s m.o m.q m.key = true ∧ reserveS s bits m.o m.q m.key = s) := reserve_held hh
  clear hS hm h1 hcell h1' h2' hx hjl hh
  go_step
  go_step
  rename_i K hK
  have HKK : Hid _ := hK
  clear hK
  go_upto_region 87 with fail
  refine (hi_any bs (some ⟨b1, o1, none⟩) nh ch s.held m.key w c0 HM.out.held.items).mono ?_
  rintro e w1 ⟨rfl, rfl⟩
  rw [HJ.out]
  go_upto_region 87 with fail
  have hfw := HS.out.far.2.2.1
  have hma := (HM.out.far hfw 11 (.int .u64 x.c)).far hfw 12 (.int .i32 x.r)
  have hwa := (HS.out.want.set 11 (.int .u64 x.c)).set 12 (.int .i32 x.r)
  have hka : Kept (SwG Gs wb) w1 ((w1.setCell ⟨wb, 11, none⟩ (.int .u64 x.c)).setCell ⟨wb, 12, none⟩ (.int .i32 x.r)) := (((Kept.refl (SwG Gs wb) _).setCell (p := ⟨wb, 11, none⟩) (.inr rfl) _).setCell (p := ⟨wb, 12, none⟩) (.inr rfl) _)
  refine (ri_any bs ap np cp s.res m.o m.q _ hma.c1 hma.res.pairs).mono ?_
  rintro e w2 ⟨rfl, hk2⟩
  have HM1 : Hid (MC w2 Gs bs s (some ⟨b1, o1, none⟩) nh ch ap np cp ar nr cr) := hma.kept hk2 (fun _ _ _ => id)
  have HW2 : Hid (Blk w2 wb (Msg.cells { m.reply with count := x.c, writer := x.r })) := Blk.kept hwa hk2 id
  have HK2 : Hid (Kept (SwG Gs wb) w1 w2) := hka.trans (hk2.mono (fun _ => False.elim))
  clear hma hwa hka hk2 c0 c1 x0 x1 w11 w12 w13 f11 f12 f13 q0 q1 q2 q3
  go_upto_region 87 with fail
  go_cut [46, 427] from 413 to 426 (fun _ v wx => v = .bool (ours s m.o m.q m.key) ∧ wx = w2)
  case first =>
    rcases riOf_cases HS.out.fine m.o m.q with ⟨e1, e2, e3⟩ | ⟨j, x, e1, e2, e3, e4, e5, e6, e7, e8⟩
    · have HO : Hid (ours s m.o m.q m.key = false) := by show ours s m.o m.q m.key = false; unfold ours; rw [e2]; rfl
      rw [e1]
      clear e1 e2 e3
      go_wp2_with fail
      go_meet
      case rel => exact ⟨by rw [HO.out], rfl⟩
    · obtain ⟨h1, h2', h3⟩ := HM1.out.res.pairs
      have hjl := (List.getElem?_eq_some_iff.1 e2).1
      rcases h3 with h0 | ⟨b1, o1, rfl, hcell⟩
      · omega
      obtain ⟨q0, q1, q2⟩ := hcell j x e2
      have jn : (j : Int) < (np : Int) := by omega
      have d1 := HM1.out.c1
      clear hcell h1 h2' e2 hjl
      by_cases hkey : x.key = m.key
      · have HO : Hid (ours s m.o m.q m.key = true) := by show ours s m.o m.q m.key = true; unfold ours; rw [e5, e6, hkey]; simp
        rw [hkey] at q2
        rw [e1]
        clear e1 e3 e4 e5 e6 e7 e8 hkey
        go_wp2_with fail
        go_meet
        case rel => exact ⟨by rw [HO.out], rfl⟩
      · have HO : Hid (ours s m.o m.q m.key = false) := by show ours s m.o m.q m.key = false; unfold ours; rw [e5, e6, str_ne hkey]; rfl
        have hks := str_ne hkey
        rw [e1]
        clear e1 e3 e4 e5 e6 e7 e8 hkey
        go_wp2_with fail
        go_meet
        case rel => exact ⟨by rw [HO.out], rfl⟩
  case rest =>
  rename World => w2'
  obtain ⟨rfl, rfl⟩ := hcut
  go_step
  have g13 : w2'.cell? ⟨wb, 13, none⟩ = some (.bool false) := HW2.out.cell 13
  have gf13 := HW2.out.free 13
  have d0 := HM1.out.c0
  have HSR : Hid (stampReply s m = { m.reply with count := x.c, writer := x.r, found := true }) := by
    show stampReply s m = _
    unfold stampReply
    rw [HX.out, HRB.out.1]
  have fin : Pre w0 (w2'.setCell ⟨wb, 13, none⟩ (.bool true)) (fun b => NB b ∨ (w2'.setCell ⟨wb, 13, none⟩ (.bool true)).heap.size ≤ b) Gs nb cb tb mb bs mk bk wb nm m bits s := by
    refine HS.out.toPre (HK2.out.setCell (p := ⟨wb, 13, none⟩) (.inr rfl) _) ?_ ?_
    · rw [HE.out.2.1, HRB.out.2]; exact ⟨_, _, _, _, _, _, _, _, _, HM1.out.far HS.out.far.2.2.1 13 _⟩
    · rw [HE.out.1, HSR.out]; exact HW2.out.set 13 _
  have FIN : Hid _ := fin
  clear fin
  cases ho : ours s m.o m.q m.key with
  | true =>
    clear ho
    go_wp2_with fail
    exact HKK.out _ _ (tail25 FIN.out HE.out.2.2.symm)
  | false =>
    clear ho
    go_wp2_with fail
    refine (hi_any bs (some ⟨b1, o1, none⟩) nh ch s.held m.key w2' d0 HM1.out.held.items).mono ?_
    rintro e w3 ⟨rfl, rfl⟩
    rw [HJ.out]
    go_wp2_with fail
    exact HKK.out _ _ (tail25 FIN.out HE.out.2.2.symm)

end Go.Proofs.YbulkdywgDoor
