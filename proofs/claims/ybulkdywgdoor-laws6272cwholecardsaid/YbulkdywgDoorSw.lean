/-
  Seat b6272aD: the law's switch: what stands, and the two easy arms.
-/
import Derived.Test.YbulkdywgDoorT25
namespace Go.Proofs.YbulkdywgDoor
open Go.RowKit
set_option linter.unusedVariables false

/-- What stands ahead of the model's own steps. -/
structure Sw (w0 w : World) (NB Gs : Nat → Prop) (nb cb tb mb bs mk bk wb ob sb pb nm : Nat) (m : Msg) (bits : Int) (s : MS) : Prop where
  nc : NAt w (fun b => NB b ∨ w.heap.size ≤ b) nb cb tb mb 0 bits nm s
  mc : MAt w Gs bs s
  want : Blk w wb m.reply.cells
  msg : Blk w mk m.cells
  bef : Blk w bk m.cells
  op : Blk w ob #[.int .i32 m.o, .int .u32 m.q]
  st : Blk w sb #[.int .u64 m.count, .int .i32 m.writer]
  val : w.cell? ⟨pb, 10, none⟩ = some (.string m.value)
  kinds : KindsIn w
  k0 : 0 ≤ m.kind
  k1 : m.kind < 13
  far : ¬ Gs mk ∧ ¬ Gs bk ∧ ¬ Gs wb ∧ ¬ Gs ob ∧ ¬ Gs sb ∧ ¬ Gs pb
  ne : mk ≠ wb ∧ bk ≠ wb ∧ ob ≠ wb ∧ sb ≠ wb ∧ pb ≠ wb
  nbf : ¬ NB mk ∧ ¬ NB bk ∧ ¬ NB wb
  nbs : ∀ b, NB b → ¬ Gs b
  g0 : ∀ b, b < w0.heap.size → ¬ Gs b ∧ ¬ NB b ∧ b ≠ wb
  pos : 0 < w0.heap.size
  h4 : ∀ r ∈ s.rv, In4 r.o r.q
  hnm : nm ≤ 2000000
  ho4 : In4 m.o m.q
  hks : m.key.size ≤ maxLen
  hb : 0 ≤ bits ∧ bits < 16
  hlen : s.held.length ≤ 10000
  hrl : s.rv.length ≤ 10000
  hres : s.res.length ≤ 10000
  fine : Fine s.res
  below : Below w0.heap.size w0 w

def SwG (Gs : Nat → Prop) (wb : Nat) : Nat → Prop := fun b => Gs b ∨ b = wb

theorem lapse_len (now : Int) : ∀ (rs : List Rs) (res : List Pr), (lapseR now rs res).1.length ≤ rs.length
  | [], res => Nat.le_refl _
  | r :: rs, res => by
    unfold lapseR
    split
    · exact Nat.le_trans (lapse_len now rs _) (Nat.le_succ _)
    · exact Nat.le_refl _
theorem weigh_rv (s : MS) : (weigh s).rv.length ≤ s.rv.length := by
  unfold weigh
  simp only []
  split
  · exact lapse_len _ _ _
  · exact lapse_len _ _ _

theorem Sw.toPre {w0 w w' : World} {NB Gs : Nat → Prop} {nb cb tb mb bs mk bk wb ob sb pb nm : Nat} {m : Msg} {bits : Int} {s : MS} (h : Sw w0 w NB Gs nb cb tb mb bs mk bk wb ob sb pb nm m bits s) (hk : Kept (SwG Gs wb) w w') (hm : MAt w' Gs bs (outS bits s m)) (hw : Blk w' wb (outReply s m).cells) :
    Pre w0 w' (fun b => NB b ∨ w'.heap.size ≤ b) Gs nb cb tb mb bs mk bk wb nm m bits s := by
  have hmk := h.msg.lt
  have hbk := h.bef.lt
  have hwl := h.want.lt
  have hsz := hk.size
  refine ⟨?_, hm, hw, h.msg.kept hk (fun x => x.elim h.far.1 h.ne.1), h.bef.kept hk (fun x => x.elim h.far.2.1 h.ne.2.1), ?_, h.k0, h.k1, fun x => x.elim h.nbf.1 (by omega), fun x => x.elim h.nbf.2.1 (by omega), fun x => x.elim h.nbf.2.2 (by omega), fun b hb hg x => x.elim (fun hn => h.nbs b hn hg) (by omega), fun b hb x => x.elim (h.g0 b hb).2.1 (by have := h.below.size; omega), h.h4, h.hnm, h.ho4, h.hks, h.hb, h.hlen, Nat.le_trans (weigh_rv s) h.hrl, ?_⟩
  · obtain ⟨cs, ah, nh, ch, ar, nr, cr, n⟩ := h.nc
    have nbo : ∀ b, b < w.heap.size → (NB b ∨ w.heap.size ≤ b) → NB b := fun b hb x => x.elim id (by omega)
    have e1 := nbo _ n.blk.lt n.g.1
    have e2 := nbo _ n.cond.lt n.g.2.1
    have e3 := nbo _ n.net.lt n.g.2.2.1
    have e4 := nbo _ n.map.lt n.g.2.2.2
    have ns : ∀ b, NB b → ¬ SwG Gs wb b := fun b hb x => x.elim (h.nbs b hb) (fun e => h.nbf.2.2 (e ▸ hb))
    exact ⟨cs, ah, nh, ch, ar, nr, cr, n.blk.kept hk (ns _ e1), n.cells, n.cond.kept hk (ns _ e2), n.net.kept hk (ns _ e3), n.map.kept hk (ns _ e4), n.held.kept hk (fun b e => ns _ (nbo b (n.held.lt b e) (n.gh b e).1)), n.rv.kept hk (fun b e => ns _ (nbo b (n.rv.lt b e) (n.gr b e).1)),
      ⟨.inl e1, .inl e2, .inl e3, .inl e4⟩, n.ne, fun b e => ⟨.inl (nbo b (n.held.lt b e) (n.gh b e).1), (n.gh b e).2⟩, fun b e => ⟨.inl (nbo b (n.rv.lt b e) (n.gr b e).1), (n.gr b e).2⟩, n.hr, fun b hb => .inr hb⟩
  · intro k hk'
    have h0 := h.g0 0 h.pos
    rw [World.cell?_of_block (w := w) (hk.block 0 (Nat.lt_of_lt_of_le h.pos h.below.size) (fun x => x.elim h0.1 h0.2.2))]
    exact h.kinds k hk'
  · exact ⟨hk.os.trans h.below.os, hk.tape.trans h.below.tape, hk.output.trans h.below.output, Nat.le_trans h.below.size hsz, fun i hi => (hk.block i (Nat.lt_of_lt_of_le hi h.below.size) (fun x => x.elim (h.g0 i hi).1 (h.g0 i hi).2.2)).trans (h.below.block i hi)⟩

theorem MAt.setFar {w : World} {Gs : Nat → Prop} {bs : Nat} {s : MS} (h : MAt w Gs bs s) {b : Nat} (hb : ¬ Gs b) (k : Nat) (v : Value) : MAt (w.setCell ⟨b, k, none⟩ v) Gs bs s := by
  obtain ⟨_, _, _, _, _, _, _, _, _, h⟩ := h
  have hk : Kept (fun x => x = b) w (w.setCell ⟨b, k, none⟩ v) := ⟨rfl, rfl, rfl, by simp [World.setCell], fun i hi hg => heap_setCell_other w _ i v hg⟩
  exact ⟨_, _, _, _, _, _, _, _, _, h.kept hk (fun x _ hg e => hb (e ▸ hg))⟩

set_option maxHeartbeats 4000000 in
set_option maxRecDepth 100000 in
theorem sw_other {u0 u1 u2 u3 u4 u6 u7 u8 u9 u11 u12 u13 u14 u15 u16 u17 u18 u19 u20 u21 u22 u23 u24 u25 u39 u40 u41 u42 u43 u44 u45 u46 u47 u48 u49 u50 u51 u52 u53 u54 u55 u56 u57 u58 u59 u60 u61 u62 u63 u64 u65 u66 u67 u68 u69 u70 u71 u72 u73 u74 u75 u76 u77 u78 u79 u80 u81 u82 u83 u84 u85 u86 u87 u88 u89 u90 u91 u92 u93 u94 u95 u96 u97 u98 u99 u100 u101 u102 u103 u104 u105 u106 u107 u108 u109 u110 u111 u112 u113 u114 u115 u116 u117 u118 u119 u120 u121 u122 u123 u124 u125 u126 u127 u128 u129 u130 u131 u132 u133 u134 u135 u136 u137 u138 u139 u140 u141 u142 u143 u144 u145 u146 u147 u148 u149 u150 u151 u152 u153 u154 u155 u156 u157 u158 u159 u160 u161 u162 u163 u164 u165 u166 u167 u168 u169 u170 u171 u172 u173 u174 u175 u176 u177 u178 u179 u180 u181 u182 u183 u184 u185 u186 u187 u188 u189 u190 u191 u192 u193 u194 u195 u196 u197 u198 u199 u200 u201 u202 u203 u204 u205 u206 u207 u208 u209 u210 u211 u212 u213 u214 u215 u216 u217 u218 u219 u220 u221 u222 u223 u224 u225 u226 u227 u228 u229 u230 u231 u232 u233 u234 u235 u236 u237 u238 u239 u240 u241 u242 u243 u244 u245 u246 u247 u248 u249 u250 u251 u252 u253 u254 u255 u256 u257 u258 u259 u260 u261 u262 u263 u264 u265 u266 u267 u268 u269 u270 u271 u272 u273 u274 u275 u276 u277 u278 u279 u280 u281 u282 u283 u284 u285 u286 u287 u288 u289 u290 u291 u292 u293 u294 u295 u296 u297 u298 u299 u300 u301 u302 u303 u304 u305 u306 u307 u308 u309 u310 u311 u312 u313 u314 u315 u316 u317 u318 u319 u320 u321 u322 u323 u324 u325 u326 u327 u328 u329 u330 u331 u332 u333 u334 u335 u336 u337 u338 u339 u340 u341 u342 u343 u344 u345 u346 u347 u348 u349 u350 u351 u352 u353 u354 u355 u356 u357 u358 u359 u360 u361 u362 u363 u364 u365 u366 u367 u368 u369 u370 u371 u372 u373 u374 u375 u376 u377 u378 u379 u380 u381 u382 u383 u384 u385 u386 u387 u388 u389 u390 u391 u392 u393 u394 u395 u396 u397 u398 u399 u400 u401 u402 u403 u404 u405 u406 u407 u408 u409 u410 u411 u412 u413 u414 u415 u416 u417 u418 u419 u420 u421 u422 u423 u424 u425 u426 u427 u428 u429 u430 u431 u432 u433 u434 u435 u436 u437 u438 u439 u440 u441 u442 u443 u444 u445 u446 u447 u448 u449 u450 u451 u452 u453 u454 u455 u456 u457 u458 u459 u460 u461 u462 u463 u464 u465 u466 u467 u468 u469 u470 u471 u472 u473 u474 u475 u476 u477 u478 u479 u480 u481 u482 u483 u484 u485 u486 u487 u488 u489 u490 u491 u492 u493 u494 u495 u496 u497 u498 u499 u500 u501 u502 u503 u504 u505 u506 u507 u508 u509 u510 u511 u512 u513 u514 u515 u516 u517 u518 u519 u520 u521 u522 u523 u524 u525 u526 u527 u528 u529 u530 u531 u532 u533 u534 u535 u536 u537 u538 u539 u540 u541 u542 u543 u544 u545 u546 u547 u548 u549 u550 u551 u552 u553 u554 u555 u556 u557 u558 u559 u560 u561 u562 u563 u564 u565 u566 u567 u568 u569 u570 u571 u572 u573 u574 u575 u576 u577 u578 u579 u580 u581 u582 u583 u584 u585 u586 u587 u588 u589 u590 u591 u592 u593 u594 u595 u596 u597 u598 u599 u600 u601 u602 u603 u604 u605 u606 u607 u608 u609 u610 u611 u612 u613 u614 u615 u616 u617 u618 u619 u620 u621 u622 u623 u624 u625 u626 u627 : Value} {w0 w : World} {NB Gs : Nat → Prop} {nb cb tb mb bs mk bk wb ob sb pb nm : Nat} {m : Msg} {bits : Int} {s : MS} (hS : Sw w0 w NB Gs nb cb tb mb bs mk bk wb ob sb pb nm m bits s) (h1 : m.kind ≠ 1) (h2 : m.kind ≠ 2) (h3 : m.kind ≠ 10) :
    Code.wp Ybad.prog (dropSeq 24 (Ybad.f3.body.getD .skip)) (bodyPost Ybad.prog Ybad.f3 fun e w' => e = .returned (.bool true) ∧ Below w0.heap.size w0 w') ⟨#[u0, u1, u2, u3, u4, .pointer (some ⟨pb, 0, none⟩), u6, u7, u8, u9, .bool false, u11, u12, u13, u14, u15, u16, u17, u18, u19, u20, u21, u22, u23, u24, u25, .string m.key, .int .u8 m.kind, .pointer (some ⟨ob, 0, none⟩), .pointer (some ⟨sb, 0, none⟩), .pointer (some ⟨mk, 0, none⟩), .pointer (some ⟨bk, 0, none⟩), .int .i64 bits, .pointer (some ⟨tb, 0, none⟩), .pointer (some ⟨cb, 0, none⟩), .pointer (some ⟨nb, 0, none⟩), .pointer (some ⟨bs, 0, none⟩), .pointer (some ⟨wb, 0, none⟩), .int .i64 0, u39, u40, u41, u42, u43, u44, u45, u46, u47, u48, u49, u50, u51, u52, u53, u54, u55, u56, u57, u58, u59, u60, u61, u62, u63, u64, u65, u66, u67, u68, u69, u70, u71, u72, u73, u74, u75, u76, u77, u78, u79, u80, u81, u82, u83, u84, u85, u86, u87, u88, u89, u90, u91, u92, u93, u94, u95, u96, u97, u98, u99, u100, u101, u102, u103, u104, u105, u106, u107, u108, u109, u110, u111, u112, u113, u114, u115, u116, u117, u118, u119, u120, u121, u122, u123, u124, u125, u126, u127, u128, u129, u130, u131, u132, u133, u134, u135, u136, u137, u138, u139, u140, u141, u142, u143, u144, u145, u146, u147, u148, u149, u150, u151, u152, u153, u154, u155, u156, u157, u158, u159, u160, u161, u162, u163, u164, u165, u166, u167, u168, u169, u170, u171, u172, u173, u174, u175, u176, u177, u178, u179, u180, u181, u182, u183, u184, u185, u186, u187, u188, u189, u190, u191, u192, u193, u194, u195, u196, u197, u198, u199, u200, u201, u202, u203, u204, u205, u206, u207, u208, u209, u210, u211, u212, u213, u214, u215, u216, u217, u218, u219, u220, u221, u222, u223, u224, u225, u226, u227, u228, u229, u230, u231, u232, u233, u234, u235, u236, u237, u238, u239, u240, u241, u242, u243, u244, u245, u246, u247, u248, u249, u250, u251, u252, u253, u254, u255, u256, u257, u258, u259, u260, u261, u262, u263, u264, u265, u266, u267, u268, u269, u270, u271, u272, u273, u274, u275, u276, u277, u278, u279, u280, u281, u282, u283, u284, u285, u286, u287, u288, u289, u290, u291, u292, u293, u294, u295, u296, u297, u298, u299, u300, u301, u302, u303, u304, u305, u306, u307, u308, u309, u310, u311, u312, u313, u314, u315, u316, u317, u318, u319, u320, u321, u322, u323, u324, u325, u326, u327, u328, u329, u330, u331, u332, u333, u334, u335, u336, u337, u338, u339, u340, u341, u342, u343, u344, u345, u346, u347, u348, u349, u350, u351, u352, u353, u354, u355, u356, u357, u358, u359, u360, u361, u362, u363, u364, u365, u366, u367, u368, u369, u370, u371, u372, u373, u374, u375, u376, u377, u378, u379, u380, u381, u382, u383, u384, u385, u386, u387, u388, u389, u390, u391, u392, u393, u394, u395, u396, u397, u398, u399, u400, u401, u402, u403, u404, u405, u406, u407, u408, u409, u410, u411, u412, u413, u414, u415, u416, u417, u418, u419, u420, u421, u422, u423, u424, u425, u426, u427, u428, u429, u430, u431, u432, u433, u434, u435, u436, u437, u438, u439, u440, u441, u442, u443, u444, u445, u446, u447, u448, u449, u450, u451, u452, u453, u454, u455, u456, u457, u458, u459, u460, u461, u462, u463, u464, u465, u466, u467, u468, u469, u470, u471, u472, u473, u474, u475, u476, u477, u478, u479, u480, u481, u482, u483, u484, u485, u486, u487, u488, u489, u490, u491, u492, u493, u494, u495, u496, u497, u498, u499, u500, u501, u502, u503, u504, u505, u506, u507, u508, u509, u510, u511, u512, u513, u514, u515, u516, u517, u518, u519, u520, u521, u522, u523, u524, u525, u526, u527, u528, u529, u530, u531, u532, u533, u534, u535, u536, u537, u538, u539, u540, u541, u542, u543, u544, u545, u546, u547, u548, u549, u550, u551, u552, u553, u554, u555, u556, u557, u558, u559, u560, u561, u562, u563, u564, u565, u566, u567, u568, u569, u570, u571, u572, u573, u574, u575, u576, u577, u578, u579, u580, u581, u582, u583, u584, u585, u586, u587, u588, u589, u590, u591, u592, u593, u594, u595, u596, u597, u598, u599, u600, u601, u602, u603, u604, u605, u606, u607, u608, u609, u610, u611, u612, u613, u614, u615, u616, u617, u618, u619, u620, u621, u622, u623, u624, u625, u626, u627], []⟩ w := by
  conv => arg 2; whnf
  dsimp only
  have HS : Hid (Sw w0 w NB Gs nb cb tb mb bs mk bk wb ob sb pb nm m bits s) := hS
  clear hS
  go_step
  go_step
  rename_i K hK
  have HKK : Hid _ := hK
  clear hK
  have HE : Hid (outReply s m = m.reply ∧ outS bits s m = s ∧ outK s m = 0) := by
    refine ⟨?_, ?_, ?_⟩
    · rw [outReply, if_neg h1, if_neg h2, if_neg h3]
    · rw [outS, if_neg h1, if_neg h2, if_neg h3]
    · rw [outK, if_neg h1]
  go_wp2_with fail
  refine HKK.out _ _ (tail25 (HS.out.toPre (Kept.refl _ w) ?_ ?_) HE.out.2.2.symm)
  · rw [HE.out.2.1]; exact HS.out.mc
  · rw [HE.out.1]; exact HS.out.want

set_option maxHeartbeats 4000000 in
set_option maxRecDepth 100000 in
theorem sw_get {u0 u1 u2 u3 u4 u6 u7 u8 u9 u11 u12 u13 u14 u15 u16 u17 u18 u19 u20 u21 u22 u23 u24 u25 u39 u40 u41 u42 u43 u44 u45 u46 u47 u48 u49 u50 u51 u52 u53 u54 u55 u56 u57 u58 u59 u60 u61 u62 u63 u64 u65 u66 u67 u68 u69 u70 u71 u72 u73 u74 u75 u76 u77 u78 u79 u80 u81 u82 u83 u84 u85 u86 u87 u88 u89 u90 u91 u92 u93 u94 u95 u96 u97 u98 u99 u100 u101 u102 u103 u104 u105 u106 u107 u108 u109 u110 u111 u112 u113 u114 u115 u116 u117 u118 u119 u120 u121 u122 u123 u124 u125 u126 u127 u128 u129 u130 u131 u132 u133 u134 u135 u136 u137 u138 u139 u140 u141 u142 u143 u144 u145 u146 u147 u148 u149 u150 u151 u152 u153 u154 u155 u156 u157 u158 u159 u160 u161 u162 u163 u164 u165 u166 u167 u168 u169 u170 u171 u172 u173 u174 u175 u176 u177 u178 u179 u180 u181 u182 u183 u184 u185 u186 u187 u188 u189 u190 u191 u192 u193 u194 u195 u196 u197 u198 u199 u200 u201 u202 u203 u204 u205 u206 u207 u208 u209 u210 u211 u212 u213 u214 u215 u216 u217 u218 u219 u220 u221 u222 u223 u224 u225 u226 u227 u228 u229 u230 u231 u232 u233 u234 u235 u236 u237 u238 u239 u240 u241 u242 u243 u244 u245 u246 u247 u248 u249 u250 u251 u252 u253 u254 u255 u256 u257 u258 u259 u260 u261 u262 u263 u264 u265 u266 u267 u268 u269 u270 u271 u272 u273 u274 u275 u276 u277 u278 u279 u280 u281 u282 u283 u284 u285 u286 u287 u288 u289 u290 u291 u292 u293 u294 u295 u296 u297 u298 u299 u300 u301 u302 u303 u304 u305 u306 u307 u308 u309 u310 u311 u312 u313 u314 u315 u316 u317 u318 u319 u320 u321 u322 u323 u324 u325 u326 u327 u328 u329 u330 u331 u332 u333 u334 u335 u336 u337 u338 u339 u340 u341 u342 u343 u344 u345 u346 u347 u348 u349 u350 u351 u352 u353 u354 u355 u356 u357 u358 u359 u360 u361 u362 u363 u364 u365 u366 u367 u368 u369 u370 u371 u372 u373 u374 u375 u376 u377 u378 u379 u380 u381 u382 u383 u384 u385 u386 u387 u388 u389 u390 u391 u392 u393 u394 u395 u396 u397 u398 u399 u400 u401 u402 u403 u404 u405 u406 u407 u408 u409 u410 u411 u412 u413 u414 u415 u416 u417 u418 u419 u420 u421 u422 u423 u424 u425 u426 u427 u428 u429 u430 u431 u432 u433 u434 u435 u436 u437 u438 u439 u440 u441 u442 u443 u444 u445 u446 u447 u448 u449 u450 u451 u452 u453 u454 u455 u456 u457 u458 u459 u460 u461 u462 u463 u464 u465 u466 u467 u468 u469 u470 u471 u472 u473 u474 u475 u476 u477 u478 u479 u480 u481 u482 u483 u484 u485 u486 u487 u488 u489 u490 u491 u492 u493 u494 u495 u496 u497 u498 u499 u500 u501 u502 u503 u504 u505 u506 u507 u508 u509 u510 u511 u512 u513 u514 u515 u516 u517 u518 u519 u520 u521 u522 u523 u524 u525 u526 u527 u528 u529 u530 u531 u532 u533 u534 u535 u536 u537 u538 u539 u540 u541 u542 u543 u544 u545 u546 u547 u548 u549 u550 u551 u552 u553 u554 u555 u556 u557 u558 u559 u560 u561 u562 u563 u564 u565 u566 u567 u568 u569 u570 u571 u572 u573 u574 u575 u576 u577 u578 u579 u580 u581 u582 u583 u584 u585 u586 u587 u588 u589 u590 u591 u592 u593 u594 u595 u596 u597 u598 u599 u600 u601 u602 u603 u604 u605 u606 u607 u608 u609 u610 u611 u612 u613 u614 u615 u616 u617 u618 u619 u620 u621 u622 u623 u624 u625 u626 u627 : Value} {w0 w : World} {NB Gs : Nat → Prop} {nb cb tb mb bs mk bk wb ob sb pb nm : Nat} {m : Msg} {bits : Int} {s : MS} (hS : Sw w0 w NB Gs nb cb tb mb bs mk bk wb ob sb pb nm m bits s) (h2 : m.kind = 2) :
    Code.wp Ybad.prog (dropSeq 24 (Ybad.f3.body.getD .skip)) (bodyPost Ybad.prog Ybad.f3 fun e w' => e = .returned (.bool true) ∧ Below w0.heap.size w0 w') ⟨#[u0, u1, u2, u3, u4, .pointer (some ⟨pb, 0, none⟩), u6, u7, u8, u9, .bool false, u11, u12, u13, u14, u15, u16, u17, u18, u19, u20, u21, u22, u23, u24, u25, .string m.key, .int .u8 2, .pointer (some ⟨ob, 0, none⟩), .pointer (some ⟨sb, 0, none⟩), .pointer (some ⟨mk, 0, none⟩), .pointer (some ⟨bk, 0, none⟩), .int .i64 bits, .pointer (some ⟨tb, 0, none⟩), .pointer (some ⟨cb, 0, none⟩), .pointer (some ⟨nb, 0, none⟩), .pointer (some ⟨bs, 0, none⟩), .pointer (some ⟨wb, 0, none⟩), .int .i64 0, u39, u40, u41, u42, u43, u44, u45, u46, u47, u48, u49, u50, u51, u52, u53, u54, u55, u56, u57, u58, u59, u60, u61, u62, u63, u64, u65, u66, u67, u68, u69, u70, u71, u72, u73, u74, u75, u76, u77, u78, u79, u80, u81, u82, u83, u84, u85, u86, u87, u88, u89, u90, u91, u92, u93, u94, u95, u96, u97, u98, u99, u100, u101, u102, u103, u104, u105, u106, u107, u108, u109, u110, u111, u112, u113, u114, u115, u116, u117, u118, u119, u120, u121, u122, u123, u124, u125, u126, u127, u128, u129, u130, u131, u132, u133, u134, u135, u136, u137, u138, u139, u140, u141, u142, u143, u144, u145, u146, u147, u148, u149, u150, u151, u152, u153, u154, u155, u156, u157, u158, u159, u160, u161, u162, u163, u164, u165, u166, u167, u168, u169, u170, u171, u172, u173, u174, u175, u176, u177, u178, u179, u180, u181, u182, u183, u184, u185, u186, u187, u188, u189, u190, u191, u192, u193, u194, u195, u196, u197, u198, u199, u200, u201, u202, u203, u204, u205, u206, u207, u208, u209, u210, u211, u212, u213, u214, u215, u216, u217, u218, u219, u220, u221, u222, u223, u224, u225, u226, u227, u228, u229, u230, u231, u232, u233, u234, u235, u236, u237, u238, u239, u240, u241, u242, u243, u244, u245, u246, u247, u248, u249, u250, u251, u252, u253, u254, u255, u256, u257, u258, u259, u260, u261, u262, u263, u264, u265, u266, u267, u268, u269, u270, u271, u272, u273, u274, u275, u276, u277, u278, u279, u280, u281, u282, u283, u284, u285, u286, u287, u288, u289, u290, u291, u292, u293, u294, u295, u296, u297, u298, u299, u300, u301, u302, u303, u304, u305, u306, u307, u308, u309, u310, u311, u312, u313, u314, u315, u316, u317, u318, u319, u320, u321, u322, u323, u324, u325, u326, u327, u328, u329, u330, u331, u332, u333, u334, u335, u336, u337, u338, u339, u340, u341, u342, u343, u344, u345, u346, u347, u348, u349, u350, u351, u352, u353, u354, u355, u356, u357, u358, u359, u360, u361, u362, u363, u364, u365, u366, u367, u368, u369, u370, u371, u372, u373, u374, u375, u376, u377, u378, u379, u380, u381, u382, u383, u384, u385, u386, u387, u388, u389, u390, u391, u392, u393, u394, u395, u396, u397, u398, u399, u400, u401, u402, u403, u404, u405, u406, u407, u408, u409, u410, u411, u412, u413, u414, u415, u416, u417, u418, u419, u420, u421, u422, u423, u424, u425, u426, u427, u428, u429, u430, u431, u432, u433, u434, u435, u436, u437, u438, u439, u440, u441, u442, u443, u444, u445, u446, u447, u448, u449, u450, u451, u452, u453, u454, u455, u456, u457, u458, u459, u460, u461, u462, u463, u464, u465, u466, u467, u468, u469, u470, u471, u472, u473, u474, u475, u476, u477, u478, u479, u480, u481, u482, u483, u484, u485, u486, u487, u488, u489, u490, u491, u492, u493, u494, u495, u496, u497, u498, u499, u500, u501, u502, u503, u504, u505, u506, u507, u508, u509, u510, u511, u512, u513, u514, u515, u516, u517, u518, u519, u520, u521, u522, u523, u524, u525, u526, u527, u528, u529, u530, u531, u532, u533, u534, u535, u536, u537, u538, u539, u540, u541, u542, u543, u544, u545, u546, u547, u548, u549, u550, u551, u552, u553, u554, u555, u556, u557, u558, u559, u560, u561, u562, u563, u564, u565, u566, u567, u568, u569, u570, u571, u572, u573, u574, u575, u576, u577, u578, u579, u580, u581, u582, u583, u584, u585, u586, u587, u588, u589, u590, u591, u592, u593, u594, u595, u596, u597, u598, u599, u600, u601, u602, u603, u604, u605, u606, u607, u608, u609, u610, u611, u612, u613, u614, u615, u616, u617, u618, u619, u620, u621, u622, u623, u624, u625, u626, u627], []⟩ w := by
  conv => arg 2; whnf
  dsimp only
  have HS : Hid (Sw w0 w NB Gs nb cb tb mb bs mk bk wb ob sb pb nm m bits s) := hS
  obtain ⟨ah, nh, ch, ap, np, cp, ar, nr, cr, hm⟩ := hS.mc
  have HM : Hid (MC w Gs bs s ah nh ch ap np cp ar nr cr) := hm
  have c0 := hm.c0
  have w10 : w.cell? ⟨wb, 10, none⟩ = some (.string ⟨#[]⟩) := hS.want.cell 10
  have w11 : w.cell? ⟨wb, 11, none⟩ = some (.int .u64 0) := hS.want.cell 11
  have w12 : w.cell? ⟨wb, 12, none⟩ = some (.int .i32 0) := hS.want.cell 12
  have w13 : w.cell? ⟨wb, 13, none⟩ = some (.bool false) := hS.want.cell 13
  have f10 := hS.want.free 10
  have f11 := hS.want.free 11
  have f12 := hS.want.free 12
  have f13 := hS.want.free 13
  have HE : Hid (outReply s m = getReply s.held m ∧ outS bits s m = s ∧ outK s m = 0) := by
    refine ⟨?_, ?_, ?_⟩
    · rw [outReply, if_neg (by omega), if_pos h2]
    · rw [outS, if_neg (by omega), if_pos h2]
    · rw [outK, if_neg (by omega)]
  have hwg : wb ≠ bs := fun e => hS.far.2.2.1 (e ▸ hm.gs)
  clear hS hm
  go_step
  go_step
  rename_i K hK
  have HKK : Hid _ := hK
  clear hK
  go_wp2_with fail
  refine (hi_any bs ah nh ch s.held m.key w c0 HM.out.held.items).mono ?_
  rintro e w1 ⟨rfl, rfl⟩
  rcases hiOf_cases s.held m.key with ⟨e1, e2⟩ | ⟨j, x, e1, e2, e3⟩
  · have HG : Hid (getReply s.held m = m.reply) := by
      show getReply s.held m = _
      unfold getReply
      rw [(ansV_none e1).2]
    rw [e1]
    clear e1 e2
    go_wp2_with fail
    refine HKK.out _ _ (tail25 (HS.out.toPre (Kept.refl _ _) ?_ ?_) HE.out.2.2.symm)
    · rw [HE.out.2.1]; exact HS.out.mc
    · rw [HE.out.1, HG.out]; exact HS.out.want
  · have HG : Hid (getReply s.held m = { m.reply with value := x.v, count := x.c, writer := x.r, found := true }) := by
      show getReply s.held m = _
      unfold getReply
      rw [(ansV_some e1 e2).2]
    obtain ⟨h1, h2', h3⟩ := HM.out.held.items
    have hjl := (List.getElem?_eq_some_iff.1 e2).1
    rcases h3 with h0 | ⟨b1, o1, rfl, hcell⟩
    · omega
    obtain ⟨q0, q1, q2, q3⟩ := hcell j x e2
    have hb1 : b1 ≠ wb := fun e => HS.out.far.2.2.1 (e ▸ (HM.out.gh b1 rfl).1)
    have jn : (j : Int) < (nh : Int) := by omega
    clear hcell h1 h2' e2 e3 hjl
    rw [e1]
    go_wp2_with fail
    refine HKK.out _ _ (tail25 (HS.out.toPre (((((Kept.refl (SwG Gs wb) _).setCell (p := ⟨wb, 10, none⟩) (.inr rfl) _).setCell (p := ⟨wb, 11, none⟩) (.inr rfl) _).setCell (p := ⟨wb, 12, none⟩) (.inr rfl) _).setCell (p := ⟨wb, 13, none⟩) (.inr rfl) _) ?_ ?_) HE.out.2.2.symm)
    · rw [HE.out.2.1]
      have hwk := HS.out.far.2.2.1
      exact (((HS.out.mc.setFar hwk 10 _).setFar hwk 11 _).setFar hwk 12 _).setFar hwk 13 _
    · rw [HE.out.1, HG.out]
      exact (((HS.out.want.set 10 _).set 11 _).set 12 _).set 13 _

end Go.Proofs.YbulkdywgDoor
