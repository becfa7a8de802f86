/-
  Seat b6272aD: the law's loop that lays the items.
-/
import Derived.Test.YbulkdywgDoorT6
namespace Go.Proofs.YbulkdywgDoor
open Go.RowKit
set_option linter.unusedVariables false

/-- One more item: laid where none bears its key. -/
def addI (acc : List It) (z : It) : List It := if acc.any (fun y => decide (y.k = z.k)) then acc else acc ++ [z]
/-- The items of these entries. -/
def itemsOf (zs : List It) : List It := zs.foldl addI []

theorem itemsOf_snoc {zs : List It} {j : Nat} {x : It} (hx : zs[j]? = some x) : itemsOf (zs.take (j + 1)) = addI (itemsOf (zs.take j)) x := by
  rw [List.take_add_one, hx]
  simp [itemsOf, List.foldl_append]

theorem foldl_addI : ∀ (zs acc : List It), (zs.foldl addI acc).length ≤ acc.length + zs.length ∧ ∀ x ∈ zs.foldl addI acc, x ∈ acc ∨ x ∈ zs
  | [], acc => ⟨by simp, fun x hx => .inl hx⟩
  | z :: r, acc => by
    obtain ⟨h1, h2⟩ := foldl_addI r (addI acc z)
    have e : addI acc z = acc ∨ addI acc z = acc ++ [z] := by
      unfold addI
      split
      · exact .inl rfl
      · exact .inr rfl
    rw [List.foldl_cons]
    rcases e with e | e
    · rw [e] at h1 h2 ⊢
      refine ⟨by simp only [List.length_cons]; omega, fun x hx => orMap (h2 x hx) id (List.mem_cons_of_mem _)⟩
    · rw [e] at h1 h2 ⊢
      refine ⟨by simp at h1 ⊢; omega, fun x hx => ?_⟩
      rcases h2 x hx with h | h
      · rcases List.mem_append.1 h with h | h
        · exact .inl h
        · simp at h
          subst h
          exact .inr (List.mem_cons_self ..)
      · exact .inr (List.mem_cons_of_mem _ h)
theorem itemsOf_len (zs : List It) : (itemsOf zs).length ≤ zs.length := by have := (foldl_addI zs []).1; simp at this; exact this
theorem itemsOf_mem {zs : List It} {x : It} (hx : x ∈ itemsOf zs) : x ∈ zs := by have := (foldl_addI zs []).2 x hx; simp at this; exact this

/-- What stands ahead of the items' loop. -/
structure C10 (w0 w : World) (pb qb : Nat) (m : Msg) (k0 o0 q0 : Int) (key0 : ByteArray) (kp bt : Int) (s : MS) (a1 : Option Addr) (n1 : Nat) (hs : List It) (a2 : Option Addr) (n2 : Nat) (ys : List Rz) (a3 : Option Addr) (n3 : Nat) (zs : List Rz) : Prop where
  hd : Hd w0 w pb qb m k0 o0 q0 key0 kp bt s
  rh : Items w a1 n1 hs
  sm : n1 ≤ 4096
  hk : ∀ x ∈ hs, x.k.size ≤ maxLen
  hhs : s.held = itemsOf hs
  ry : Rzs w a2 n2 ys
  hrs : s.res = resOf ys
  rz : Rzs w a3 n3 zs
  hrv : s.rv = rvOf zs

theorem C10.toC9 {w0 w : World} {pb qb : Nat} {m : Msg} {k0 o0 q0 : Int} {key0 : ByteArray} {kp bt : Int} {s : MS} {a3 : Option Addr} {n3 : Nat} {zs : List Rz} {a2 : Option Addr} {n2 : Nat} {ys : List Rz} {a1 : Option Addr} {n1 : Nat} {hs : List It} (h : C10 w0 w pb qb m k0 o0 q0 key0 kp bt s a1 n1 hs a2 n2 ys a3 n3 zs) {w' : World} (hk : Kept (fun k => w.heap.size ≤ k) w w') {ai : Option Addr} {ni ci : Nat} (hr : Row It.cells 4 w' ai ni ci s.held) : C9 w0 w' pb qb ai ni ci m k0 o0 q0 key0 kp bt s a2 n2 ys a3 n3 zs := by
  have hsz := h.sm
  have hl := h.rh.1
  have hl2 := itemsOf_len hs
  exact ⟨h.hd.kept hk (Nat.le_refl _), hr, by rw [h.hhs]; omega, fun x hx => h.hk x (itemsOf_mem (by rw [← h.hhs]; exact hx)), h.ry.kept hk (Nat.le_refl _), h.hrs, h.rz.kept hk (Nat.le_refl _), h.hrv⟩

set_option maxHeartbeats 4000000 in
set_option maxRecDepth 100000 in
theorem tail3 {u0 u4 u6 u7 u8 u12 u13 u14 u15 u16 u17 u18 u19 u20 u21 u22 u23 u24 u25 u26 u27 u28 u29 u30 u31 u32 u33 u34 u35 u36 u37 u38 u39 u40 u41 u42 u43 u44 u45 u46 u47 u48 u49 u50 u51 u52 u53 u54 u55 u56 u57 u58 u59 u60 u61 u62 u63 u64 u65 u66 u67 u68 u69 u70 u71 u72 u73 u74 u75 u76 u77 u78 u79 u80 u81 u82 u83 u84 u85 u86 u87 u88 u89 u90 u91 u92 u93 u94 u95 u96 u97 u98 u99 u100 u101 u102 u103 u104 u105 u106 u107 u108 u109 u110 u111 u112 u113 u114 u115 u116 u117 u118 u119 u120 u121 u122 u123 u124 u125 u126 u127 u128 u129 u130 u131 u132 u133 u134 u135 u136 u137 u138 u139 u140 u141 u142 u143 u144 u145 u146 u147 u148 u149 u150 u151 u152 u153 u154 u155 u156 u157 u158 u159 u160 u161 u162 u163 u164 u165 u166 u167 u168 u169 u170 u171 u172 u173 u174 u175 u176 u177 u178 u179 u180 u181 u182 u183 u184 u185 u186 u187 u188 u189 u190 u191 u192 u193 u194 u195 u196 u197 u198 u199 u200 u201 u202 u203 u204 u205 u206 u207 u208 u209 u210 u211 u212 u213 u214 u215 u216 u217 u218 u219 u220 u221 u222 u223 u224 u225 u226 u227 u228 u229 u230 u231 u232 u233 u234 u235 u236 u237 u238 u239 u240 u241 u242 u243 u244 u245 u246 u247 u248 u249 u250 u251 u252 u253 u254 u255 u256 u257 u258 u259 u260 u261 u262 u263 u264 u265 u266 u267 u268 u269 u270 u271 u272 u273 u274 u275 u276 u277 u278 u279 u280 u281 u282 u283 u284 u285 u286 u287 u288 u289 u290 u291 u292 u293 u294 u295 u296 u297 u298 u299 u300 u301 u302 u303 u304 u305 u306 u307 u308 u309 u310 u311 u312 u313 u314 u315 u316 u317 u318 u319 u320 u321 u322 u323 u324 u325 u326 u327 u328 u329 u330 u331 u332 u333 u334 u335 u336 u337 u338 u339 u340 u341 u342 u343 u344 u345 u346 u347 u348 u349 u350 u351 u352 u353 u354 u355 u356 u357 u358 u359 u360 u361 u362 u363 u364 u365 u366 u367 u368 u369 u370 u371 u372 u373 u374 u375 u376 u377 u378 u379 u380 u381 u382 u383 u384 u385 u386 u387 u388 u389 u390 u391 u392 u393 u394 u395 u396 u397 u398 u399 u400 u401 u402 u403 u404 u405 u406 u407 u408 u409 u410 u411 u412 u413 u414 u415 u416 u417 u418 u419 u420 u421 u422 u423 u424 u425 u426 u427 u428 u429 u430 u431 u432 u433 u434 u435 u436 u437 u438 u439 u440 u441 u442 u443 u444 u445 u446 u447 u448 u449 u450 u451 u452 u453 u454 u455 u456 u457 u458 u459 u460 u461 u462 u463 u464 u465 u466 u467 u468 u469 u470 u471 u472 u473 u474 u475 u476 u477 u478 u479 u480 u481 u482 u483 u484 u485 u486 u487 u488 u489 u490 u491 u492 u493 u494 u495 u496 u497 u498 u499 u500 u501 u502 u503 u504 u505 u506 u507 u508 u509 u510 u511 u512 u513 u514 u515 u516 u517 u518 u519 u520 u521 u522 u523 u524 u525 u526 u527 u528 u529 u530 u531 u532 u533 u534 u535 u536 u537 u538 u539 u540 u541 u542 u543 u544 u545 u546 u547 u548 u549 u550 u551 u552 u553 u554 u555 u556 u557 u558 u559 u560 u561 u562 u563 u564 u565 u566 u567 u568 u569 u570 u571 u572 u573 u574 u575 u576 u577 u578 u579 u580 u581 u582 u583 u584 u585 u586 u587 u588 u589 u590 u591 u592 u593 u594 u595 u596 u597 u598 u599 u600 u601 u602 u603 u604 u605 u606 u607 u608 u609 u610 u611 u612 u613 u614 u615 u616 u617 u618 u619 u620 u621 u622 u623 u624 u625 u626 u627 : Value} {w0 w : World} {pb qb : Nat} {m : Msg} {k0 o0 q0 : Int} {key0 : ByteArray} {kp bt : Int} {s : MS} {a3 : Option Addr} {n3 c3 : Nat} {zs : List Rz} {a2 : Option Addr} {n2 c2 : Nat} {ys : List Rz} {a1 : Option Addr} {n1 c1 : Nat} {hs : List It} (hA : C10 w0 w pb qb m k0 o0 q0 key0 kp bt s a1 n1 hs a2 n2 ys a3 n3 zs) :
    Code.wp Ybad.prog (dropSeq 3 (Ybad.f3.body.getD .skip)) (bodyPost Ybad.prog Ybad.f3 fun e w' => e = .returned (.bool true) ∧ Below w0.heap.size w0 w') ⟨#[u0, .slice a1 n1 c1, .slice a2 n2 c2, .slice a3 n3 c3, u4, .pointer (some ⟨pb, 0, none⟩), u6, u7, u8, .pointer (some ⟨qb, 0, none⟩), .bool false, .slice none 0 0, u12, u13, u14, u15, u16, u17, u18, u19, u20, u21, u22, u23, u24, u25, u26, u27, u28, u29, u30, u31, u32, u33, u34, u35, u36, u37, u38, u39, u40, u41, u42, u43, u44, u45, u46, u47, u48, u49, u50, u51, u52, u53, u54, u55, u56, u57, u58, u59, u60, u61, u62, u63, u64, u65, u66, u67, u68, u69, u70, u71, u72, u73, u74, u75, u76, u77, u78, u79, u80, u81, u82, u83, u84, u85, u86, u87, u88, u89, u90, u91, u92, u93, u94, u95, u96, u97, u98, u99, u100, u101, u102, u103, u104, u105, u106, u107, u108, u109, u110, u111, u112, u113, u114, u115, u116, u117, u118, u119, u120, u121, u122, u123, u124, u125, u126, u127, u128, u129, u130, u131, u132, u133, u134, u135, u136, u137, u138, u139, u140, u141, u142, u143, u144, u145, u146, u147, u148, u149, u150, u151, u152, u153, u154, u155, u156, u157, u158, u159, u160, u161, u162, u163, u164, u165, u166, u167, u168, u169, u170, u171, u172, u173, u174, u175, u176, u177, u178, u179, u180, u181, u182, u183, u184, u185, u186, u187, u188, u189, u190, u191, u192, u193, u194, u195, u196, u197, u198, u199, u200, u201, u202, u203, u204, u205, u206, u207, u208, u209, u210, u211, u212, u213, u214, u215, u216, u217, u218, u219, u220, u221, u222, u223, u224, u225, u226, u227, u228, u229, u230, u231, u232, u233, u234, u235, u236, u237, u238, u239, u240, u241, u242, u243, u244, u245, u246, u247, u248, u249, u250, u251, u252, u253, u254, u255, u256, u257, u258, u259, u260, u261, u262, u263, u264, u265, u266, u267, u268, u269, u270, u271, u272, u273, u274, u275, u276, u277, u278, u279, u280, u281, u282, u283, u284, u285, u286, u287, u288, u289, u290, u291, u292, u293, u294, u295, u296, u297, u298, u299, u300, u301, u302, u303, u304, u305, u306, u307, u308, u309, u310, u311, u312, u313, u314, u315, u316, u317, u318, u319, u320, u321, u322, u323, u324, u325, u326, u327, u328, u329, u330, u331, u332, u333, u334, u335, u336, u337, u338, u339, u340, u341, u342, u343, u344, u345, u346, u347, u348, u349, u350, u351, u352, u353, u354, u355, u356, u357, u358, u359, u360, u361, u362, u363, u364, u365, u366, u367, u368, u369, u370, u371, u372, u373, u374, u375, u376, u377, u378, u379, u380, u381, u382, u383, u384, u385, u386, u387, u388, u389, u390, u391, u392, u393, u394, u395, u396, u397, u398, u399, u400, u401, u402, u403, u404, u405, u406, u407, u408, u409, u410, u411, u412, u413, u414, u415, u416, u417, u418, u419, u420, u421, u422, u423, u424, u425, u426, u427, u428, u429, u430, u431, u432, u433, u434, u435, u436, u437, u438, u439, u440, u441, u442, u443, u444, u445, u446, u447, u448, u449, u450, u451, u452, u453, u454, u455, u456, u457, u458, u459, u460, u461, u462, u463, u464, u465, u466, u467, u468, u469, u470, u471, u472, u473, u474, u475, u476, u477, u478, u479, u480, u481, u482, u483, u484, u485, u486, u487, u488, u489, u490, u491, u492, u493, u494, u495, u496, u497, u498, u499, u500, u501, u502, u503, u504, u505, u506, u507, u508, u509, u510, u511, u512, u513, u514, u515, u516, u517, u518, u519, u520, u521, u522, u523, u524, u525, u526, u527, u528, u529, u530, u531, u532, u533, u534, u535, u536, u537, u538, u539, u540, u541, u542, u543, u544, u545, u546, u547, u548, u549, u550, u551, u552, u553, u554, u555, u556, u557, u558, u559, u560, u561, u562, u563, u564, u565, u566, u567, u568, u569, u570, u571, u572, u573, u574, u575, u576, u577, u578, u579, u580, u581, u582, u583, u584, u585, u586, u587, u588, u589, u590, u591, u592, u593, u594, u595, u596, u597, u598, u599, u600, u601, u602, u603, u604, u605, u606, u607, u608, u609, u610, u611, u612, u613, u614, u615, u616, u617, u618, u619, u620, u621, u622, u623, u624, u625, u626, u627], []⟩ w := by
  conv => arg 2; whnf
  dsimp only
  have HA : Hid (C10 w0 w pb qb m k0 o0 q0 key0 kp bt s a1 n1 hs a2 n2 ys a3 n3 zs) := hA
  obtain ⟨hz1, hz2, hz3⟩ := hA.rh
  have hz4 := hA.sm
  have HZ3 : Hid _ := hz3
  have HHS : Hid _ := hA.hhs
  clear hA hz3
  go_step
  go_step
  go_cut [11, 13, 14, 15] from 63 to 98 (fun r _ _ _ wx => ∃ ai ni ci, r = .slice ai ni ci ∧ Row It.cells 4 wx ai ni ci s.held ∧ Kept (fun k => w.heap.size ≤ k) w wx)
  case first =>
    go_wp2_with fail
    go_loopw [11, 65] (fun r i wr => ∃ (j : Nat) (ai : Option Addr) (ni ci : Nat), j ≤ n1 ∧ r = .slice ai ni ci ∧ i = .int .i64 j ∧ Hid (Row It.cells 4 wr ai ni ci (itemsOf (hs.take j)) ∧ Kept (fun k => w.heap.size ≤ k) w wr ∧ ∀ b, blkOf ai = some b → w.heap.size ≤ b)) (fun _ i _ => n1 - (intOf i).toNat)
    case atStart => exact ⟨0, none, 0, 0, Nat.zero_le _, rfl, rfl, Row.nil (by omega), Kept.refl _ w, by simp [blkOf]⟩
    case round =>
      as_aux_lemma =>
      obtain ⟨j, ai, ni, ci, hj, rfl, rfl, HR⟩ := hrel
      by_cases hlt : j < n1
      · rcases HZ3.out with h0 | ⟨b1, o1, rfl, hcell⟩
        · omega
        obtain ⟨x, hxx⟩ : ∃ x, hs[j]? = some x := ⟨hs[j]'(by omega), by simp⟩
        obtain ⟨q0, q1, q2, q3⟩ := hcell j x hxx
        replace q0 := cell_kept HR.out.2.1 (Nat.le_refl _) q0
        replace q1 := cell_kept HR.out.2.1 (Nat.le_refl _) q1
        replace q2 := cell_kept HR.out.2.1 (Nat.le_refl _) q2
        replace q3 := cell_kept HR.out.2.1 (Nat.le_refl _) q3
        have kk : (j : Int) < (n1 : Int) := by omega
        have HXX : Hid _ := hxx
        clear hcell hxx
        obtain ⟨i0, hi0, hy0, hy1, hy2⟩ := info_parts info37
        go_upto_region 7 with fail
        go_cut [14] from 69 to 69 (fun v wx => v = .bool false ∧ wx = wr.alloc (.cells #[.string x.k, .string x.v, .int .u64 x.c, .int .i32 x.r] 32))
        case first =>
          go_wp2_with fail
          go_meet
          case rel => exact ⟨rfl, rfl⟩
        case rest =>
        rename World => wq
        obtain ⟨rfl, rfl⟩ := hcut
        have HBX : Hid (Blk (wr.alloc (.cells #[.string x.k, .string x.v, .int .u64 x.c, .int .i32 x.r] 32)) wr.heap.size #[.string x.k, .string x.v, .int .u64 x.c, .int .i32 x.r]) := Blk.new _ _ _
        obtain ⟨hr1, hr2, hr3⟩ := (HR.out.1.alloc (.cells #[.string x.k, .string x.v, .int .u64 x.c, .int .i32 x.r] 32)).items
        have HR3 : Hid _ := hr3
        have hle : ni ≤ j := by have := itemsOf_len (hs.take j); rw [List.length_take] at this; omega
        clear q0 q1 q2 q3 hr3
        have y0 : (wr.alloc (.cells #[.string x.k, .string x.v, .int .u64 x.c, .int .i32 x.r] 32)).cell? ⟨wr.heap.size, 0, none⟩ = some (.string x.k) := HBX.out.cell 0
        go_step
        go_step
        go_cut [14, 15] from 69 to 82 (fun f _ wx => f = .bool ((itemsOf (hs.take j)).any (fun y => decide (y.k = x.k))) ∧ Kept (fun _ => False) (wr.alloc (.cells #[.string x.k, .string x.v, .int .u64 x.c, .int .i32 x.r] 32)) wx)
        case first =>
          go_wp2_with fail
          go_loopw [14, 71] (fun f i wz => ∃ k : Nat, f = .bool false ∧ k ≤ ni ∧ i = .int .i64 k ∧ (∃ z, wz = (wr.alloc (.cells #[.string x.k, .string x.v, .int .u64 x.c, .int .i32 x.r] 32)).drewN z) ∧ Hid (∀ t y, t < k → (itemsOf (hs.take j))[t]? = some y → ¬ y.k = x.k)) (fun _ i _ => ni - (intOf i).toNat)
          case atStart => exact ⟨0, rfl, Nat.zero_le _, rfl, ⟨0, rfl⟩, fun t y ht => by omega⟩
          case round =>
            as_aux_lemma =>
            obtain ⟨k, rfl, hk, rfl, ⟨z, rfl⟩, HJ⟩ := hrel
            by_cases hlk : k < ni
            · rcases HR3.out with h0 | ⟨b2, o2, rfl, hcell⟩
              · omega
              obtain ⟨y, hyy⟩ : ∃ y, (itemsOf (hs.take j))[k]? = some y := ⟨(itemsOf (hs.take j))[k]'(by omega), by simp⟩
              have hck := (hcell k y hyy).1
              have HYY : Hid ((itemsOf (hs.take j))[k]? = some y) := hyy
              have kk2 : (k : Int) < (ni : Int) := by omega
              clear hcell hyy
              by_cases he : y.k = x.k
              · go_wp2_with fail
                go_quiet (fail)
                go_wp2_with fail
                go_meet
                case rel =>
                  refine ⟨?_, ((Kept.refl _ _).drewN _).drewN _⟩
                  rw [List.any_eq_true.2 ⟨y, List.mem_of_getElem? HYY.out, by simpa using he⟩]
              · have hes := str_ne he
                go_wp2_with fail
                go_quiet (fail)
                go_wp2_with fail
                go_roundw
                case rel =>
                  refine ⟨k + 1, rfl, by omega, by go_num, ⟨_, rfl⟩, fun t y' ht hy' => ?_⟩
                  by_cases htk : t < k
                  · exact HJ.out t y' htk hy'
                  · obtain rfl : t = k := by omega
                    rw [HYY.out] at hy'
                    cases hy'
                    exact he
                case measure => simp [intOf]; omega
            · obtain rfl : k = ni := by omega
              go_wp2_with fail
              go_meet
              case rel =>
                refine ⟨?_, (Kept.refl _ _).drewN _⟩
                have : (itemsOf (hs.take j)).any (fun y => decide (y.k = x.k)) = false := by
                  rw [List.any_eq_false]
                  intro y hy
                  obtain ⟨t, ht, rfl⟩ := List.getElem_of_mem hy
                  simpa using HJ.out t _ (by omega) (by simp)
                rw [this]
        case rest =>
        rename World => w1
        obtain ⟨rfl, hk1⟩ := hcut
        have hbx1 := HBX.out.kept hk1 id
        have z0 : w1.cell? ⟨wr.heap.size, 0, none⟩ = some (.string x.k) := hbx1.cell 0
        have z1 : w1.cell? ⟨wr.heap.size, 1, none⟩ = some (.string x.v) := hbx1.cell 1
        have z2 : w1.cell? ⟨wr.heap.size, 2, none⟩ = some (.int .u64 x.c) := hbx1.cell 2
        have z3 : w1.cell? ⟨wr.heap.size, 3, none⟩ = some (.int .i32 x.r) := hbx1.cell 3
        have HROW : Hid (Row It.cells 4 w1 ai ni ci (itemsOf (hs.take j))) := (HR.out.1.alloc (.cells #[.string x.k, .string x.v, .int .u64 x.c, .int .i32 x.r] 32)).kept hk1 (fun _ _ => id)
        have HK1 : Hid (Kept (fun k => w.heap.size ≤ k) w w1) := (HR.out.2.1.alloc _).trans (hk1.mono (fun _ => False.elim))
        clear hk1 hbx1 y0
        go_step
        by_cases hany : (itemsOf (hs.take j)).any (fun y => decide (y.k = x.k)) = true
        · rw [hany]
          go_wp2_with fail
          go_roundw
          case rel =>
            refine ⟨j + 1, ai, ni, ci, by omega, rfl, by go_num, ?_, HK1.out, HR.out.2.2⟩
            rw [itemsOf_snoc HXX.out, addI, if_pos hany]
            exact HROW.out
          case measure => simp [intOf]; omega
        · have hno : (itemsOf (hs.take j)).any (fun y => decide (y.k = x.k)) = false := by simpa using hany
          rw [hno]
          have HANY : Hid _ := hany
          clear hany hno
          go_wp2_with (at_builtin; refine wpList_append_row _ rfl (.tmp 85) (.tmp 96) 30 rfl it_len it_one 37 i0 (.agg #[.string ⟨#[]⟩, .string ⟨#[]⟩, .int .u64 0, .int .i32 0]) 48 und30 hi0 hy0 hy1 hy2 rfl ai ni ci (itemsOf (hs.take j)) rfl (HROW.out.alloc _) ⟨w1.heap.size, 0, none⟩ 1 1 [x] rfl rfl (one_cells4 (Blk.new w1 _ _)) (by omega) (by omega) ?_; intro a5 c5 w5 hrow hgrow hnew hnone; have HR5 : Hid _ := hrow; have HG5 : Hid _ := hgrow; have HW5 : Hid _ := hnew; clear hrow hgrow hnew hnone)
          go_roundw
          case rel =>
            refine ⟨j + 1, a5, ni + 1, c5, by omega, rfl, by go_num, ?_, (HK1.out.alloc _).grown HG5.out (fun k e => HR.out.2.2 k e), fun b e => ?_⟩
            · rw [itemsOf_snoc HXX.out, addI, if_neg HANY.out]
              exact HR5.out
            · rcases HW5.out b e with h | h
              · exact HR.out.2.2 b h
              · have e1 := HK1.out.size
                simp at h
                omega
          case measure => simp [intOf]; omega
      · obtain rfl : j = n1 := by omega
        go_wp2_with fail
        go_meet
        case rel =>
          have h1 := HR.out.1
          rw [List.take_of_length_le (by omega)] at h1
          rw [HHS.out]
          exact ⟨ai, ni, ci, rfl, h1, HR.out.2.1⟩
  case rest =>
  rename World => w1
  obtain ⟨ai, ni, ci, rfl, hr1, hk1⟩ := hcut
  go_step
  exact tail4 (HA.out.toC9 hk1 hr1)

set_option maxHeartbeats 4000000 in
set_option maxRecDepth 100000 in
theorem tail2 {u0 u4 u6 u7 u8 u11 u12 u13 u14 u15 u16 u17 u18 u19 u20 u21 u22 u23 u24 u25 u26 u27 u28 u29 u30 u31 u32 u33 u34 u35 u36 u37 u38 u39 u40 u41 u42 u43 u44 u45 u46 u47 u48 u49 u50 u51 u52 u53 u54 u55 u56 u57 u58 u59 u60 u61 u62 u63 u64 u65 u66 u67 u68 u69 u70 u71 u72 u73 u74 u75 u76 u77 u78 u79 u80 u81 u82 u83 u84 u85 u86 u87 u88 u89 u90 u91 u92 u93 u94 u95 u96 u97 u98 u99 u100 u101 u102 u103 u104 u105 u106 u107 u108 u109 u110 u111 u112 u113 u114 u115 u116 u117 u118 u119 u120 u121 u122 u123 u124 u125 u126 u127 u128 u129 u130 u131 u132 u133 u134 u135 u136 u137 u138 u139 u140 u141 u142 u143 u144 u145 u146 u147 u148 u149 u150 u151 u152 u153 u154 u155 u156 u157 u158 u159 u160 u161 u162 u163 u164 u165 u166 u167 u168 u169 u170 u171 u172 u173 u174 u175 u176 u177 u178 u179 u180 u181 u182 u183 u184 u185 u186 u187 u188 u189 u190 u191 u192 u193 u194 u195 u196 u197 u198 u199 u200 u201 u202 u203 u204 u205 u206 u207 u208 u209 u210 u211 u212 u213 u214 u215 u216 u217 u218 u219 u220 u221 u222 u223 u224 u225 u226 u227 u228 u229 u230 u231 u232 u233 u234 u235 u236 u237 u238 u239 u240 u241 u242 u243 u244 u245 u246 u247 u248 u249 u250 u251 u252 u253 u254 u255 u256 u257 u258 u259 u260 u261 u262 u263 u264 u265 u266 u267 u268 u269 u270 u271 u272 u273 u274 u275 u276 u277 u278 u279 u280 u281 u282 u283 u284 u285 u286 u287 u288 u289 u290 u291 u292 u293 u294 u295 u296 u297 u298 u299 u300 u301 u302 u303 u304 u305 u306 u307 u308 u309 u310 u311 u312 u313 u314 u315 u316 u317 u318 u319 u320 u321 u322 u323 u324 u325 u326 u327 u328 u329 u330 u331 u332 u333 u334 u335 u336 u337 u338 u339 u340 u341 u342 u343 u344 u345 u346 u347 u348 u349 u350 u351 u352 u353 u354 u355 u356 u357 u358 u359 u360 u361 u362 u363 u364 u365 u366 u367 u368 u369 u370 u371 u372 u373 u374 u375 u376 u377 u378 u379 u380 u381 u382 u383 u384 u385 u386 u387 u388 u389 u390 u391 u392 u393 u394 u395 u396 u397 u398 u399 u400 u401 u402 u403 u404 u405 u406 u407 u408 u409 u410 u411 u412 u413 u414 u415 u416 u417 u418 u419 u420 u421 u422 u423 u424 u425 u426 u427 u428 u429 u430 u431 u432 u433 u434 u435 u436 u437 u438 u439 u440 u441 u442 u443 u444 u445 u446 u447 u448 u449 u450 u451 u452 u453 u454 u455 u456 u457 u458 u459 u460 u461 u462 u463 u464 u465 u466 u467 u468 u469 u470 u471 u472 u473 u474 u475 u476 u477 u478 u479 u480 u481 u482 u483 u484 u485 u486 u487 u488 u489 u490 u491 u492 u493 u494 u495 u496 u497 u498 u499 u500 u501 u502 u503 u504 u505 u506 u507 u508 u509 u510 u511 u512 u513 u514 u515 u516 u517 u518 u519 u520 u521 u522 u523 u524 u525 u526 u527 u528 u529 u530 u531 u532 u533 u534 u535 u536 u537 u538 u539 u540 u541 u542 u543 u544 u545 u546 u547 u548 u549 u550 u551 u552 u553 u554 u555 u556 u557 u558 u559 u560 u561 u562 u563 u564 u565 u566 u567 u568 u569 u570 u571 u572 u573 u574 u575 u576 u577 u578 u579 u580 u581 u582 u583 u584 u585 u586 u587 u588 u589 u590 u591 u592 u593 u594 u595 u596 u597 u598 u599 u600 u601 u602 u603 u604 u605 u606 u607 u608 u609 u610 u611 u612 u613 u614 u615 u616 u617 u618 u619 u620 u621 u622 u623 u624 u625 u626 u627 : Value} {w0 w : World} {pb qb : Nat} {m : Msg} {k0 o0 q0 : Int} {key0 : ByteArray} {kp bt : Int} {s : MS} {a3 : Option Addr} {n3 c3 : Nat} {zs : List Rz} {a2 : Option Addr} {n2 c2 : Nat} {ys : List Rz} {a1 : Option Addr} {n1 c1 : Nat} {hs : List It} (hA : C10 w0 w pb qb m k0 o0 q0 key0 kp bt s a1 n1 hs a2 n2 ys a3 n3 zs) :
    Code.wp Ybad.prog (dropSeq 2 (Ybad.f3.body.getD .skip)) (bodyPost Ybad.prog Ybad.f3 fun e w' => e = .returned (.bool true) ∧ Below w0.heap.size w0 w') ⟨#[u0, .slice a1 n1 c1, .slice a2 n2 c2, .slice a3 n3 c3, u4, .pointer (some ⟨pb, 0, none⟩), u6, u7, u8, .pointer (some ⟨qb, 0, none⟩), .bool false, u11, u12, u13, u14, u15, u16, u17, u18, u19, u20, u21, u22, u23, u24, u25, u26, u27, u28, u29, u30, u31, u32, u33, u34, u35, u36, u37, u38, u39, u40, u41, u42, u43, u44, u45, u46, u47, u48, u49, u50, u51, u52, u53, u54, u55, u56, u57, u58, u59, u60, u61, u62, u63, u64, u65, u66, u67, u68, u69, u70, u71, u72, u73, u74, u75, u76, u77, u78, u79, u80, u81, u82, u83, u84, u85, u86, u87, u88, u89, u90, u91, u92, u93, u94, u95, u96, u97, u98, u99, u100, u101, u102, u103, u104, u105, u106, u107, u108, u109, u110, u111, u112, u113, u114, u115, u116, u117, u118, u119, u120, u121, u122, u123, u124, u125, u126, u127, u128, u129, u130, u131, u132, u133, u134, u135, u136, u137, u138, u139, u140, u141, u142, u143, u144, u145, u146, u147, u148, u149, u150, u151, u152, u153, u154, u155, u156, u157, u158, u159, u160, u161, u162, u163, u164, u165, u166, u167, u168, u169, u170, u171, u172, u173, u174, u175, u176, u177, u178, u179, u180, u181, u182, u183, u184, u185, u186, u187, u188, u189, u190, u191, u192, u193, u194, u195, u196, u197, u198, u199, u200, u201, u202, u203, u204, u205, u206, u207, u208, u209, u210, u211, u212, u213, u214, u215, u216, u217, u218, u219, u220, u221, u222, u223, u224, u225, u226, u227, u228, u229, u230, u231, u232, u233, u234, u235, u236, u237, u238, u239, u240, u241, u242, u243, u244, u245, u246, u247, u248, u249, u250, u251, u252, u253, u254, u255, u256, u257, u258, u259, u260, u261, u262, u263, u264, u265, u266, u267, u268, u269, u270, u271, u272, u273, u274, u275, u276, u277, u278, u279, u280, u281, u282, u283, u284, u285, u286, u287, u288, u289, u290, u291, u292, u293, u294, u295, u296, u297, u298, u299, u300, u301, u302, u303, u304, u305, u306, u307, u308, u309, u310, u311, u312, u313, u314, u315, u316, u317, u318, u319, u320, u321, u322, u323, u324, u325, u326, u327, u328, u329, u330, u331, u332, u333, u334, u335, u336, u337, u338, u339, u340, u341, u342, u343, u344, u345, u346, u347, u348, u349, u350, u351, u352, u353, u354, u355, u356, u357, u358, u359, u360, u361, u362, u363, u364, u365, u366, u367, u368, u369, u370, u371, u372, u373, u374, u375, u376, u377, u378, u379, u380, u381, u382, u383, u384, u385, u386, u387, u388, u389, u390, u391, u392, u393, u394, u395, u396, u397, u398, u399, u400, u401, u402, u403, u404, u405, u406, u407, u408, u409, u410, u411, u412, u413, u414, u415, u416, u417, u418, u419, u420, u421, u422, u423, u424, u425, u426, u427, u428, u429, u430, u431, u432, u433, u434, u435, u436, u437, u438, u439, u440, u441, u442, u443, u444, u445, u446, u447, u448, u449, u450, u451, u452, u453, u454, u455, u456, u457, u458, u459, u460, u461, u462, u463, u464, u465, u466, u467, u468, u469, u470, u471, u472, u473, u474, u475, u476, u477, u478, u479, u480, u481, u482, u483, u484, u485, u486, u487, u488, u489, u490, u491, u492, u493, u494, u495, u496, u497, u498, u499, u500, u501, u502, u503, u504, u505, u506, u507, u508, u509, u510, u511, u512, u513, u514, u515, u516, u517, u518, u519, u520, u521, u522, u523, u524, u525, u526, u527, u528, u529, u530, u531, u532, u533, u534, u535, u536, u537, u538, u539, u540, u541, u542, u543, u544, u545, u546, u547, u548, u549, u550, u551, u552, u553, u554, u555, u556, u557, u558, u559, u560, u561, u562, u563, u564, u565, u566, u567, u568, u569, u570, u571, u572, u573, u574, u575, u576, u577, u578, u579, u580, u581, u582, u583, u584, u585, u586, u587, u588, u589, u590, u591, u592, u593, u594, u595, u596, u597, u598, u599, u600, u601, u602, u603, u604, u605, u606, u607, u608, u609, u610, u611, u612, u613, u614, u615, u616, u617, u618, u619, u620, u621, u622, u623, u624, u625, u626, u627], []⟩ w := by
  conv => arg 2; whnf
  dsimp only
  have HA : Hid (C10 w0 w pb qb m k0 o0 q0 key0 kp bt s a1 n1 hs a2 n2 ys a3 n3 zs) := hA
  clear hA
  go_step
  go_step
  rename_i K hK
  have HKK : Hid _ := hK
  clear hK
  go_wp2_with fail
  exact HKK.out _ _ (tail3 HA.out)

end Go.Proofs.YbulkdywgDoor
