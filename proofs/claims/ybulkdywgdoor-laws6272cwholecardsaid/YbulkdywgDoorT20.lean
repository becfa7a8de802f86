/-
  Seat b6272aD: the node is laid.
-/
import Derived.Test.YbulkdywgDoorT21
namespace Go.Proofs.YbulkdywgDoor
open Go.RowKit
set_option linter.unusedVariables false

/-- A region that draws, from its number of operations on. -/
theorem region_heldK {P : Program} {id : Nat} {Q : Exit → Act → World → Prop} {a : Act} {w : World} {ops : List Oper} (S : World → Prop) (k : Nat) (hk : ops.length = k) (hm : P.follows .mixedOrders = true) (hS : S w.drew)
    (h : S w.drew → wpAnyH P .any ops.toArray Q S k (Array.replicate k false) a w.drew) : (Code.region id ops.toArray true).wp P Q a w := by
  subst hk
  exact wp_region_held_drew hm hS h

/-- Take number i first, its slot named. -/
theorem wpAnyH_takeD {P : Program} {ops : Array Oper} {Q : Exit → Act → World → Prop} {md : Region.Mode} {S : World → Prop} {i d : Nat} {oi : Oper} {v : Value} {fuel : Nat} {listed : Array Bool} {a : Act} {w : World} (hi : ops[i]? = some oi) (hd : oi.dst = some d)
    (hs : Region.noSelect ops = true) (hf : Region.free md ops listed i = true) (hr : (Region.ready md ops listed).contains i = true)
    (hQ : ∀ c a w, Q (.panic c) (a.put oi.dst v) w → Q (.panic c) a w) (hg : oi.guard = none) (hy : ∀ w, S w → (execOp a.eval oi).run P w = .ok (.value v) w) (hS : S w)
    (h : wpAnyH P md ops Q S fuel (listed.setIfInBounds i true) { a with tmps := a.tmps.setIfInBounds d v } w) : wpAnyH P md ops Q S (fuel + 1) listed a w :=
  wpAnyH_take hi hs hf hr hQ (.inl ⟨by simp [Region.wanted, hg], hy⟩) hS (by rw [hd]; exact h)

/-- The building of a struct as a step of a region that draws. -/
theorem step_build {P : Program} {w : World} {ops : Array Oper} {o : Oper} {a : Act} {K : Act → World → Prop} {Q : Exit → Act → World → Prop} {E : Prop} (hgd : o.guard = none) (t : TypeId) (ps : Array (Nat × Operand)) (ho : o.op = .build t ps) (vs : Array (Nat × Value))
    (hv : (ps.map fun (i, x) => (i, a.eval x)) = vs) (v : Value) (hb : (Instr.build t vs).run P w = .ok v w) (h : K (a.put o.dst v) w) : if Region.wanted o (yielded ops a.tmps) = true then Oper.wp P o a w K Q else E := by
  have hw : Region.wanted o (yielded ops a.tmps) = true := by simp [Region.wanted, hgd]
  rw [if_pos hw]
  have hrun : (execOp a.eval o).run P w = .ok (.value v) w := by
    unfold execOp
    rw [ho]
    dsimp only
    rw [hv]
    simp [hb, Result.andThen]
  unfold Oper.wp
  rw [hrun]
  exact h

/-- The node as the law lays it. -/
def nodeLit (P : Program) (tb cb mb : Nat) (bits : Int) (a1 : Option Addr) (n1 c1 : Nat) (told typ : Int) (cmp fresh : Bool) : Array Value :=
  (P.built 94 [(3, .agg #[.int .i64 bits]), (7, .iface 60 (.pointer (some ⟨tb, 0, none⟩))), (13, .iface 63 (.pointer (some ⟨cb, 0, none⟩))), (31, .map (some mb)), (32, .slice a1 n1 c1), (27, .int .i64 told), (28, .int .i64 typ), (29, .bool cmp), (30, .bool fresh)]).getD #[]

theorem built94 (tb cb mb : Nat) (bits : Int) (a1 : Option Addr) (n1 c1 : Nat) (told typ : Int) (cmp fresh : Bool) :
    Ybad.prog.built 94 [(3, .agg #[.int .i64 bits]), (7, .iface 60 (.pointer (some ⟨tb, 0, none⟩))), (13, .iface 63 (.pointer (some ⟨cb, 0, none⟩))), (31, .map (some mb)), (32, .slice a1 n1 c1), (27, .int .i64 told), (28, .int .i64 typ), (29, .bool cmp), (30, .bool fresh)] = some (nodeLit Ybad.prog tb cb mb bits a1 n1 c1 told typ cmp fresh) := by
  unfold nodeLit
  kernel_rfl
theorem built69 (bits : Int) : Ybad.prog.built 69 [(0, .int .i64 bits)] = some #[.int .i64 bits] := by kernel_rfl

/-- What stands ahead of the node. -/
structure Nd (w0 w : World) (T cb tb mb mk bk ob sb pb qb nm : Nat) (ah : Option Addr) (nh ch : Nat) (ai : Option Addr) (ni ci : Nat) (ap : Option Addr) (np cp : Nat) (ar : Option Addr) (nr cr : Nat) (m : Msg) (k0 o0 q0 : Int) (key0 : ByteArray) (kp bt bits : Int) (s : MS) : Prop where
  cond : Blk w cb #[.slice ah nh ch, .int .i64 0]
  held : Row It.cells 4 w ah nh ch s.held
  net : Blk w tb #[.int .i64 s.now, .int .i64 0]
  map : RMap w mb nm s.res
  gh : ∀ b, blkOf ah = some b → T ≤ b ∧ b ≠ cb ∧ b ≠ tb ∧ b ≠ mb
  gt : T ≤ cb ∧ T ≤ tb ∧ cb ≠ tb
  it : Row It.cells 4 w ai ni ci s.held
  pr : Row Pr.cells 3 w ap np cp s.res
  rv : Row Rs.cells 3 w ar nr cr s.rv
  st : Blk w qb #[.int .u8 bt, .int .i64 s.now, .int .i64 s.told, .int .i64 s.typ, .bool s.cmp, .bool s.fresh]
  arg : Blk w pb (argCells m k0 o0 q0 key0 kp)
  op : Blk w ob #[.int .i32 m.o, .int .u32 m.q]
  stp : Blk w sb #[.int .u64 m.count, .int .i32 m.writer]
  msg : Blk w mk m.cells
  bef : Blk w bk m.cells
  kinds : KindsIn w
  k0 : 0 ≤ m.kind
  k1 : m.kind < 13
  lt : mk < T ∧ bk < T ∧ mb < T ∧ T ≤ w.heap.size ∧ mk ≠ mb ∧ bk ≠ mb
  ge : w0.heap.size ≤ mb ∧ w0.heap.size ≤ T
  pos : 0 < w0.heap.size
  h4 : ∀ r ∈ s.rv, In4 r.o r.q
  hnm : nm ≤ 2000000
  ho4 : In4 m.o m.q
  hks : m.key.size ≤ maxLen
  hb : 0 ≤ bits ∧ bits < 16
  hlen : s.held.length ≤ 10000
  hrl : s.rv.length ≤ 10000
  hres : s.res.length ≤ 10000
  fine : Fine s.res
  below : Below w0.heap.size w0 w

theorem nodeLit_cells (tb cb mb : Nat) (bits : Int) (s : MS) (a1 : Option Addr) (n1 c1 : Nat) : NCells (nodeLit Ybad.prog tb cb mb bits a1 n1 c1 s.told s.typ s.cmp s.fresh) tb cb mb bits s a1 n1 c1 := by
  unfold nodeLit
  exact ⟨by kernel_rfl, by kernel_rfl, by kernel_rfl, by kernel_rfl, by kernel_rfl, by kernel_rfl, by kernel_rfl, by kernel_rfl, by kernel_rfl, by kernel_rfl⟩

theorem Nd.toAv {w0 w w1 : World} {T cb tb mb mk bk ob sb pb qb nm : Nat} {ah : Option Addr} {nh ch : Nat} {ai : Option Addr} {ni ci : Nat} {ap : Option Addr} {np cp : Nat} {ar : Option Addr} {nr cr : Nat} {m : Msg} {k0 o0 q0 : Int} {key0 : ByteArray} {kp bt bits : Int} {s : MS} (h : Nd w0 w T cb tb mb mk bk ob sb pb qb nm ah nh ch ai ni ci ap np cp ar nr cr m k0 o0 q0 key0 kp bt bits s) (hk : Kept (fun _ => False) w w1) {a1 : Option Addr} {c1 : Nat} (hr : Row Rs.cells 3 w1 a1 nr c1 s.rv) (hf : ∀ b, blkOf a1 = some b → w.heap.size ≤ b) :
    Av w0 (w1.alloc (.cells (nodeLit Ybad.prog tb cb mb bits a1 nr c1 s.told s.typ s.cmp s.fresh) 94)) T w1.heap.size cb tb mb mk bk ob sb pb qb nm ai ni ci ap np cp ar nr cr m k0 o0 q0 key0 kp bt bits s := by
  have hsz := hk.size
  have hlt := h.lt
  have hka := hk.alloc (.cells (nodeLit Ybad.prog tb cb mb bits a1 nr c1 s.told s.typ s.cmp s.fresh) 94)
  have hsz2 := hka.size
  have l1 := h.cond.lt
  have l2 := h.net.lt
  have l3 := h.map.lt
  have hgt := h.gt
  refine ⟨⟨_, ah, nh, ch, a1, nr, c1, Blk.new _ _ _, nodeLit_cells tb cb mb bits s a1 nr c1, h.cond.kept hka id, h.net.kept hka id, h.map.kept hka id, h.held.kept hka (fun _ _ => id), hr.alloc _, ⟨.inl (.inr (by omega)), .inl (.inr hgt.1), .inl (.inr hgt.2.1), .inl (.inl rfl)⟩, ⟨by omega, by omega, by omega, hgt.2.2, by omega, by omega⟩, fun b e => ?_, fun b e => ?_, fun b e e' => ?_, fun b hb => .inr hb⟩,
    h.it.kept hka (fun _ _ => id), h.pr.kept hka (fun _ _ => id), h.rv.kept hka (fun _ _ => id), h.st.kept hka id, h.arg.kept hka id, h.op.kept hka id, h.stp.kept hka id, h.msg.kept hka id, h.bef.kept hka id, fun k hk' => ?_, h.k0, h.k1, ⟨hlt.1, hlt.2.1, hlt.2.2.1, by omega, hlt.2.2.2.2⟩, h.ge, h.pos, h.h4, h.hnm, h.ho4, h.hks, h.hb, h.hlen, h.hrl, h.hres, h.fine, Below.keptB h.below hka⟩
  · have := h.gh b e
    have := h.held.lt b e
    exact ⟨.inl (.inr (by omega)), by omega, by omega, by omega, by omega⟩
  · have := hf b e
    have := hr.lt b e
    exact ⟨.inl (.inr (by omega)), by omega, by omega, by omega, by omega⟩
  · have := h.held.lt b e
    have := hf b e'
    omega
  · rw [World.cell?_of_block (w := w) (hka.block 0 (Nat.lt_of_lt_of_le h.pos h.below.size) id)]
    exact h.kinds k hk'

set_option maxHeartbeats 4000000 in
set_option maxRecDepth 100000 in
theorem tail20 {u0 u1 u2 u3 u4 u6 u7 u8 u12 u13 u14 u15 u18 u19 u20 u21 u22 u24 u25 u35 u36 u37 u38 u39 u40 u41 u42 u43 u44 u45 u46 u47 u48 u49 u50 u51 u52 u53 u54 u55 u56 u57 u58 u59 u60 u61 u62 u63 u64 u65 u66 u67 u68 u69 u70 u71 u72 u73 u74 u75 u76 u77 u78 u79 u80 u81 u82 u83 u84 u85 u86 u87 u88 u89 u90 u91 u92 u93 u94 u95 u96 u97 u98 u99 u100 u101 u102 u103 u104 u105 u106 u107 u108 u109 u110 u111 u112 u113 u114 u115 u116 u117 u118 u119 u120 u121 u122 u123 u124 u125 u126 u127 u128 u129 u130 u131 u132 u133 u134 u135 u136 u137 u138 u139 u140 u141 u142 u143 u144 u145 u146 u147 u148 u149 u150 u151 u152 u153 u154 u155 u156 u157 u158 u159 u160 u161 u162 u163 u164 u165 u166 u167 u168 u169 u170 u171 u172 u173 u174 u175 u176 u177 u178 u179 u180 u181 u182 u183 u184 u185 u186 u187 u188 u189 u190 u191 u192 u193 u194 u195 u196 u197 u198 u199 u200 u201 u202 u203 u204 u205 u206 u207 u208 u209 u210 u211 u212 u213 u214 u215 u216 u217 u218 u219 u220 u221 u222 u223 u224 u225 u226 u227 u228 u229 u230 u231 u232 u233 u234 u235 u236 u237 u238 u239 u240 u241 u242 u243 u244 u245 u246 u247 u248 u249 u250 u251 u252 u253 u254 u255 u256 u257 u258 u259 u260 u261 u262 u263 u264 u265 u266 u267 u268 u269 u270 u271 u272 u273 u274 u275 u276 u277 u278 u279 u280 u281 u282 u283 u284 u285 u286 u287 u288 u289 u290 u291 u292 u293 u294 u295 u296 u297 u298 u299 u300 u301 u302 u303 u304 u305 u306 u307 u308 u309 u310 u311 u312 u313 u314 u315 u316 u317 u318 u319 u320 u321 u322 u323 u324 u325 u326 u327 u328 u329 u330 u331 u332 u333 u334 u335 u336 u337 u338 u339 u340 u341 u342 u343 u344 u345 u346 u347 u348 u349 u350 u351 u352 u353 u354 u355 u356 u357 u358 u359 u360 u361 u362 u363 u364 u365 u366 u367 u368 u369 u370 u371 u372 u373 u374 u375 u376 u377 u378 u379 u380 u381 u382 u383 u384 u385 u386 u387 u388 u389 u390 u391 u392 u393 u394 u395 u396 u397 u398 u399 u400 u401 u402 u403 u404 u405 u406 u407 u408 u409 u410 u411 u412 u413 u414 u415 u416 u417 u418 u419 u420 u421 u422 u423 u424 u425 u426 u427 u428 u429 u430 u431 u432 u433 u434 u435 u436 u437 u438 u439 u440 u441 u442 u443 u444 u445 u446 u447 u448 u449 u450 u451 u452 u453 u454 u455 u456 u457 u458 u459 u460 u461 u462 u463 u464 u465 u466 u467 u468 u469 u470 u471 u472 u473 u474 u475 u476 u477 u478 u479 u480 u481 u482 u483 u484 u485 u486 u487 u488 u489 u490 u491 u492 u493 u494 u495 u496 u497 u498 u499 u500 u501 u502 u503 u504 u505 u506 u507 u508 u509 u510 u511 u512 u513 u514 u515 u516 u517 u518 u519 u520 u521 u522 u523 u524 u525 u526 u527 u528 u529 u530 u531 u532 u533 u534 u535 u536 u537 u538 u539 u540 u541 u542 u543 u544 u545 u546 u547 u548 u549 u550 u551 u552 u553 u554 u555 u556 u557 u558 u559 u560 u561 u562 u563 u564 u565 u566 u567 u568 u569 u570 u571 u572 u573 u574 u575 u576 u577 u578 u579 u580 u581 u582 u583 u584 u585 u586 u587 u588 u589 u590 u591 u592 u593 u594 u595 u596 u597 u598 u599 u600 u601 u602 u603 u604 u605 u606 u607 u608 u609 u610 u611 u612 u613 u614 u615 u616 u617 u618 u619 u620 u621 u622 u623 u624 u625 u626 u627 : Value} {w0 w : World} {T cb tb mb mk bk ob sb pb qb nm : Nat} {ah : Option Addr} {nh ch : Nat} {ai : Option Addr} {ni ci : Nat} {ap : Option Addr} {np cp : Nat} {ar : Option Addr} {nr cr : Nat} {m : Msg} {k0 o0 q0 : Int} {key0 : ByteArray} {kp bt bits : Int} {s : MS} (hA : Nd w0 w T cb tb mb mk bk ob sb pb qb nm ah nh ch ai ni ci ap np cp ar nr cr m k0 o0 q0 key0 kp bt bits s) :
    Code.wp Ybad.prog (dropSeq 20 (Ybad.f3.body.getD .skip)) (bodyPost Ybad.prog Ybad.f3 fun e w' => e = .returned (.bool true) ∧ Below w0.heap.size w0 w') ⟨#[u0, u1, u2, u3, u4, .pointer (some ⟨pb, 0, none⟩), u6, u7, u8, .pointer (some ⟨qb, 0, none⟩), .bool false, .slice ai ni ci, u12, u13, u14, u15, .slice ap np cp, .map (some mb), u18, u19, u20, u21, u22, .slice ar nr cr, u24, u25, .string m.key, .int .u8 m.kind, .pointer (some ⟨ob, 0, none⟩), .pointer (some ⟨sb, 0, none⟩), .pointer (some ⟨mk, 0, none⟩), .pointer (some ⟨bk, 0, none⟩), .int .i64 bits, .pointer (some ⟨tb, 0, none⟩), .pointer (some ⟨cb, 0, none⟩), u35, u36, u37, u38, u39, u40, u41, u42, u43, u44, u45, u46, u47, u48, u49, u50, u51, u52, u53, u54, u55, u56, u57, u58, u59, u60, u61, u62, u63, u64, u65, u66, u67, u68, u69, u70, u71, u72, u73, u74, u75, u76, u77, u78, u79, u80, u81, u82, u83, u84, u85, u86, u87, u88, u89, u90, u91, u92, u93, u94, u95, u96, u97, u98, u99, u100, u101, u102, u103, u104, u105, u106, u107, u108, u109, u110, u111, u112, u113, u114, u115, u116, u117, u118, u119, u120, u121, u122, u123, u124, u125, u126, u127, u128, u129, u130, u131, u132, u133, u134, u135, u136, u137, u138, u139, u140, u141, u142, u143, u144, u145, u146, u147, u148, u149, u150, u151, u152, u153, u154, u155, u156, u157, u158, u159, u160, u161, u162, u163, u164, u165, u166, u167, u168, u169, u170, u171, u172, u173, u174, u175, u176, u177, u178, u179, u180, u181, u182, u183, u184, u185, u186, u187, u188, u189, u190, u191, u192, u193, u194, u195, u196, u197, u198, u199, u200, u201, u202, u203, u204, u205, u206, u207, u208, u209, u210, u211, u212, u213, u214, u215, u216, u217, u218, u219, u220, u221, u222, u223, u224, u225, u226, u227, u228, u229, u230, u231, u232, u233, u234, u235, u236, u237, u238, u239, u240, u241, u242, u243, u244, u245, u246, u247, u248, u249, u250, u251, u252, u253, u254, u255, u256, u257, u258, u259, u260, u261, u262, u263, u264, u265, u266, u267, u268, u269, u270, u271, u272, u273, u274, u275, u276, u277, u278, u279, u280, u281, u282, u283, u284, u285, u286, u287, u288, u289, u290, u291, u292, u293, u294, u295, u296, u297, u298, u299, u300, u301, u302, u303, u304, u305, u306, u307, u308, u309, u310, u311, u312, u313, u314, u315, u316, u317, u318, u319, u320, u321, u322, u323, u324, u325, u326, u327, u328, u329, u330, u331, u332, u333, u334, u335, u336, u337, u338, u339, u340, u341, u342, u343, u344, u345, u346, u347, u348, u349, u350, u351, u352, u353, u354, u355, u356, u357, u358, u359, u360, u361, u362, u363, u364, u365, u366, u367, u368, u369, u370, u371, u372, u373, u374, u375, u376, u377, u378, u379, u380, u381, u382, u383, u384, u385, u386, u387, u388, u389, u390, u391, u392, u393, u394, u395, u396, u397, u398, u399, u400, u401, u402, u403, u404, u405, u406, u407, u408, u409, u410, u411, u412, u413, u414, u415, u416, u417, u418, u419, u420, u421, u422, u423, u424, u425, u426, u427, u428, u429, u430, u431, u432, u433, u434, u435, u436, u437, u438, u439, u440, u441, u442, u443, u444, u445, u446, u447, u448, u449, u450, u451, u452, u453, u454, u455, u456, u457, u458, u459, u460, u461, u462, u463, u464, u465, u466, u467, u468, u469, u470, u471, u472, u473, u474, u475, u476, u477, u478, u479, u480, u481, u482, u483, u484, u485, u486, u487, u488, u489, u490, u491, u492, u493, u494, u495, u496, u497, u498, u499, u500, u501, u502, u503, u504, u505, u506, u507, u508, u509, u510, u511, u512, u513, u514, u515, u516, u517, u518, u519, u520, u521, u522, u523, u524, u525, u526, u527, u528, u529, u530, u531, u532, u533, u534, u535, u536, u537, u538, u539, u540, u541, u542, u543, u544, u545, u546, u547, u548, u549, u550, u551, u552, u553, u554, u555, u556, u557, u558, u559, u560, u561, u562, u563, u564, u565, u566, u567, u568, u569, u570, u571, u572, u573, u574, u575, u576, u577, u578, u579, u580, u581, u582, u583, u584, u585, u586, u587, u588, u589, u590, u591, u592, u593, u594, u595, u596, u597, u598, u599, u600, u601, u602, u603, u604, u605, u606, u607, u608, u609, u610, u611, u612, u613, u614, u615, u616, u617, u618, u619, u620, u621, u622, u623, u624, u625, u626, u627], []⟩ w := by
  conv => arg 2; whnf
  dsimp only
  have HA : Hid (Nd w0 w T cb tb mb mk bk ob sb pb qb nm ah nh ch ai ni ci ap np cp ar nr cr m k0 o0 q0 key0 kp bt bits s) := hA
  have s2 : w.cell? ⟨qb, 2, none⟩ = some (.int .i64 s.told) := hA.st.cell 2
  have s3 : w.cell? ⟨qb, 3, none⟩ = some (.int .i64 s.typ) := hA.st.cell 3
  have s4 : w.cell? ⟨qb, 4, none⟩ = some (.bool s.cmp) := hA.st.cell 4
  have s5 : w.cell? ⟨qb, 5, none⟩ = some (.bool s.fresh) := hA.st.cell 5
  have hq : qb < w.heap.size := hA.st.lt
  have hb69 : ∀ w : World, (Instr.build 69 #[(0, .int .i64 bits)]).run Ybad.prog w = .ok (.agg #[.int .i64 bits]) w := fun w => run_build w 69 _ _ (built69 bits)
  have hb94 : ∀ (w : World) (a1 : Option Addr) (c1 : Nat), (Instr.build 94 #[(3, .agg #[.int .i64 bits]), (7, .iface 60 (.pointer (some ⟨tb, 0, none⟩))), (13, .iface 63 (.pointer (some ⟨cb, 0, none⟩))), (31, .map (some mb)), (32, .slice a1 nr c1), (27, .int .i64 s.told), (28, .int .i64 s.typ), (29, .bool s.cmp), (30, .bool s.fresh)]).run Ybad.prog w = .ok (.agg (nodeLit Ybad.prog tb cb mb bits a1 nr c1 s.told s.typ s.cmp s.fresh)) w := fun w a1 c1 => run_build w 94 _ _ (built94 tb cb mb bits a1 nr c1 s.told s.typ s.cmp s.fresh)
  have HB94 : Hid _ := hb94
  clear hb94
  clear hA
  go_step
  go_step
  rename_i K hK
  have HKK : Hid _ := hK
  clear hK
  go_wp2_with fail
  refine wp_region_noPanic ?_
  refine region_heldK (fun w' => w'.cell? ⟨qb, 2, none⟩ = some (.int .i64 s.told) ∧ w'.cell? ⟨qb, 3, none⟩ = some (.int .i64 s.typ) ∧ w'.cell? ⟨qb, 4, none⟩ = some (.bool s.cmp) ∧ w'.cell? ⟨qb, 5, none⟩ = some (.bool s.fresh)) 20 rfl (by kernel_rfl) ⟨s2, s3, s4, s5⟩ (fun hH => ?_)
  refine wpAnyH_takeD (i := 0) (d := 236) (v := .int .i64 bits) rfl rfl (by kernel_rfl) (by kernel_rfl) (by kernel_rfl) (fun _ _ _ h => h) rfl ?_ hH ?_
  · intro W hW
    go_simp
  simp only [List.setIfInBounds_toArray, List.set_cons_zero, List.set_cons_succ]
  refine wpAnyH_takeD (i := 1) (d := 237) (v := .agg #[.int .i64 bits]) rfl rfl (by kernel_rfl) (by kernel_rfl) (by kernel_rfl) (fun _ _ _ h => h) rfl ?_ hH ?_
  · intro W hW
    go_simp
  simp only [List.setIfInBounds_toArray, List.set_cons_zero, List.set_cons_succ]
  refine wpAnyH_takeD (i := 2) (d := 238) (v := .pointer (some ⟨tb, 0, none⟩)) rfl rfl (by kernel_rfl) (by kernel_rfl) (by kernel_rfl) (fun _ _ _ h => h) rfl ?_ hH ?_
  · intro W hW
    go_simp
  simp only [List.setIfInBounds_toArray, List.set_cons_zero, List.set_cons_succ]
  refine wpAnyH_takeD (i := 3) (d := 239) (v := .iface 60 (.pointer (some ⟨tb, 0, none⟩))) rfl rfl (by kernel_rfl) (by kernel_rfl) (by kernel_rfl) (fun _ _ _ h => h) rfl ?_ hH ?_
  · intro W hW
    go_simp
  simp only [List.setIfInBounds_toArray, List.set_cons_zero, List.set_cons_succ]
  refine wpAnyH_takeD (i := 4) (d := 240) (v := .pointer (some ⟨cb, 0, none⟩)) rfl rfl (by kernel_rfl) (by kernel_rfl) (by kernel_rfl) (fun _ _ _ h => h) rfl ?_ hH ?_
  · intro W hW
    go_simp
  simp only [List.setIfInBounds_toArray, List.set_cons_zero, List.set_cons_succ]
  refine wpAnyH_takeD (i := 5) (d := 241) (v := .iface 63 (.pointer (some ⟨cb, 0, none⟩))) rfl rfl (by kernel_rfl) (by kernel_rfl) (by kernel_rfl) (fun _ _ _ h => h) rfl ?_ hH ?_
  · intro W hW
    go_simp
  simp only [List.setIfInBounds_toArray, List.set_cons_zero, List.set_cons_succ]
  refine wpAnyH_takeD (i := 6) (d := 242) (v := .map (some mb)) rfl rfl (by kernel_rfl) (by kernel_rfl) (by kernel_rfl) (fun _ _ _ h => h) rfl ?_ hH ?_
  · intro W hW
    go_simp
  simp only [List.setIfInBounds_toArray, List.set_cons_zero, List.set_cons_succ]
  refine wpAnyH_takeD (i := 7) (d := 243) (v := .slice ar nr cr) rfl rfl (by kernel_rfl) (by kernel_rfl) (by kernel_rfl) (fun _ _ _ h => h) rfl ?_ hH ?_
  · intro W hW
    go_simp
  simp only [List.setIfInBounds_toArray, List.set_cons_zero, List.set_cons_succ]
  refine wpAnyH_takeD (i := 9) (d := 245) (v := .pointer (some ⟨qb, 2, none⟩)) rfl rfl (by kernel_rfl) (by kernel_rfl) (by kernel_rfl) (fun _ _ _ h => h) rfl ?_ hH ?_
  · intro W hW
    go_simp
  simp only [List.setIfInBounds_toArray, List.set_cons_zero, List.set_cons_succ]
  refine wpAnyH_takeD (i := 10) (d := 246) (v := .int .i64 s.told) rfl rfl (by kernel_rfl) (by kernel_rfl) (by kernel_rfl) (fun _ _ _ h => h) rfl ?_ hH ?_
  · intro W hW
    go_simp
  simp only [List.setIfInBounds_toArray, List.set_cons_zero, List.set_cons_succ]
  refine wpAnyH_takeD (i := 11) (d := 247) (v := .pointer (some ⟨qb, 3, none⟩)) rfl rfl (by kernel_rfl) (by kernel_rfl) (by kernel_rfl) (fun _ _ _ h => h) rfl ?_ hH ?_
  · intro W hW
    go_simp
  simp only [List.setIfInBounds_toArray, List.set_cons_zero, List.set_cons_succ]
  refine wpAnyH_takeD (i := 12) (d := 248) (v := .int .i64 s.typ) rfl rfl (by kernel_rfl) (by kernel_rfl) (by kernel_rfl) (fun _ _ _ h => h) rfl ?_ hH ?_
  · intro W hW
    go_simp
  simp only [List.setIfInBounds_toArray, List.set_cons_zero, List.set_cons_succ]
  refine wpAnyH_takeD (i := 13) (d := 249) (v := .pointer (some ⟨qb, 4, none⟩)) rfl rfl (by kernel_rfl) (by kernel_rfl) (by kernel_rfl) (fun _ _ _ h => h) rfl ?_ hH ?_
  · intro W hW
    go_simp
  simp only [List.setIfInBounds_toArray, List.set_cons_zero, List.set_cons_succ]
  refine wpAnyH_takeD (i := 14) (d := 250) (v := .bool s.cmp) rfl rfl (by kernel_rfl) (by kernel_rfl) (by kernel_rfl) (fun _ _ _ h => h) rfl ?_ hH ?_
  · intro W hW
    go_simp
  simp only [List.setIfInBounds_toArray, List.set_cons_zero, List.set_cons_succ]
  refine wpAnyH_takeD (i := 15) (d := 251) (v := .pointer (some ⟨qb, 5, none⟩)) rfl rfl (by kernel_rfl) (by kernel_rfl) (by kernel_rfl) (fun _ _ _ h => h) rfl ?_ hH ?_
  · intro W hW
    go_simp
  simp only [List.setIfInBounds_toArray, List.set_cons_zero, List.set_cons_succ]
  refine wpAnyH_takeD (i := 16) (d := 252) (v := .bool s.fresh) rfl rfl (by kernel_rfl) (by kernel_rfl) (by kernel_rfl) (fun _ _ _ h => h) rfl ?_ hH ?_
  · intro W hW
    go_simp
  simp only [List.setIfInBounds_toArray, List.set_cons_zero, List.set_cons_succ]
  refine wpAnyH_ready (rs := [8]) (by kernel_rfl) (by simp) ?_
  refine AllReadyH.cons rfl (fun K2 hK2 => ?_) AllReadyH.nil
  go_simp
  refine (cloneR_any ar nr cr s.rv w.drew (HA.out.rv.eqv (fun _ _ => rfl)) (by have := HA.out.rv.len; have := HA.out.hrl; omega)).mono ?_
  rintro e w1 ⟨a1, c1, rfl, hr1, hk1, hf1⟩
  have hk1' : Kept (fun _ => False) w w1 := ⟨hk1.os, hk1.tape, hk1.output, hk1.size, hk1.block⟩
  have hb1 := HA.out.st.kept hk1' id
  have y2 : w1.cell? ⟨qb, 2, none⟩ = some (.int .i64 s.told) := hb1.cell 2
  have y3 : w1.cell? ⟨qb, 3, none⟩ = some (.int .i64 s.typ) := hb1.cell 3
  have y4 : w1.cell? ⟨qb, 4, none⟩ = some (.bool s.cmp) := hb1.cell 4
  have y5 : w1.cell? ⟨qb, 5, none⟩ = some (.bool s.fresh) := hb1.cell 5
  have HR1 : Hid _ := hr1
  have HK1 : Hid _ := hk1'
  have HF1 : Hid _ := hf1
  clear hr1 hk1 hk1' hb1 hf1
  refine hK2.out _ _ ⟨y2, y3, y4, y5⟩ (fun hH => ?_)
  clear hK2 K2
  refine wpAnyH_ready (rs := [17]) (by kernel_rfl) (by simp) ?_
  refine AllReadyH.cons rfl (fun K2 hK2 => ?_) AllReadyH.nil
  refine step_build (by rfl) 94 #[(3, .tmp 237), (7, .tmp 239), (13, .tmp 241), (31, .tmp 242), (32, .tmp 244), (27, .tmp 246), (28, .tmp 248), (29, .tmp 250), (30, .tmp 252)] (by rfl) #[(3, .agg #[.int .i64 bits]), (7, .iface 60 (.pointer (some ⟨tb, 0, none⟩))), (13, .iface 63 (.pointer (some ⟨cb, 0, none⟩))), (31, .map (some mb)), (32, .slice a1 nr c1), (27, .int .i64 s.told), (28, .int .i64 s.typ), (29, .bool s.cmp), (30, .bool s.fresh)] (by simp only [List.map_toArray, List.map_cons, List.map_nil]; rfl) (.agg (nodeLit Ybad.prog tb cb mb bits a1 nr c1 s.told s.typ s.cmp s.fresh)) (HB94.out w1 a1 c1) ?_
  go_simp
  refine hK2.out _ _ ⟨y2, y3, y4, y5⟩ (fun hH => ?_)
  clear hK2 K2
  refine wpAnyH_ready (rs := [18]) (by kernel_rfl) (by simp) ?_
  refine AllReadyH.cons rfl (fun K2 hK2 => ?_) AllReadyH.nil
  go_simp
  have hb3 := (HA.out.st.kept HK1.out id).alloc (.cells (nodeLit Ybad.prog tb cb mb bits a1 nr c1 s.told s.typ s.cmp s.fresh) 94)
  have hS3 : (w1.alloc (.cells (nodeLit Ybad.prog tb cb mb bits a1 nr c1 s.told s.typ s.cmp s.fresh) 94)).cell? ⟨qb, 2, none⟩ = some (.int .i64 s.told) ∧ (w1.alloc (.cells (nodeLit Ybad.prog tb cb mb bits a1 nr c1 s.told s.typ s.cmp s.fresh) 94)).cell? ⟨qb, 3, none⟩ = some (.int .i64 s.typ) ∧ (w1.alloc (.cells (nodeLit Ybad.prog tb cb mb bits a1 nr c1 s.told s.typ s.cmp s.fresh) 94)).cell? ⟨qb, 4, none⟩ = some (.bool s.cmp) ∧ (w1.alloc (.cells (nodeLit Ybad.prog tb cb mb bits a1 nr c1 s.told s.typ s.cmp s.fresh) 94)).cell? ⟨qb, 5, none⟩ = some (.bool s.fresh) := ⟨hb3.cell 2, hb3.cell 3, hb3.cell 4, hb3.cell 5⟩
  clear hb3
  refine hK2.out _ _ hS3 (fun hH => ?_)
  clear hK2 K2
  refine wpAnyH_ready (rs := [19]) (by kernel_rfl) (by simp) ?_
  refine AllReadyH.cons rfl (fun K2 hK2 => ?_) AllReadyH.nil
  go_simp
  refine hK2.out _ _ hS3 (fun hH => ?_)
  clear hK2 K2
  refine wpAnyH_done (by kernel_rfl) ?_ _
  exact HKK.out _ _ (tail21 (HA.out.toAv HK1.out HR1.out HF1.out))

end Go.Proofs.YbulkdywgDoor
