/-
  Seat b6277a: the law's last part, behind the making of the children.
-/
import Derived.Test.YbulkdyyyTail2
namespace Go.Proofs.Ybulkdyyy
open Go.RowKit
set_option linter.unusedVariables false


set_option maxHeartbeats 4000000 in
set_option maxRecDepth 100000 in
theorem tail1 {u3 u4 u5 u7 u8 u11 u12 u13 u14 u15 u16 u17 u18 u19 u20 u21 u22 u23 u24 u25 u26 u27 u28 u29 u30 u31 u32 u33 u34 u35 u36 u37 u38 u39 u40 u41 u42 u43 u44 u45 u46 u47 u48 u49 u50 u51 u52 u53 u54 u55 u56 u57 u58 u59 u60 u61 u62 u63 u64 u65 u66 u67 u68 u69 u70 u71 u72 u73 u74 u75 u76 u77 u78 u79 u80 u81 u82 u83 u84 u85 u86 u87 u88 u89 u90 u91 u92 u93 u94 u95 u96 u97 u98 u99 u100 u101 u102 u103 u104 u105 u106 u107 u108 u109 u110 u111 u112 u113 u114 u115 u116 u117 u118 u119 u120 u121 u122 u123 u124 u125 u126 u127 u128 u129 u130 u131 u132 u133 u134 u135 u136 u137 u138 u139 u140 u141 u142 u143 u144 u145 u146 u147 u148 u149 u150 u151 u152 u153 u154 u155 u156 u157 u158 u159 u160 u161 u162 u163 u164 u165 u166 u167 u168 u169 u170 u171 u172 u173 u174 u175 u176 u177 u178 u179 u180 u181 u182 u183 u184 u185 u186 u187 u188 u189 u190 u191 u192 u193 u194 u195 u196 u197 u198 u199 u200 u201 u202 u203 u204 u205 u206 u207 u208 u209 u210 u211 u212 u213 u214 u215 u216 u217 u218 u219 u220 u221 u222 u223 u224 u225 u226 u227 u228 u229 u230 u231 u232 u233 u234 u235 u236 u237 u238 u239 u240 u241 u242 u243 u244 u245 u246 u247 u248 u249 u250 u251 u252 u253 u254 u255 u256 u257 u258 u259 u260 u261 u262 u263 u264 u265 u266 u267 u268 u269 u270 u271 u272 u273 u274 u275 : Value} {a0 sa wa : Option Addr} {n0 k0 sn sc wn wc gk gl : Nat} {bs : List Nat} {xs zs ys : List Int} {w wd : World}
    (hK : Src wd (some ⟨gk, 0, none⟩) n0 n0 (bs.map (fun b => Value.pointer (some ⟨b, 0, none⟩)))) (hL : Src wd (some ⟨gl, 0, none⟩) n0 n0 (xs.map (Value.int .i64))) (hS : Src wd sa sn sc (zs.map (Value.int .i64))) (hW : Src wd wa wn wc (ys.map (Value.int .i64)))
    (hkid : ∀ j, j < n0 → KidOk wd (bs.getD j 0) (xs.getD j 0)) (hb : Below w.heap.size w wd) :
    Code.wp Yba.prog (dropSeq 7 (Yba.f3.body.getD .skip)) (bodyPost Yba.prog Yba.f3 fun e w' => e = .returned (.bool true) ∧ Below w.heap.size w w') ⟨#[.slice a0 n0 k0, .slice sa sn sc, .slice wa wn wc, u3, u4, u5, .bool false, u7, u8, .slice (some ⟨gk, 0, none⟩) n0 n0, .slice (some ⟨gl, 0, none⟩) n0 n0, u11, u12, u13, u14, u15, u16, u17, u18, u19, u20, u21, u22, u23, u24, u25, u26, u27, u28, u29, u30, u31, u32, u33, u34, u35, u36, u37, u38, u39, u40, u41, u42, u43, u44, u45, u46, u47, u48, u49, u50, u51, u52, u53, u54, u55, u56, u57, u58, u59, u60, u61, u62, u63, u64, u65, u66, u67, u68, u69, u70, u71, u72, u73, u74, u75, u76, u77, u78, u79, u80, u81, u82, u83, u84, u85, u86, u87, u88, u89, u90, u91, u92, u93, u94, u95, u96, u97, u98, u99, u100, u101, u102, u103, u104, u105, u106, u107, u108, u109, u110, u111, u112, u113, u114, u115, u116, u117, u118, u119, u120, u121, u122, u123, u124, u125, u126, u127, u128, u129, u130, u131, u132, u133, u134, u135, u136, u137, u138, u139, u140, u141, u142, u143, u144, u145, u146, u147, u148, u149, u150, u151, u152, u153, u154, u155, u156, u157, u158, u159, u160, u161, u162, u163, u164, u165, u166, u167, u168, u169, u170, u171, u172, u173, u174, u175, u176, u177, u178, u179, u180, u181, u182, u183, u184, u185, u186, u187, u188, u189, u190, u191, u192, u193, u194, u195, u196, u197, u198, u199, u200, u201, u202, u203, u204, u205, u206, u207, u208, u209, u210, u211, u212, u213, u214, u215, u216, u217, u218, u219, u220, u221, u222, u223, u224, u225, u226, u227, u228, u229, u230, u231, u232, u233, u234, u235, u236, u237, u238, u239, u240, u241, u242, u243, u244, u245, u246, u247, u248, u249, u250, u251, u252, u253, u254, u255, u256, u257, u258, u259, u260, u261, u262, u263, u264, u265, u266, u267, u268, u269, u270, u271, u272, u273, u274, u275], []⟩ wd := by
  conv => arg 2; whnf
  dsimp only
  have hnil3 := fun (w : World) a n c => Lib.run_eql_slice_nil (P := Yba.prog) w 23 3 a n c 0 0 Yba.underlying23
  have hnil6 := fun (w : World) a n c => Lib.run_eql_slice_nil (P := Yba.prog) w 26 28 a n c 0 0 Yba.underlying26
  have hnnil3 := fun (w : World) a n c => run_neq_slice_nil_any (P := Yba.prog) w 23 3 a n c 0 0 Yba.underlying23
  have hbn : bs.length = n0 := by simpa using hK.1
  have hxn : xs.length = n0 := by simpa using hL.1
  have hzn : zs.length = sn := by simpa using hS.1
  have hyn : ys.length = wn := by simpa using hW.1
  have hn0 : n0 ≤ 2000000 := hK.2.2.1
  have hsn : sn ≤ 2000000 := hS.2.2.1
  have hwn : wn ≤ 2000000 := hW.2.2.1
  have HK : Hid (Src wd (some ⟨gk, 0, none⟩) n0 n0 (bs.map (fun b => Value.pointer (some ⟨b, 0, none⟩)))) := hK
  have HL : Hid (Src wd (some ⟨gl, 0, none⟩) n0 n0 (xs.map (Value.int .i64))) := hL
  have HS : Hid (Src wd sa sn sc (zs.map (Value.int .i64))) := hS
  have HW : Hid (Src wd wa wn wc (ys.map (Value.int .i64))) := hW
  have HKI : Hid (∀ j, j < n0 → KidOk wd (bs.getD j 0) (xs.getD j 0)) := hkid
  have HB : Hid (Below w.heap.size w wd) := hb
  clear hK hL hS hW hkid hb
  go_wp2_with fail
  refine (clone5 _ _ _ _ _ HK.out).mono ?_
  rintro e w1 ⟨⟨a1, c1, rfl, hs1, -⟩, hb1⟩
  have HC1 : Hid (Src w1 a1 n0 c1 (bs.map (fun b => Value.pointer (some ⟨b, 0, none⟩)))) := hs1
  have HB1 : Hid (Below wd.heap.size wd w1) := hb1
  clear hs1 hb1
  go_wp2_with fail
  refine (clone4 _ _ _ _ _ (HS.out.below HB1.out (Nat.le_refl _))).mono ?_
  rintro e w2 ⟨⟨a2, c2, rfl, hs2, -⟩, hb2⟩
  have HC2 : Hid (Src w2 a2 sn c2 (zs.map (Value.int .i64))) := hs2
  have HB2 : Hid (Below wd.heap.size wd w2) := HB1.out.trans (hb2.mono HB1.out.size)
  have HB12 : Hid (Below w1.heap.size w1 w2) := hb2
  clear hs2 hb2
  go_wp2_with fail
  refine (clone4 _ _ _ _ _ (HW.out.below HB2.out (Nat.le_refl _))).mono ?_
  rintro e w3 ⟨⟨a3, c3, rfl, hs3, -⟩, hb3⟩
  have HC3 : Hid (Src w3 a3 wn c3 (ys.map (Value.int .i64))) := hs3
  have HB3 : Hid (Below wd.heap.size wd w3) := HB2.out.trans (hb3.mono HB2.out.size)
  have HB23 : Hid (Below w2.heap.size w2 w3) := hb3
  clear hs3 hb3
  go_wp2_with fail
  refine (inner_any _ _ _ _ _ _ _ _ _ _ _ _ (fun j => bs.getD j 0) xs _ (HK.out.below HB3.out (Nat.le_refl _)) (HS.out.below HB3.out (Nat.le_refl _)) (HW.out.below HB3.out (Nat.le_refl _)) (fun j hj => by simp [hbn, hj]) (fun j hj => (HKI.out j hj).below HB3.out (Nat.le_refl _)) hxn).mono ?_
  rintro e w4 ⟨nb, g0, g1, g2, g3, p0, p1, p2, p3, rfl, hN⟩
  have HN : Hid (NodeAt w3.heap.size w3 w4 nb g0 g1 g2 g3 p0 p1 p2 p3 n0 sn wn n0 (bs.map (fun b => Value.pointer (some ⟨b, 0, none⟩))) (zs.map (Value.int .i64)) (ys.map (Value.int .i64)) (xs.map (Value.int .i64))) := hN
  clear hN
  have m0 : w4.cell? ⟨nb, 0, none⟩ = some (.slice none 0 0) := by rw [cell_of_row w4 _ _ _ _ _ HN.out.node]; rfl
  have m1 : w4.cell? ⟨nb, 1, none⟩ = some (.slice (some ⟨g0, 0, none⟩) n0 p0) := by rw [cell_of_row w4 _ _ _ _ _ HN.out.node]; rfl
  have m2 : w4.cell? ⟨nb, 2, none⟩ = some (.slice (some ⟨g1, 0, none⟩) sn p1) := by rw [cell_of_row w4 _ _ _ _ _ HN.out.node]; rfl
  have m3 : w4.cell? ⟨nb, 3, none⟩ = some (.slice (some ⟨g2, 0, none⟩) wn p2) := by rw [cell_of_row w4 _ _ _ _ _ HN.out.node]; rfl
  have m4 : w4.cell? ⟨nb, 4, none⟩ = some (.slice (some ⟨g3, 0, none⟩) n0 p3) := by rw [cell_of_row w4 _ _ _ _ _ HN.out.node]; rfl
  have HBB4 : Hid (Below w3.heap.size w3 w4) := HN.out.below
  have HE1 : Hid (Src w4 a1 n0 c1 (bs.map (fun b => Value.pointer (some ⟨b, 0, none⟩)))) := ((HC1.out.below HB12.out (Nat.le_refl _)).below HB23.out (Nat.le_refl _)).below HBB4.out (Nat.le_refl _)
  have HE2 : Hid (Src w4 a2 sn c2 (zs.map (Value.int .i64))) := (HC2.out.below HB23.out (Nat.le_refl _)).below HBB4.out (Nat.le_refl _)
  have HE3 : Hid (Src w4 a3 wn c3 (ys.map (Value.int .i64))) := HC3.out.below HBB4.out (Nat.le_refl _)
  have HB4 : Hid (Below wd.heap.size wd w4) := HB3.out.trans (HBB4.out.mono HB3.out.size)
  have HEK : Hid (Src w4 (some ⟨gk, 0, none⟩) n0 n0 (bs.map (fun b => Value.pointer (some ⟨b, 0, none⟩)))) := HK.out.below HB4.out (Nat.le_refl _)
  have HEL : Hid (Src w4 (some ⟨gl, 0, none⟩) n0 n0 (xs.map (Value.int .i64))) := HL.out.below HB4.out (Nat.le_refl _)
  have HES : Hid (Src w4 sa sn sc (zs.map (Value.int .i64))) := HS.out.below HB4.out (Nat.le_refl _)
  have HEW : Hid (Src w4 wa wn wc (ys.map (Value.int .i64))) := HW.out.below HB4.out (Nat.le_refl _)
  have HN0 : Hid (Src w4 (some ⟨g0, 0, none⟩) n0 p0 (bs.map (fun b => Value.pointer (some ⟨b, 0, none⟩)))) := src_of_own HN.out.own0 (by intro u hu; obtain ⟨_, _, rfl⟩ := List.mem_map.1 hu; rfl) hn0
  have HN1 : Hid (Src w4 (some ⟨g1, 0, none⟩) sn p1 (zs.map (Value.int .i64))) := src_of_own HN.out.own1 (ints_oneCell _ _) hsn
  have HN2 : Hid (Src w4 (some ⟨g2, 0, none⟩) wn p2 (ys.map (Value.int .i64))) := src_of_own HN.out.own2 (ints_oneCell _ _) hwn
  have HN3 : Hid (Src w4 (some ⟨g3, 0, none⟩) n0 p3 (xs.map (Value.int .i64))) := src_of_own HN.out.own3 (ints_oneCell _ _) hn0
  have HBF : Hid (Below w.heap.size w w4) := HB.out.trans (HB4.out.mono HB.out.size)
  have hgkB : 0 < n0 → gk < wd.heap.size := fun h => by
    obtain ⟨b, o, e, hc⟩ := HK.out.at h
    cases e
    exact World.block_lt_of_cell? _ _ (hc 0 _ (show (bs.map (fun b => Value.pointer (some ⟨b, 0, none⟩)))[0]? = some ((bs.map (fun b => Value.pointer (some ⟨b, 0, none⟩)))[0]'(by simp; omega)) by simp))
  have hsB : ∀ x, sa = some x → 0 < sn → x.block < wd.heap.size := fun x hx h => by
    obtain ⟨b, o, e, hc⟩ := HS.out.at h
    rw [hx] at e
    cases e
    exact World.block_lt_of_cell? _ _ (hc 0 _ (show (zs.map (Value.int .i64))[0]? = some ((zs.map (Value.int .i64))[0]'(by simp; omega)) by simp))
  have hwB : ∀ x, wa = some x → 0 < wn → x.block < wd.heap.size := fun x hx h => by
    obtain ⟨b, o, e, hc⟩ := HW.out.at h
    rw [hx] at e
    cases e
    exact World.block_lt_of_cell? _ _ (hc 0 _ (show (ys.map (Value.int .i64))[0]? = some ((ys.map (Value.int .i64))[0]'(by simp; omega)) by simp))
  have hd3 : wd.heap.size ≤ w3.heap.size := HB3.out.size
  have o0 : w3.heap.size ≤ g0 := (HN.out.own0.lt _ rfl).1
  have o1 : w3.heap.size ≤ g1 := (HN.out.own1.lt _ rfl).1
  have o2 : w3.heap.size ≤ g2 := (HN.out.own2.lt _ rfl).1
  have HYS : Hid (YState w w4 nb g0 g1 g2 g3 p0 p1 p2 p3 n0 sn sc wn wc gk c1 c2 c3 sa wa a1 a2 a3 bs xs zs ys) :=
    ⟨m1, m2, m3, m4, HN.out.cap0, HN.out.cap1, HN.out.cap2, HN.out.cap3, ⟨_, HN.out.own0⟩, ⟨_, HN.out.own1⟩, ⟨_, HN.out.own2⟩, HEK.out, HES.out, HEW.out, HE1.out, HE2.out, HE3.out,
      fun h => by have := hgkB h; omega, fun x hx h => by have := hsB x hx h; omega, fun x hx h => by have := hwB x hx h; omega, HBF.out⟩
  clear hgkB hsB hwB hd3 o0 o1 o2
  go_wp2_with fail
  refine (equal7 _ _ _ _ _ bs _ HN0.out HE1.out).mono ?_
  rintro e w5 ⟨rfl, q1, rfl⟩
  go_wp2_with fail
  refine (equal8 _ _ _ _ _ zs _ (HN1.out.drewN _) (HE2.out.drewN _)).mono ?_
  rintro e w5 ⟨rfl, q2, rfl⟩
  go_wp2_with fail
  refine (equal8 _ _ _ _ _ ys _ (HN2.out.drewN _) (HE3.out.drewN _)).mono ?_
  rintro e w5 ⟨rfl, q3, rfl⟩
  go_wp2_with fail
  refine (equal8 _ _ _ _ _ xs _ (HN3.out.drewN _) (HEL.out.drewN _)).mono ?_
  rintro e w5 ⟨rfl, q4, rfl⟩
  go_upto_if 179 with fail
  go_cut [6] (fun _ w' => ∃ q, w' = w4.drewN q)
  case first =>
    go_wp2
    go_meet
    case rel => exact ⟨_, rfl⟩
  case rest =>
  rename World => w7
  obtain ⟨q7, rfl⟩ := hcut
  go_step
  exact tail2 HYS.out

end Go.Proofs.Ybulkdyyy
