/-
  Seat b6277a: the law's last part: the capacities.
-/
import Derived.Test.YbulkdyyyTail3
namespace Go.Proofs.Ybulkdyyy
open Go.RowKit
set_option linter.unusedVariables false

set_option maxHeartbeats 4000000 in
set_option maxRecDepth 100000 in
theorem tail2 {u3 u4 u5 u6 u7 u8 u11 u12 u13 u14 u15 u20 u21 u22 u23 u24 u25 u26 u27 u28 u29 u30 u31 u32 u33 u34 u35 u36 u37 u38 u39 u40 u41 u42 u43 u44 u45 u46 u47 u48 u49 u50 u51 u52 u53 u54 u55 u56 u57 u58 u59 u60 u61 u62 u63 u64 u65 u66 u67 u68 u69 u70 u71 u72 u73 u74 u75 u76 u77 u78 u79 u80 u81 u82 u83 u84 u85 u86 u87 u88 u89 u90 u91 u92 u93 u94 u95 u96 u97 u98 u99 u100 u101 u102 u103 u104 u105 u106 u107 u108 u109 u110 u111 u112 u113 u114 u115 u116 u117 u118 u119 u120 u121 u122 u123 u124 u125 u126 u127 u128 u129 u130 u131 u132 u133 u134 u135 u136 u137 u138 u139 u140 u141 u142 u143 u144 u145 u146 u147 u148 u149 u150 u151 u152 u153 u154 u155 u156 u157 u158 u159 u160 u161 u162 u163 u164 u165 u166 u167 u168 u169 u170 u171 u172 u173 u174 u175 u176 u177 u178 u179 u180 u181 u182 u183 u184 u185 u186 u187 u188 u189 u190 u191 u192 u193 u194 u195 u196 u197 u198 u199 u200 u201 u202 u203 u204 u205 u206 u207 u208 u209 u210 u211 u212 u213 u214 u215 u216 u217 u218 u219 u220 u221 u222 u223 u224 u225 u226 u227 u228 u229 u230 u231 u232 u233 u234 u235 u236 u237 u238 u239 u240 u241 u242 u243 u244 u245 u246 u247 u248 u249 u250 u251 u252 u253 u254 u255 u256 u257 u258 u259 u260 u261 u262 u263 u264 u265 u266 u267 u268 u269 u270 u271 u272 u273 u274 u275 : Value} {a0 sa wa a1 a2 a3 : Option Addr} {n0 k0 sn sc wn wc gk gl nb g0 g1 g2 g3 p0 p1 p2 p3 c1 c2 c3 : Nat} {bs : List Nat} {xs zs ys : List Int} {w w4 : World} {q0 : Nat} (hY : YState w w4 nb g0 g1 g2 g3 p0 p1 p2 p3 n0 sn sc wn wc gk c1 c2 c3 sa wa a1 a2 a3 bs xs zs ys) :
    Code.wp Yba.prog (dropSeq 14 (Yba.f3.body.getD .skip)) (bodyPost Yba.prog Yba.f3 fun e w' => e = .returned (.bool true) ∧ Below w.heap.size w w') ⟨#[.slice a0 n0 k0, .slice sa sn sc, .slice wa wn wc, u3, u4, u5, u6, u7, u8, .slice (some ⟨gk, 0, none⟩) n0 n0, .slice (some ⟨gl, 0, none⟩) n0 n0, u11, u12, u13, u14, u15, .slice a1 n0 c1, .slice a2 sn c2, .slice a3 wn c3, .pointer (some ⟨nb, 0, none⟩), u20, u21, u22, u23, u24, u25, u26, u27, u28, u29, u30, u31, u32, u33, u34, u35, u36, u37, u38, u39, u40, u41, u42, u43, u44, u45, u46, u47, u48, u49, u50, u51, u52, u53, u54, u55, u56, u57, u58, u59, u60, u61, u62, u63, u64, u65, u66, u67, u68, u69, u70, u71, u72, u73, u74, u75, u76, u77, u78, u79, u80, u81, u82, u83, u84, u85, u86, u87, u88, u89, u90, u91, u92, u93, u94, u95, u96, u97, u98, u99, u100, u101, u102, u103, u104, u105, u106, u107, u108, u109, u110, u111, u112, u113, u114, u115, u116, u117, u118, u119, u120, u121, u122, u123, u124, u125, u126, u127, u128, u129, u130, u131, u132, u133, u134, u135, u136, u137, u138, u139, u140, u141, u142, u143, u144, u145, u146, u147, u148, u149, u150, u151, u152, u153, u154, u155, u156, u157, u158, u159, u160, u161, u162, u163, u164, u165, u166, u167, u168, u169, u170, u171, u172, u173, u174, u175, u176, u177, u178, u179, u180, u181, u182, u183, u184, u185, u186, u187, u188, u189, u190, u191, u192, u193, u194, u195, u196, u197, u198, u199, u200, u201, u202, u203, u204, u205, u206, u207, u208, u209, u210, u211, u212, u213, u214, u215, u216, u217, u218, u219, u220, u221, u222, u223, u224, u225, u226, u227, u228, u229, u230, u231, u232, u233, u234, u235, u236, u237, u238, u239, u240, u241, u242, u243, u244, u245, u246, u247, u248, u249, u250, u251, u252, u253, u254, u255, u256, u257, u258, u259, u260, u261, u262, u263, u264, u265, u266, u267, u268, u269, u270, u271, u272, u273, u274, u275], []⟩ (w4.drewN q0) := by
  conv => arg 2; whnf
  dsimp only
  have hn0 : n0 ≤ 2000000 := hY.srcK.2.2.1
  have hsn : sn ≤ 2000000 := hY.srcS.2.2.1
  have hwn : wn ≤ 2000000 := hY.srcW.2.2.1
  have m1 := hY.m1
  have m2 := hY.m2
  have m3 := hY.m3
  have m4 := hY.m4
  have HY : Hid (YState w w4 nb g0 g1 g2 g3 p0 p1 p2 p3 n0 sn sc wn wc gk c1 c2 c3 sa wa a1 a2 a3 bs xs zs ys) := hY
  clear hY
  go_upto_region 37 with fail
  go_cut [198] (fun v w' => v = .bool false ∧ ∃ q, w' = w4.drewN q)
  case first =>
    by_cases h65 : n0 ≤ 65
    · as_aux_lemma =>
      obtain rfl := HY.out.cap0 h65
      obtain rfl := HY.out.cap3 h65
      have hi65 : (n0 : Int) ≤ 65 := by omega
      go_wp2
      go_meet
      case rel => exact ⟨rfl, _, rfl⟩
    · as_aux_lemma =>
      have hd65 : decide ((n0 : Int) ≤ 65) = false := by simp; omega
      go_wp2
      go_meet
      case rel => exact ⟨rfl, _, rfl⟩
  case rest =>
  rename World => w6
  obtain ⟨rfl, q6, rfl⟩ := hcut
  go_upto_region 39 with fail
  go_cut [209] (fun v w' => v = .bool false ∧ ∃ q, w' = w4.drewN q)
  case first =>
    by_cases h65 : sn ≤ 65
    · as_aux_lemma =>
      obtain rfl := HY.out.cap1 h65
      have hi65 : (sn : Int) ≤ 65 := by omega
      go_wp2
      go_meet
      case rel => exact ⟨rfl, _, rfl⟩
    · as_aux_lemma =>
      have hd65 : decide ((sn : Int) ≤ 65) = false := by simp; omega
      go_wp2
      go_meet
      case rel => exact ⟨rfl, _, rfl⟩
  case rest =>
  rename World => w6
  obtain ⟨rfl, q6, rfl⟩ := hcut
  go_upto_region 41 with fail
  go_cut [220] (fun v w' => v = .bool false ∧ ∃ q, w' = w4.drewN q)
  case first =>
    by_cases h65 : wn ≤ 65
    · as_aux_lemma =>
      obtain rfl := HY.out.cap2 h65
      have hi65 : (wn : Int) ≤ 65 := by omega
      go_wp2
      go_meet
      case rel => exact ⟨rfl, _, rfl⟩
    · as_aux_lemma =>
      have hd65 : decide ((wn : Int) ≤ 65) = false := by simp; omega
      go_wp2
      go_meet
      case rel => exact ⟨rfl, _, rfl⟩
  case rest =>
  rename World => w6
  obtain ⟨rfl, q6, rfl⟩ := hcut
  go_upto_if 220 with fail
  go_cut [6] (fun _ w' => w' = w4.drewN q6)
  case first =>
    go_wp2
    go_meet
    case rel => rfl
  case rest =>
  rename World => w7
  obtain rfl : w7 = w4.drewN q6 := hcut
  go_step
  exact tail3 HY.out

end Go.Proofs.Ybulkdyyy
