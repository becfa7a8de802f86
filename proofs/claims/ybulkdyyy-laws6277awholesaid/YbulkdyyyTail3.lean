/-
  Seat b6277a: the law's last part: the addresses, and that the arguments are left alone.
-/
import Derived.Test.YbulkdyyyLib
import Derived.LaidEqlPtr
import Derived.Deep.DeepCutAuto
namespace Go.Proofs.Ybulkdyyy
open Go.RowKit
set_option linter.unusedVariables false

/-- What is left of a body behind its first k statements. -/
def dropSeq : Nat → Code → Code
  | 0, c => c
  | k + 1, .seq _ b => dropSeq k b
  | _ + 1, c => c

/-- Two addresses in two blocks, one of them a row of the call's own: they differ. -/
theorem run_eql_ptr_far {P : Program} (w : World) {tp te : TypeId} {j : TypeInfo} {a b : Addr} {ca : Array Value} {ta : TypeId} {v : Value} (hp : P.underlying tp = some (.pointer te)) (hte : P.info? te = some j) (hsz : j.size ≠ 0)
    (hne : a.block ≠ b.block) (ha : w.heap[a.block]? = some (.cells ca ta (0, 0))) (hb : w.cell? b = some v) :
    (binOp .eql tp (.pointer (some a)) (.pointer (some b))).run P w = .ok (.bool false) w := by
  obtain ⟨cb, tb, fb, hbh, hbs⟩ : ∃ cb tb fb, w.heap[b.block]? = some (.cells cb tb fb) ∧ 0 < cb.size := by
    unfold World.cell? at hb
    split at hb
    · rename_i c e f hbh
      refine ⟨c, e, f, hbh, ?_⟩
      rcases Nat.eq_zero_or_pos c.size with h0 | h0
      · have : c = #[] := Array.size_eq_zero_iff.1 h0
        subst this
        simp at hb
      · exact h0
    · simp at hb
  have hsame : (sameAddr a b).run P w = .ok false w := by
    obtain ⟨lo, hi⟩ := fb
    have hb0 : cb.size ≠ 0 := by omega
    simp [sameAddr, hne, World.frozen?, ha, hbh, noView, viewAt, World.shape?, mayBeOne, stringish, hb0]
  have h : ∀ d : Nat, (Op.equalIn (d + 1) tp (.pointer (some a)) (.pointer (some b))).run P w = .ok false w := fun d => by
    simp [Op.equalIn, run_underlying hp, sizeOf, typeInfo, hte, hsz, hsame]
  simp only [binOp]
  simp [Op.equal, Op.maxDepth, h 9999]

/-- What the law's last tests find. -/
structure YState (w w4 : World) (nb g0 g1 g2 g3 p0 p1 p2 p3 n0 sn sc wn wc gk c1 c2 c3 : Nat) (sa wa a1 a2 a3 : Option Addr) (bs : List Nat) (xs zs ys : List Int) : Prop where
  m1 : w4.cell? ⟨nb, 1, none⟩ = some (.slice (some ⟨g0, 0, none⟩) n0 p0)
  m2 : w4.cell? ⟨nb, 2, none⟩ = some (.slice (some ⟨g1, 0, none⟩) sn p1)
  m3 : w4.cell? ⟨nb, 3, none⟩ = some (.slice (some ⟨g2, 0, none⟩) wn p2)
  m4 : w4.cell? ⟨nb, 4, none⟩ = some (.slice (some ⟨g3, 0, none⟩) n0 p3)
  cap0 : n0 ≤ 65 → p0 = 65
  cap1 : sn ≤ 65 → p1 = 65
  cap2 : wn ≤ 65 → p2 = 65
  cap3 : n0 ≤ 65 → p3 = 65
  own0 : ∃ B, w4.ownsRow B 28 1 (.slice (some ⟨g0, 0, none⟩) n0 p0) n0 (bs.map (fun b => Value.pointer (some ⟨b, 0, none⟩)))
  own1 : ∃ B, w4.ownsRow B 3 1 (.slice (some ⟨g1, 0, none⟩) sn p1) sn (zs.map (Value.int .i64))
  own2 : ∃ B, w4.ownsRow B 3 1 (.slice (some ⟨g2, 0, none⟩) wn p2) wn (ys.map (Value.int .i64))
  srcK : Src w4 (some ⟨gk, 0, none⟩) n0 n0 (bs.map (fun b => Value.pointer (some ⟨b, 0, none⟩)))
  srcS : Src w4 sa sn sc (zs.map (Value.int .i64))
  srcW : Src w4 wa wn wc (ys.map (Value.int .i64))
  src1 : Src w4 a1 n0 c1 (bs.map (fun b => Value.pointer (some ⟨b, 0, none⟩)))
  src2 : Src w4 a2 sn c2 (zs.map (Value.int .i64))
  src3 : Src w4 a3 wn c3 (ys.map (Value.int .i64))
  far0 : 0 < n0 → g0 ≠ gk
  far1 : ∀ x, sa = some x → 0 < sn → g1 ≠ x.block
  far2 : ∀ x, wa = some x → 0 < wn → g2 ≠ x.block
  below : Below w.heap.size w w4

theorem row_own {w : World} {B : Nat} {e : TypeId} {g n cap : Nat} {xs : List Value} (h : w.ownsRow B e 1 (.slice (some ⟨g, 0, none⟩) n cap) n xs) : ∃ cur, w.heap[g]? = some (.cells cur e (0, 0)) := by
  rcases h.2 with ⟨h', _⟩ | ⟨g', cap', cur, h', _, hg, _⟩
  · cases h'
  · simp only [Value.slice.injEq, Option.some.injEq, Addr.mk.injEq, and_true, true_and] at h'
    obtain ⟨rfl, rfl⟩ := h'
    exact ⟨cur, hg⟩

set_option maxHeartbeats 4000000 in
set_option maxRecDepth 100000 in
theorem tail3 {u3 u4 u5 u6 u7 u8 u11 u12 u13 u14 u15 u20 u21 u22 u23 u24 u25 u26 u27 u28 u29 u30 u31 u32 u33 u34 u35 u36 u37 u38 u39 u40 u41 u42 u43 u44 u45 u46 u47 u48 u49 u50 u51 u52 u53 u54 u55 u56 u57 u58 u59 u60 u61 u62 u63 u64 u65 u66 u67 u68 u69 u70 u71 u72 u73 u74 u75 u76 u77 u78 u79 u80 u81 u82 u83 u84 u85 u86 u87 u88 u89 u90 u91 u92 u93 u94 u95 u96 u97 u98 u99 u100 u101 u102 u103 u104 u105 u106 u107 u108 u109 u110 u111 u112 u113 u114 u115 u116 u117 u118 u119 u120 u121 u122 u123 u124 u125 u126 u127 u128 u129 u130 u131 u132 u133 u134 u135 u136 u137 u138 u139 u140 u141 u142 u143 u144 u145 u146 u147 u148 u149 u150 u151 u152 u153 u154 u155 u156 u157 u158 u159 u160 u161 u162 u163 u164 u165 u166 u167 u168 u169 u170 u171 u172 u173 u174 u175 u176 u177 u178 u179 u180 u181 u182 u183 u184 u185 u186 u187 u188 u189 u190 u191 u192 u193 u194 u195 u196 u197 u198 u199 u200 u201 u202 u203 u204 u205 u206 u207 u208 u209 u210 u211 u212 u213 u214 u215 u216 u217 u218 u219 u220 u221 u222 u223 u224 u225 u226 u227 u228 u229 u230 u231 u232 u233 u234 u235 u236 u237 u238 u239 u240 u241 u242 u243 u244 u245 u246 u247 u248 u249 u250 u251 u252 u253 u254 u255 u256 u257 u258 u259 u260 u261 u262 u263 u264 u265 u266 u267 u268 u269 u270 u271 u272 u273 u274 u275 : Value} {a0 sa wa a1 a2 a3 : Option Addr} {n0 k0 sn sc wn wc gk gl nb g0 g1 g2 g3 p0 p1 p2 p3 c1 c2 c3 : Nat} {bs : List Nat} {xs zs ys : List Int} {w w4 : World} {q0 : Nat} (hY : YState w w4 nb g0 g1 g2 g3 p0 p1 p2 p3 n0 sn sc wn wc gk c1 c2 c3 sa wa a1 a2 a3 bs xs zs ys) :
    Code.wp Yba.prog (dropSeq 17 (Yba.f3.body.getD .skip)) (bodyPost Yba.prog Yba.f3 fun e w' => e = .returned (.bool true) ∧ Below w.heap.size w w') ⟨#[.slice a0 n0 k0, .slice sa sn sc, .slice wa wn wc, u3, u4, u5, u6, u7, u8, .slice (some ⟨gk, 0, none⟩) n0 n0, .slice (some ⟨gl, 0, none⟩) n0 n0, u11, u12, u13, u14, u15, .slice a1 n0 c1, .slice a2 sn c2, .slice a3 wn c3, .pointer (some ⟨nb, 0, none⟩), u20, u21, u22, u23, u24, u25, u26, u27, u28, u29, u30, u31, u32, u33, u34, u35, u36, u37, u38, u39, u40, u41, u42, u43, u44, u45, u46, u47, u48, u49, u50, u51, u52, u53, u54, u55, u56, u57, u58, u59, u60, u61, u62, u63, u64, u65, u66, u67, u68, u69, u70, u71, u72, u73, u74, u75, u76, u77, u78, u79, u80, u81, u82, u83, u84, u85, u86, u87, u88, u89, u90, u91, u92, u93, u94, u95, u96, u97, u98, u99, u100, u101, u102, u103, u104, u105, u106, u107, u108, u109, u110, u111, u112, u113, u114, u115, u116, u117, u118, u119, u120, u121, u122, u123, u124, u125, u126, u127, u128, u129, u130, u131, u132, u133, u134, u135, u136, u137, u138, u139, u140, u141, u142, u143, u144, u145, u146, u147, u148, u149, u150, u151, u152, u153, u154, u155, u156, u157, u158, u159, u160, u161, u162, u163, u164, u165, u166, u167, u168, u169, u170, u171, u172, u173, u174, u175, u176, u177, u178, u179, u180, u181, u182, u183, u184, u185, u186, u187, u188, u189, u190, u191, u192, u193, u194, u195, u196, u197, u198, u199, u200, u201, u202, u203, u204, u205, u206, u207, u208, u209, u210, u211, u212, u213, u214, u215, u216, u217, u218, u219, u220, u221, u222, u223, u224, u225, u226, u227, u228, u229, u230, u231, u232, u233, u234, u235, u236, u237, u238, u239, u240, u241, u242, u243, u244, u245, u246, u247, u248, u249, u250, u251, u252, u253, u254, u255, u256, u257, u258, u259, u260, u261, u262, u263, u264, u265, u266, u267, u268, u269, u270, u271, u272, u273, u274, u275], []⟩ (w4.drewN q0) := by
  conv => arg 2; whnf
  dsimp only
  have hn0 : n0 ≤ 2000000 := hY.srcK.2.2.1
  have hsn : sn ≤ 2000000 := hY.srcS.2.2.1
  have hwn : wn ≤ 2000000 := hY.srcW.2.2.1
  have m1 := hY.m1
  have m2 := hY.m2
  have m3 := hY.m3
  obtain ⟨i28, hi28, -, hz28, -⟩ := info_parts Yba.info28
  obtain ⟨i3, hi3, -, hz3, -⟩ := info_parts Yba.info3
  have hne28 : i28.size ≠ 0 := by omega
  have hne3 : i3.size ≠ 0 := by omega
  have HY : Hid (YState w w4 nb g0 g1 g2 g3 p0 p1 p2 p3 n0 sn sc wn wc gk c1 c2 c3 sa wa a1 a2 a3 bs xs zs ys) := hY
  clear hY
  go_upto_region 43 with fail
  go_cut [233] (fun v w' => v = .bool false ∧ ∃ q, w' = w4.drewN q)
  case first =>
    by_cases hp : 0 < n0
    · as_aux_lemma =>
      obtain ⟨bx, ox, ex, hcx⟩ := HY.out.srcK.at hp
      have hpi : (0 : Int) < (n0 : Int) := by omega
      have hcell := hcx 0 _ (show (bs.map (fun b => Value.pointer (some ⟨b, 0, none⟩)))[0]? = some ((bs.map (fun b => Value.pointer (some ⟨b, 0, none⟩)))[0]'(by have := HY.out.srcK.1; omega)) by simp)
      obtain ⟨Bx, hox⟩ := HY.out.own0
      obtain ⟨cx, hrow⟩ := row_own hox
      have hfar : g0 ≠ bx := by cases ex; exact HY.out.far0 hp
      cases ex
      have heq := fun q => run_eql_ptr_far (P := Yba.prog) (w4.drewN q) (a := ⟨g0, 0, none⟩) (b := ⟨gk, 0, none⟩) Yba.underlying35 hi28 hne28 hfar hrow hcell
      clear hcx hcell hrow hox
      go_quiet (fail)
      go_wp2
      go_meet
      case rel => first | exact ⟨rfl, _, rfl⟩ | exact ⟨rfl, _, World.drewN_drewN _ _ _⟩
    · as_aux_lemma =>
      have hpd : decide ((0 : Int) < (n0 : Int)) = false := by simp; omega
      go_quiet (fail)
      go_wp2
      go_meet
      case rel => first | exact ⟨rfl, _, rfl⟩ | exact ⟨rfl, _, World.drewN_drewN _ _ _⟩
  case rest =>
  rename World => w6
  obtain ⟨rfl, q6, rfl⟩ := hcut
  go_upto_region 45 with fail
  go_cut [246] (fun v w' => v = .bool false ∧ ∃ q, w' = w4.drewN q)
  case first =>
    by_cases hp : 0 < sn
    · as_aux_lemma =>
      obtain ⟨bx, ox, ex, hcx⟩ := HY.out.srcS.at hp
      have hpi : (0 : Int) < (sn : Int) := by omega
      have hcell := hcx 0 _ (show (zs.map (Value.int .i64))[0]? = some ((zs.map (Value.int .i64))[0]'(by have := HY.out.srcS.1; omega)) by simp)
      obtain ⟨Bx, hox⟩ := HY.out.own1
      obtain ⟨cx, hrow⟩ := row_own hox
      have hfar : g1 ≠ bx := HY.out.far1 _ ex hp
      subst ex
      have heq := fun q => run_eql_ptr_far (P := Yba.prog) (w4.drewN q) (a := ⟨g1, 0, none⟩) (b := ⟨bx, ox, none⟩) Yba.underlying36 hi3 hne3 hfar hrow hcell
      clear hcx hcell hrow hox
      go_quiet (fail)
      go_wp2
      go_meet
      case rel => first | exact ⟨rfl, _, rfl⟩ | exact ⟨rfl, _, World.drewN_drewN _ _ _⟩
    · as_aux_lemma =>
      have hpd : decide ((0 : Int) < (sn : Int)) = false := by simp; omega
      go_quiet (fail)
      go_wp2
      go_meet
      case rel => first | exact ⟨rfl, _, rfl⟩ | exact ⟨rfl, _, World.drewN_drewN _ _ _⟩
  case rest =>
  rename World => w6
  obtain ⟨rfl, q6, rfl⟩ := hcut
  go_upto_region 47 with fail
  go_cut [259] (fun v w' => v = .bool false ∧ ∃ q, w' = w4.drewN q)
  case first =>
    by_cases hp : 0 < wn
    · as_aux_lemma =>
      obtain ⟨bx, ox, ex, hcx⟩ := HY.out.srcW.at hp
      have hpi : (0 : Int) < (wn : Int) := by omega
      have hcell := hcx 0 _ (show (ys.map (Value.int .i64))[0]? = some ((ys.map (Value.int .i64))[0]'(by have := HY.out.srcW.1; omega)) by simp)
      obtain ⟨Bx, hox⟩ := HY.out.own2
      obtain ⟨cx, hrow⟩ := row_own hox
      have hfar : g2 ≠ bx := HY.out.far2 _ ex hp
      subst ex
      have heq := fun q => run_eql_ptr_far (P := Yba.prog) (w4.drewN q) (a := ⟨g2, 0, none⟩) (b := ⟨bx, ox, none⟩) Yba.underlying36 hi3 hne3 hfar hrow hcell
      clear hcx hcell hrow hox
      go_quiet (fail)
      go_wp2
      go_meet
      case rel => first | exact ⟨rfl, _, rfl⟩ | exact ⟨rfl, _, World.drewN_drewN _ _ _⟩
    · as_aux_lemma =>
      have hpd : decide ((0 : Int) < (wn : Int)) = false := by simp; omega
      go_quiet (fail)
      go_wp2
      go_meet
      case rel => first | exact ⟨rfl, _, rfl⟩ | exact ⟨rfl, _, World.drewN_drewN _ _ _⟩
  case rest =>
  rename World => w6
  obtain ⟨rfl, q6, rfl⟩ := hcut
  go_wp2_with fail
  refine (equal7 _ _ _ _ _ bs _ (HY.out.srcK.drewN _) (HY.out.src1.drewN _)).mono ?_
  rintro e w5 ⟨rfl, q7, rfl⟩
  go_wp2_with fail
  refine (equal8 _ _ _ _ _ zs _ (HY.out.srcS.drewN _) (HY.out.src2.drewN _)).mono ?_
  rintro e w5 ⟨rfl, q8, rfl⟩
  go_wp2_with fail
  refine (equal8 _ _ _ _ _ ys _ (HY.out.srcW.drewN _) (HY.out.src3.drewN _)).mono ?_
  rintro e w5 ⟨rfl, q9, rfl⟩
  go_wp2
  go_ret
  exact ⟨rfl, by repeat (first | exact HY.out.below | refine below_drewN ?_ _)⟩

end Go.Proofs.Ybulkdyyy
