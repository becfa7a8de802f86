/-
  Seat b6277a: the law makes its children, and goes on.
-/
import Derived.Test.YbulkdyyyKids
import Derived.OwnWalk
import Derived.Deep.CutBlock
namespace Go.Proofs.Ybulkdyyy
open Go.RowKit
set_option linter.unusedVariables false

/-- What came in as the k-th child: a slice of numbers and a Boolean. -/
def KidIn (w : World) (a0 : Option Addr) (k : Nat) : Prop :=
  ∃ (b o : Nat) (va : Option Addr) (vn vc : Nat) (vs : List Int) (q : Bool), a0 = some ⟨b, o, none⟩ ∧ w.cell? ⟨b, o + k * 2, none⟩ = some (.slice va vn vc) ∧ w.cell? ⟨b, o + k * 2 + 1, none⟩ = some (.bool q) ∧ Src w va vn vc (vs.map (Value.int .i64))

theorem one_cell {w : World} {t : TypeId} {v : Value} {g : Nat} (hg : g = w.heap.size) : ∀ j u, [v][j]? = some u → (w.alloc (.cells #[v] t)).cell? ((⟨g, 0, none⟩ : Addr).add j) = some u := by
  intro j u hj
  match j, hj with
  | 0, hj =>
    simp at hj
    subst hj hg
    rw [Addr.add_lit]
    exact World.cell?_alloc_new _ _ _ 0

theorem cell_new {w : World} {t : TypeId} {cs : Array Value} {v : Value} {g i : Nat} (hg : g = w.heap.size) (hv : cs[i]? = some v) : (w.alloc (.cells cs t)).cell? ⟨g, i, none⟩ = some v := by
  subst hg
  rw [← hv]
  exact World.cell?_alloc_new _ _ _ i

theorem cell_old {w : World} {X : Obj} {p : Addr} {v : Value} (h : w.cell? p = some v) : (w.alloc X).cell? p = some v := (World.cell?_alloc_lt _ _ _ (World.block_lt_of_cell? _ _ h)).trans h

set_option maxHeartbeats 4000000 in
set_option maxRecDepth 100000 in
theorem head2 {u3 u4 u5 u7 u8 u9 u10 u11 u12 u13 u14 u15 u16 u17 u18 u19 u20 u21 u22 u23 u24 u25 u26 u27 u28 u29 u30 u31 u32 u33 u34 u35 u36 u37 u38 u39 u40 u41 u42 u43 u44 u45 u46 u47 u48 u49 u50 u51 u52 u53 u54 u55 u56 u57 u58 u59 u60 u61 u62 u63 u64 u65 u66 u67 u68 u69 u70 u71 u72 u73 u74 u75 u76 u77 u78 u79 u80 u81 u82 u83 u84 u85 u86 u87 u88 u89 u90 u91 u92 u93 u94 u95 u96 u97 u98 u99 u100 u101 u102 u103 u104 u105 u106 u107 u108 u109 u110 u111 u112 u113 u114 u115 u116 u117 u118 u119 u120 u121 u122 u123 u124 u125 u126 u127 u128 u129 u130 u131 u132 u133 u134 u135 u136 u137 u138 u139 u140 u141 u142 u143 u144 u145 u146 u147 u148 u149 u150 u151 u152 u153 u154 u155 u156 u157 u158 u159 u160 u161 u162 u163 u164 u165 u166 u167 u168 u169 u170 u171 u172 u173 u174 u175 u176 u177 u178 u179 u180 u181 u182 u183 u184 u185 u186 u187 u188 u189 u190 u191 u192 u193 u194 u195 u196 u197 u198 u199 u200 u201 u202 u203 u204 u205 u206 u207 u208 u209 u210 u211 u212 u213 u214 u215 u216 u217 u218 u219 u220 u221 u222 u223 u224 u225 u226 u227 u228 u229 u230 u231 u232 u233 u234 u235 u236 u237 u238 u239 u240 u241 u242 u243 u244 u245 u246 u247 u248 u249 u250 u251 u252 u253 u254 u255 u256 u257 u258 u259 u260 u261 u262 u263 u264 u265 u266 u267 u268 u269 u270 u271 u272 u273 u274 u275 : Value} {a0 sa wa : Option Addr} {n0 k0 sn sc wn wc : Nat} {zs ys : List Int} {w0 w : World}
    (hin : ∀ k, k < n0 → KidIn w a0 k) (hn0 : n0 ≤ 2000000) (hS : Src w sa sn sc (zs.map (Value.int .i64))) (hW : Src w wa wn wc (ys.map (Value.int .i64))) (hb : Below w0.heap.size w0 w) :
    Code.wp Yba.prog (dropSeq 4 (Yba.f3.body.getD .skip)) (bodyPost Yba.prog Yba.f3 fun e w' => e = .returned (.bool true) ∧ Below w0.heap.size w0 w') ⟨#[.slice a0 n0 k0, .slice sa sn sc, .slice wa wn wc, u3, u4, u5, .bool false, u7, u8, u9, u10, u11, u12, u13, u14, u15, u16, u17, u18, u19, u20, u21, u22, u23, u24, u25, u26, u27, u28, u29, u30, u31, u32, u33, u34, u35, u36, u37, u38, u39, u40, u41, u42, u43, u44, u45, u46, u47, u48, u49, u50, u51, u52, u53, u54, u55, u56, u57, u58, u59, u60, u61, u62, u63, u64, u65, u66, u67, u68, u69, u70, u71, u72, u73, u74, u75, u76, u77, u78, u79, u80, u81, u82, u83, u84, u85, u86, u87, u88, u89, u90, u91, u92, u93, u94, u95, u96, u97, u98, u99, u100, u101, u102, u103, u104, u105, u106, u107, u108, u109, u110, u111, u112, u113, u114, u115, u116, u117, u118, u119, u120, u121, u122, u123, u124, u125, u126, u127, u128, u129, u130, u131, u132, u133, u134, u135, u136, u137, u138, u139, u140, u141, u142, u143, u144, u145, u146, u147, u148, u149, u150, u151, u152, u153, u154, u155, u156, u157, u158, u159, u160, u161, u162, u163, u164, u165, u166, u167, u168, u169, u170, u171, u172, u173, u174, u175, u176, u177, u178, u179, u180, u181, u182, u183, u184, u185, u186, u187, u188, u189, u190, u191, u192, u193, u194, u195, u196, u197, u198, u199, u200, u201, u202, u203, u204, u205, u206, u207, u208, u209, u210, u211, u212, u213, u214, u215, u216, u217, u218, u219, u220, u221, u222, u223, u224, u225, u226, u227, u228, u229, u230, u231, u232, u233, u234, u235, u236, u237, u238, u239, u240, u241, u242, u243, u244, u245, u246, u247, u248, u249, u250, u251, u252, u253, u254, u255, u256, u257, u258, u259, u260, u261, u262, u263, u264, u265, u266, u267, u268, u269, u270, u271, u272, u273, u274, u275], []⟩ w := by
  conv => arg 2; whnf
  dsimp only
  obtain ⟨i8, hi8, hz8, hs8, hb8⟩ := info_parts Yba.info28
  obtain ⟨i3, hi3, hz3, hs3, hb3⟩ := info_parts Yba.info3
  have HIN : Hid (∀ k, k < n0 → KidIn w a0 k) := hin
  have HS : Hid (Src w sa sn sc (zs.map (Value.int .i64))) := hS
  have HW : Hid (Src w wa wn wc (ys.map (Value.int .i64))) := hW
  have HB : Hid (Below w0.heap.size w0 w) := hb
  clear hin hS hW hb
  go_upto_region 12 with (at_make; refine wpList_make_own _ rfl _ _ 26 rfl w.heap.size 28 i8 (.pointer none) 1 Yba.underlying26 hi8 hz8 hs8 .i64 .i64 _ n0 rfl rfl rfl (by rw [hb8]; omega) (by unfold maxLen; omega) (Nat.le_refl _) ?_; intro w1 hown1 hgrow1)
  go_cut [10] (fun vl w2 => vl = .slice (some ⟨w1.heap.size, 0, none⟩) 0 n0 ∧ w2.ownsRow w.heap.size 3 1 (.slice (some ⟨w1.heap.size, 0, none⟩) 0 n0) 0 [] ∧ w1.grownBy w2 none)
  case first =>
    go_wp2_with (at_make; refine wpList_make_own _ rfl _ _ 23 rfl w.heap.size 3 i3 (.int .i64 0) 1 Yba.underlying23 hi3 hz3 hs3 .i64 .i64 _ n0 rfl rfl rfl (by rw [hb3]; omega) (by unfold maxLen; omega) hgrow1.size ?_; intro w2 hown2 hgrow2)
    go_meet
    case rel => exact ⟨rfl, hown2, hgrow2⟩
  case rest =>
  rename World => w2
  obtain ⟨rfl, hown2, hgrow2⟩ := hcut
  go_step
  go_step
  have l1 : w.heap.size < w1.heap.size := (hown1.lt _ rfl).2
  have l2 : w1.heap.size < w2.heap.size := (hown2.lt _ rfl).2
  obtain ⟨gk, hgk⟩ : ∃ g, g = w.heap.size := ⟨_, rfl⟩
  obtain ⟨gl, hgl⟩ : ∃ g, g = w1.heap.size := ⟨_, rfl⟩
  have HK0 : Hid (Kids w2.heap.size w w2 gk gl n0 0 [] []) := by
    subst hgk hgl
    exact ⟨⟨hgrow2.os.trans hgrow1.os, hgrow2.tape.trans hgrow1.tape, hgrow2.output.trans hgrow1.output, Nat.le_trans hgrow1.size hgrow2.size, fun j hj => (hgrow2.block j (Nat.lt_of_lt_of_le hj hgrow1.size) (by simp)).trans (hgrow1.block j hj (by simp))⟩,
      Nat.le_refl _, hown1.kept hgrow2 (.inr (by simp [Value.ownBlock])), hown2, by omega, by omega, by omega, fun j hj => by omega⟩
  obtain ⟨B1, hB1⟩ : ∃ B, B = w2.heap.size := ⟨_, rfl⟩
  rw [← hgk, ← hgl]
  rw [← hB1] at HK0
  clear hown1 hgrow1 hown2 hgrow2 hgk hgl l1 l2 hB1
  go_cut [9, 10] (fun vk vl wx => vk = .slice (some ⟨gk, 0, none⟩) n0 n0 ∧ vl = .slice (some ⟨gl, 0, none⟩) n0 n0 ∧ ∃ (bs : List Nat) (xs : List Int), Hid (Kids B1 w wx gk gl n0 n0 bs xs))
  case first =>
    go_wp2_with fail
    go_loopw [9, 10, 53] (fun vk vl i wr => ∃ (k : Nat) (bs : List Nat) (xs : List Int), k ≤ n0 ∧ i = .int .i64 k ∧ vk = .slice (some ⟨gk, 0, none⟩) k n0 ∧ vl = .slice (some ⟨gl, 0, none⟩) k n0 ∧ Hid (Kids B1 w wr gk gl n0 k bs xs)) (fun _ _ i _ => n0 - (intOf i).toNat)
    case atStart => exact ⟨0, [], [], Nat.zero_le _, rfl, rfl, rfl, HK0⟩
    case round =>
      obtain ⟨k, bs, xs, hkk, rfl, rfl, rfl, HK⟩ := hrel
      by_cases hlt : k < n0
      · obtain ⟨b, o, va, vn, vc, vs, q, rfl, hc0, hc1, hsv⟩ := HIN.out k hlt
        have kk : (k : Int) < (n0 : Int) := by omega
        have hlb : ∀ {p v}, w.cell? p = some v → wr.cell? p = some v := fun {p v} h => by rw [HK.out.below.cell (World.block_lt_of_cell? _ _ h)]; exact h
        have hd0 := hlb hc0
        have hd1 := hlb hc1
        have HV : Hid (Src wr va vn vc (vs.map (Value.int .i64))) := hsv.below HK.out.below (Nat.le_refl _)
        have hvn : vn ≤ 2000000 := hsv.2.2.1
        have hvl : vs.length = vn := by simpa using hsv.1
        clear hlb hc0 hc1 hsv
        go_wp2_with fail
        refine (clone4 _ _ _ _ _ HV.out).mono ?_
        rintro e w3 ⟨⟨a', c', rfl, hsv, hgv⟩, hbv⟩
        have HB3 : Hid (Below wr.heap.size wr w3) := hbv
        have HSV : Hid (Src w3 a' vn c' (vs.map (Value.int .i64))) := hsv
        have HGV : Hid (0 < vn → ∃ g, wr.heap.size ≤ g ∧ a' = some ⟨g, 0, none⟩) := hgv
        have hs3r : wr.heap.size ≤ w3.heap.size := hbv.size
        have hbl : b < w3.heap.size := Nat.lt_of_lt_of_le (World.block_lt_of_cell? _ _ hd1) hs3r
        have hd3 : w3.cell? ⟨b, o + k * 2 + 1, none⟩ = some (.bool q) := by rw [hbv.cell (World.block_lt_of_cell? _ _ hd1)]; exact hd1
        have hal1 : ∀ x, (w3.alloc x).cell? ⟨b, o + k * 2 + 1, none⟩ = some (.bool q) := fun x => (World.cell?_alloc_lt _ _ _ (by exact hbl)).trans hd3
        have hal2 : ∀ x y, ((w3.alloc x).alloc y).cell? ⟨b, o + k * 2 + 1, none⟩ = some (.bool q) := fun x y => (World.cell?_alloc_lt _ _ _ (by simp; omega)).trans (hal1 x)
        clear hsv hgv hbv hd0 hd1
        have hB1r : B1 ≤ wr.heap.size := HK.out.size
        by_cases hv0 : vn = 0
        · subst hv0
          have HLAST : Hid True := trivial
          cases q
          · as_aux_lemma =>
            go_wp2_with (first | (at_builtin; refine wpList_append_fits _ rfl _ _ 26 rfl w.heap.size 28 i8 1 Yba.underlying26 hi8 hs8 gk k n0 _ rfl (by exact kids_ownK HK.out (by repeat (first | exact HB3.out | refine below_drewN ?_ _ | refine Below.alloc ?_ (by first | omega | (simp; omega)) _)) _) _ 1 1 [_] rfl rfl (by exact one_cell (by simp)) (by intro u hu; cases List.mem_singleton.1 hu; rfl) (by omega) ?_; intro w7 hown7 hgrow7; have HO7 : Hid _ := hown7; have HG7 : Hid _ := hgrow7; clear hown7 hgrow7) | (at_builtin; refine wpList_append_fits _ rfl _ _ 23 rfl w.heap.size 3 i3 1 Yba.underlying23 hi3 hs3 gl k n0 _ rfl (by exact kids_ownL HK.out (by repeat (first | exact HB3.out | refine below_drewN ?_ _ | refine Below.alloc ?_ (by first | omega | (simp; omega)) _)) _ HG7.out _) _ 1 1 [_] rfl rfl (by exact one_cell (by simp)) (by intro u hu; cases List.mem_singleton.1 hu; rfl) (by omega) ?_; intro w9 hown9 hgrow9; have HO9 : Hid _ := hown9; have HG9 : Hid _ := hgrow9; clear hown9 hgrow9))
            go_roundw
            case rel =>
              refine ⟨k + 1, bs ++ [_], xs ++ [_], by omega, by go_num, rfl, rfl, kids_step HK.out (by repeat (first | exact HB3.out | refine below_drewN ?_ _ | refine Below.alloc ?_ (by first | omega | (simp; omega)) _)) ?_ HG7.out HO7.out HG9.out HO9.out⟩
              refine ⟨by omega, .inl ⟨?c1, w3.heap.size, 0, 1, ?hB, ?c0, ?hm, ?cl⟩⟩
              case c1 => (repeat (first | exact HLAST.out | exact cell_new (by simp) rfl | refine cell_old ?_))
              case c0 => (repeat (first | exact HLAST.out | exact cell_new (by simp) rfl | refine cell_old ?_))
              case hB => omega
              case hm => omega
              case cl => (repeat (first | exact HLAST.out | exact cell_new (by simp) rfl | refine cell_old ?_))
            case measure => simp [intOf]; omega
          · as_aux_lemma =>
            go_wp2_with (first | (at_builtin; refine wpList_append_fits _ rfl _ _ 26 rfl w.heap.size 28 i8 1 Yba.underlying26 hi8 hs8 gk k n0 _ rfl (by exact kids_ownK HK.out (by repeat (first | exact HB3.out | refine below_drewN ?_ _ | refine Below.alloc ?_ (by first | omega | (simp; omega)) _)) _) _ 1 1 [_] rfl rfl (by exact one_cell (by simp)) (by intro u hu; cases List.mem_singleton.1 hu; rfl) (by omega) ?_; intro w7 hown7 hgrow7; have HO7 : Hid _ := hown7; have HG7 : Hid _ := hgrow7; clear hown7 hgrow7) | (at_builtin; refine wpList_append_fits _ rfl _ _ 23 rfl w.heap.size 3 i3 1 Yba.underlying23 hi3 hs3 gl k n0 _ rfl (by exact kids_ownL HK.out (by repeat (first | exact HB3.out | refine below_drewN ?_ _ | refine Below.alloc ?_ (by first | omega | (simp; omega)) _)) _ HG7.out _) _ 1 1 [_] rfl rfl (by exact one_cell (by simp)) (by intro u hu; cases List.mem_singleton.1 hu; rfl) (by omega) ?_; intro w9 hown9 hgrow9; have HO9 : Hid _ := hown9; have HG9 : Hid _ := hgrow9; clear hown9 hgrow9))
            go_roundw
            case rel =>
              refine ⟨k + 1, bs ++ [_], xs ++ [_], by omega, by go_num, rfl, rfl, kids_step HK.out (by repeat (first | exact HB3.out | refine below_drewN ?_ _ | refine Below.alloc ?_ (by first | omega | (simp; omega)) _)) ?_ HG7.out HO7.out HG9.out HO9.out⟩
              refine ⟨by omega, .inr ⟨⟨w3.heap.size + 1 + 1, 0, none⟩, 1, 1, w3.heap.size + 1 + 1 + 1 + 1 + 1, ?hB, ?c1, ?c0, ?cl⟩⟩
              case c1 => (repeat (first | exact HLAST.out | exact cell_new (by simp) rfl | refine cell_old ?_))
              case c0 => (repeat (first | exact HLAST.out | exact cell_new (by simp) rfl | refine cell_old ?_))
              case hB => omega
              case cl => (repeat (first | exact HLAST.out | exact cell_new (by simp) rfl | refine cell_old ?_))
            case measure => simp [intOf]; omega
        · obtain ⟨m, rfl⟩ : ∃ m, vn = m + 1 := ⟨vn - 1, by omega⟩
          obtain ⟨g, hgw, rfl⟩ := HGV.out (by omega)
          obtain ⟨y, hy⟩ : ∃ y, vs.getD m 0 = y := ⟨_, rfl⟩
          have hlast : w3.cell? ⟨g, m, none⟩ = some (.int .i64 y) := by
            obtain ⟨b1, o1, e1, hc1⟩ := HSV.out.at (by omega)
            cases e1
            have := hc1 m (.int .i64 y) (by rw [← hy]; simp [show m < vs.length by omega])
            simpa using this
          have hgl3 : g < w3.heap.size := World.block_lt_of_cell? _ _ hlast
          have HLAST : Hid (w3.cell? ⟨g, m, none⟩ = some (.int .i64 y)) := hlast
          clear hy
          have hmz : decide ((m : Int) + 1 = 0) = false := by simp; omega
          cases q
          · as_aux_lemma =>
            go_wp2_with (first | (at_builtin; refine wpList_append_fits _ rfl _ _ 26 rfl w.heap.size 28 i8 1 Yba.underlying26 hi8 hs8 gk k n0 _ rfl (by exact kids_ownK HK.out (by repeat (first | exact HB3.out | refine below_drewN ?_ _ | refine Below.alloc ?_ (by first | omega | (simp; omega)) _)) _) _ 1 1 [_] rfl rfl (by exact one_cell (by simp)) (by intro u hu; cases List.mem_singleton.1 hu; rfl) (by omega) ?_; intro w7 hown7 hgrow7; have HO7 : Hid _ := hown7; have HG7 : Hid _ := hgrow7; clear hown7 hgrow7) | (at_builtin; refine wpList_append_fits _ rfl _ _ 23 rfl w.heap.size 3 i3 1 Yba.underlying23 hi3 hs3 gl k n0 _ rfl (by exact kids_ownL HK.out (by repeat (first | exact HB3.out | refine below_drewN ?_ _ | refine Below.alloc ?_ (by first | omega | (simp; omega)) _)) _ HG7.out _) _ 1 1 [_] rfl rfl (by exact one_cell (by simp)) (by intro u hu; cases List.mem_singleton.1 hu; rfl) (by omega) ?_; intro w9 hown9 hgrow9; have HO9 : Hid _ := hown9; have HG9 : Hid _ := hgrow9; clear hown9 hgrow9))
            go_roundw
            case rel =>
              refine ⟨k + 1, bs ++ [_], xs ++ [_], by omega, by go_num, rfl, rfl, kids_step HK.out (by repeat (first | exact HB3.out | refine below_drewN ?_ _ | refine Below.alloc ?_ (by first | omega | (simp; omega)) _)) ?_ HG7.out HO7.out HG9.out HO9.out⟩
              refine ⟨by omega, .inl ⟨?c1, g, m, c', ?hB, ?c0, ?hm, ?cl⟩⟩
              case c1 => (repeat (first | exact HLAST.out | exact cell_new (by simp) rfl | refine cell_old ?_))
              case c0 => (repeat (first | exact HLAST.out | exact cell_new (by simp) rfl | refine cell_old ?_))
              case hB => omega
              case hm => omega
              case cl => (repeat (first | exact HLAST.out | exact cell_new (by simp) rfl | refine cell_old ?_))
            case measure => simp [intOf]; omega
          · as_aux_lemma =>
            go_wp2_with (first | (at_builtin; refine wpList_append_fits _ rfl _ _ 26 rfl w.heap.size 28 i8 1 Yba.underlying26 hi8 hs8 gk k n0 _ rfl (by exact kids_ownK HK.out (by repeat (first | exact HB3.out | refine below_drewN ?_ _ | refine Below.alloc ?_ (by first | omega | (simp; omega)) _)) _) _ 1 1 [_] rfl rfl (by exact one_cell (by simp)) (by intro u hu; cases List.mem_singleton.1 hu; rfl) (by omega) ?_; intro w7 hown7 hgrow7; have HO7 : Hid _ := hown7; have HG7 : Hid _ := hgrow7; clear hown7 hgrow7) | (at_builtin; refine wpList_append_fits _ rfl _ _ 23 rfl w.heap.size 3 i3 1 Yba.underlying23 hi3 hs3 gl k n0 _ rfl (by exact kids_ownL HK.out (by repeat (first | exact HB3.out | refine below_drewN ?_ _ | refine Below.alloc ?_ (by first | omega | (simp; omega)) _)) _ HG7.out _) _ 1 1 [_] rfl rfl (by exact one_cell (by simp)) (by intro u hu; cases List.mem_singleton.1 hu; rfl) (by omega) ?_; intro w9 hown9 hgrow9; have HO9 : Hid _ := hown9; have HG9 : Hid _ := hgrow9; clear hown9 hgrow9))
            go_roundw
            case rel =>
              refine ⟨k + 1, bs ++ [_], xs ++ [_], by omega, by go_num, rfl, rfl, kids_step HK.out (by repeat (first | exact HB3.out | refine below_drewN ?_ _ | refine Below.alloc ?_ (by first | omega | (simp; omega)) _)) ?_ HG7.out HO7.out HG9.out HO9.out⟩
              refine ⟨by omega, .inr ⟨⟨w3.heap.size + 1, 0, none⟩, 1, 1, w3.heap.size + 1 + 1 + 1 + 1, ?hB, ?c1, ?c0, ?cl⟩⟩
              case c1 => (repeat (first | exact HLAST.out | exact cell_new (by simp) rfl | refine cell_old ?_))
              case c0 => (repeat (first | exact HLAST.out | exact cell_new (by simp) rfl | refine cell_old ?_))
              case hB => omega
              case cl => (repeat (first | exact HLAST.out | exact cell_new (by simp) rfl | refine cell_old ?_))
            case measure => simp [intOf]; omega
      · obtain rfl : k = n0 := by omega
        go_wp2_with fail
        go_meet
        case rel => exact ⟨rfl, rfl, bs, xs, HK⟩
  case rest =>
  rename World => wd
  obtain ⟨rfl, rfl, bs, xs, HKD⟩ := hcut
  have hbd : Below w.heap.size w wd := HKD.out.below
  go_step
  exact tail1 (src_of_own HKD.out.ownK (by intro u hu; obtain ⟨_, _, rfl⟩ := List.mem_map.1 hu; rfl) hn0) (src_of_own HKD.out.ownL (ints_oneCell _ _) hn0) (HS.out.below hbd (Nat.le_refl _)) (HW.out.below hbd (Nat.le_refl _)) (fun j hj => (HKD.out.kid j hj).ok) (HB.out.trans (hbd.mono HB.out.size))

end Go.Proofs.Ybulkdyyy
