/-
  The walk of seat b6272a's law, from the making of the closure on.
-/
import Derived.Test.YbulkdywgTail
namespace Go.Proofs.Ybulkdywg
open Go.RowKit


set_option maxHeartbeats 4000000 in
set_option maxRecDepth 100000 in
theorem rest_any {u4 u5 u6 u7 u11 u12 u13 u14 u15 u16 u17 u18 u19 u20 u21 u22 u23 u24 u25 u26 u27 u28 u29 u30 u31 u32 u33 u34 u35 u36 u37 u38 u39 u40 u41 u42 u43 u44 u45 u46 u47 u48 u49 u50 u51 u52 u53 u54 u55 u56 u57 u58 u59 u60 u61 u62 u63 u64 u65 u66 u67 u68 u69 u70 u71 u72 u73 u74 u75 u76 u77 u78 u79 u80 u81 u82 u83 u84 u85 u86 u87 u88 u89 u90 u91 u92 u93 u94 u95 u96 u97 u98 u99 u100 u101 u102 u103 u104 u105 u106 u107 u108 u109 u110 u111 u112 u113 u114 u115 u116 u117 u118 u119 u120 u121 u122 u123 u124 u125 u126 u127 u128 u129 u130 u131 u132 u133 u134 u135 u136 u137 u138 u139 u140 u141 u142 u143 u144 u145 u146 u147 u148 u149 u150 u151 u152 u153 u154 u155 u156 u157 u158 u159 u160 u161 u162 u163 u164 u165 u166 u167 u168 u169 u170 u171 u172 u173 u174 u175 u176 u177 u178 u179 u180 u181 u182 u183 u184 u185 u186 u187 u188 u189 u190 u191 u192 u193 u194 u195 u196 u197 u198 u199 u200 u201 u202 u203 u204 u205 u206 u207 u208 u209 u210 u211 u212 u213 u214 u215 u216 u217 u218 u219 : Value} {a0 a3 : Option Addr} {n0 c0 n3 c3 s0 : Nat} {z0 z3 : List Int} {p q r : Int} {w wm : World} (hn0 : n0 ≤ 1048576) (hn3 : n3 ≤ 1048576) (hs0 : s0 = w.heap.size)
    (hv0 : View .u32 w a0 n0 c0 z0) (hv3 : View .i32 w a3 n3 c3 z3) (hcut : Memb s0 n3 z3 w wm) :
    Code.wp Yba.prog (dropSeq 6 (Yba.f3.body.getD .skip)) (bodyPost Yba.prog Yba.f3 fun e w' => e = .returned (.bool true) ∧ Below w.heap.size w w') ⟨#[.slice a0 n0 c0, .int .u32 p, .int .u32 q, .slice a3 n3 c3, u4, u5, u6, u7, .bool false, .int .u32 r, .pointer (some ⟨s0, 0, none⟩), u11, u12, u13, u14, u15, u16, u17, u18, u19, u20, u21, u22, u23, u24, u25, u26, u27, u28, u29, u30, u31, u32, u33, u34, u35, u36, u37, u38, u39, u40, u41, u42, u43, u44, u45, u46, u47, u48, u49, u50, u51, u52, u53, u54, u55, u56, u57, u58, u59, u60, u61, u62, u63, u64, u65, u66, u67, u68, u69, u70, u71, u72, u73, u74, u75, u76, u77, u78, u79, u80, u81, u82, u83, u84, u85, u86, u87, u88, u89, u90, u91, u92, u93, u94, u95, u96, u97, u98, u99, u100, u101, u102, u103, u104, u105, u106, u107, u108, u109, u110, u111, u112, u113, u114, u115, u116, u117, u118, u119, u120, u121, u122, u123, u124, u125, u126, u127, u128, u129, u130, u131, u132, u133, u134, u135, u136, u137, u138, u139, u140, u141, u142, u143, u144, u145, u146, u147, u148, u149, u150, u151, u152, u153, u154, u155, u156, u157, u158, u159, u160, u161, u162, u163, u164, u165, u166, u167, u168, u169, u170, u171, u172, u173, u174, u175, u176, u177, u178, u179, u180, u181, u182, u183, u184, u185, u186, u187, u188, u189, u190, u191, u192, u193, u194, u195, u196, u197, u198, u199, u200, u201, u202, u203, u204, u205, u206, u207, u208, u209, u210, u211, u212, u213, u214, u215, u216, u217, u218, u219], []⟩ wm := by
  conv => arg 2; whnf
  obtain ⟨ma, mc, gm, hbox, hma, hmc, hbm, hsm⟩ := hcut
  obtain ⟨i29, hi29, hz29, hs29, hy29⟩ := info_parts Yba.info29
  obtain ⟨i37, hi37, hz37, hs37, hy37⟩ := info_parts Yba.info37
  have hb29 : i29.bytes * n0 ≤ 281474976710656 := by rw [hy29]; omega
  have hb37 : i37.bytes * n0 ≤ 281474976710656 := by rw [hy37]; omega
  have hml : n0 ≤ maxLen := by unfold maxLen; omega
  have HBOX : Hid (wm.heap[s0]? = some (.cells #[.slice ma n3 mc] 26 (0, 0))) := hbox
  have HMA : Hid (0 < n3 → ma = some ⟨gm, 0, none⟩ ∧ s0 < gm) := hma
  have HMC : Hid (∀ j, j < n3 → wm.cell? ⟨gm, j, none⟩ = some (.int .i32 (z3.getD j 0))) := hmc
  have HBM : Hid (Below s0 w wm) := hbm
  have HS0 : Hid (s0 = w.heap.size) := hs0
  have HV0 : Hid (View .u32 w a0 n0 c0 z0) := hv0
  have HV3 : Hid (View .i32 w a3 n3 c3 z3) := hv3
  clear hbox hma hmc hbm hs0 hv0 hv3
  go_wp2_with (at_make; refine wpList_make_full _ rfl _ _ 33 rfl (wm.heap.size + 3) 29 i29 (.pointer none) 1 Yba.underlying33 hi29 hz29 hs29 _ _ _ _ n0 rfl rfl rfl rfl hb29 hml (by simp) ?_)
  intro w1 hown1 hgrow1
  have hsz1 : wm.heap.size + 1 + 1 + 1 + 1 ≤ w1.heap.size := (hown1.lt _ rfl).2
  obtain ⟨curL0, hcurL0, hlenL0⟩ := row_of_own hown1
  have hbel1 : Below (wm.heap.size + 1 + 1 + 1) (((wm.alloc (.cells #[.int .i64 0] 3)).alloc (.cells #[.int .u32 0] 25)).alloc (.cells #[.map none, .int .i64 (-1)] 32)) w1 := (Below.refl _ _).grown hgrow1 (by simp) (by intro k hk; cases hk)
  have HROWL : Hid (w1.heap[wm.heap.size + 1 + 1 + 1]? = some (.cells curL0.toArray 29 (0, 0))) := hcurL0
  have HBEL1 : Hid (Below (wm.heap.size + 1 + 1 + 1) (((wm.alloc (.cells #[.int .i64 0] 3)).alloc (.cells #[.int .u32 0] 25)).alloc (.cells #[.map none, .int .i64 (-1)] 32)) w1) := hbel1
  clear hown1 hgrow1 hcurL0 hbel1
  go_wp2_with (at_make; refine wpList_make_full _ rfl _ _ 34 rfl (wm.heap.size + 1 + 1 + 1 + 1) 37 i37 (.agg #[.int .u32 0, .pointer none, .map none, .slice none 0 0]) 4 Yba.underlying34 hi37 hz37 hs37 _ _ _ _ n0 rfl rfl rfl rfl hb37 hml hsz1 ?_)
  intro w2 hown2 hgrow2
  have hsz2 : w1.heap.size + 1 ≤ w2.heap.size := (hown2.lt _ rfl).2
  obtain ⟨curK0, hcurK0, hlenK0⟩ := row_of_own hown2
  have hrowL2 : w2.heap[wm.heap.size + 1 + 1 + 1]? = some (.cells curL0.toArray 29 (0, 0)) := (hgrow2.block _ (by omega) (by simp)).trans HROWL.out
  have hbel2 : Below (wm.heap.size + 1 + 1 + 1) (((wm.alloc (.cells #[.int .i64 0] 3)).alloc (.cells #[.int .u32 0] 25)).alloc (.cells #[.map none, .int .i64 (-1)] 32)) w2 := HBEL1.out.grown hgrow2 (by omega) (by intro k hk; cases hk)
  have HROWL2 : Hid (w2.heap[wm.heap.size + 1 + 1 + 1]? = some (.cells curL0.toArray 29 (0, 0))) := hrowL2
  have HROWK2 : Hid (w2.heap[w1.heap.size]? = some (.cells curK0.toArray 37 (0, 0))) := hcurK0
  have HBEL2 : Hid (Below (wm.heap.size + 1 + 1 + 1) (((wm.alloc (.cells #[.int .i64 0] 3)).alloc (.cells #[.int .u32 0] 25)).alloc (.cells #[.map none, .int .i64 (-1)] 32)) w2) := hbel2
  have hlenL : curL0.length = n0 := by simpa using hlenL0
  clear hown2 hgrow2 hcurK0 hbel2 hrowL2 HROWL HBEL1 hlenL0
  go_wp2
  go_loopw [18, 80] (fun _ i wr => ∃ (k : Nat) (cL cK : List Value) (ps : Nat → Addr), k ≤ n0 ∧ i = .int .i64 k ∧ wr.heap[wm.heap.size + 1 + 1 + 1]? = some (.cells cL.toArray 29 (0, 0)) ∧ cL.length = n0 ∧
      wr.heap[w1.heap.size]? = some (.cells cK.toArray 37 (0, 0)) ∧ cK.length = n0 * 4 ∧ Below (wm.heap.size + 1 + 1 + 1) w2 wr ∧ Hid (Links z0 k ps cL cK)) (fun _ i _ => n0 - (intOf i).toNat)
  case atStart => exact ⟨0, curL0, curK0, fun _ => ⟨0, 0, none⟩, Nat.zero_le _, rfl, HROWL2.out, hlenL, HROWK2.out, hlenK0, Below.refl _ _, fun i hi => by omega⟩
  case round =>
    obtain ⟨k, cL, cK, ps, hk, rfl, hrL, hlL, hrK, hlK, hbl, HLK⟩ := hrel
    have HRL : Hid (wr.heap[wm.heap.size + 1 + 1 + 1]? = some (.cells cL.toArray 29 (0, 0))) := hrL
    have HRK : Hid (wr.heap[w1.heap.size]? = some (.cells cK.toArray 37 (0, 0))) := hrK
    have HBL : Hid (Below (wm.heap.size + 1 + 1 + 1) w2 wr) := hbl
    clear hrL hrK hbl
    have hw1r : w1.heap.size < wr.heap.size := lt_of_block HRK.out
    have hsz3 : wm.heap.size + 1 + 1 + 1 < wr.heap.size := by omega
    by_cases hkn : k < n0
    · obtain ⟨b0, o0, e0, hc0⟩ := HV0.out.at (by omega)
      cases e0
      have g0 := hc0 k hkn
      have hb0 : b0 < w.heap.size := World.block_lt_of_cell? _ _ g0
      have d0 : wr.cell? ⟨b0, o0 + k, none⟩ = some (.int .u32 (z0.getD k 0)) := by
        have hs := HS0.out
        rw [HBL.out.cell (p := ⟨b0, o0 + k, none⟩) (by show b0 < _; omega), HBEL2.out.cell (p := ⟨b0, o0 + k, none⟩) (by show b0 < _; omega)]
        rw [World.cell?_alloc_lt _ _ _ (by show b0 < _; simp; omega), World.cell?_alloc_lt _ _ _ (by show b0 < _; simp; omega), World.cell?_alloc_lt _ _ _ (by show b0 < _; omega), HBM.out.cell (p := ⟨b0, o0 + k, none⟩) (by show b0 < _; omega)]
        exact g0
      have hb0r : b0 < wr.heap.size := by have := HS0.out; omega
      obtain ⟨y, hy⟩ : ∃ y, cL[k]? = some y := ⟨cL[k], by simp⟩
      obtain ⟨y0, hy0⟩ : ∃ y, cK[k * 4]? = some y := ⟨cK[k * 4], by simp⟩
      obtain ⟨y1, hy1⟩ : ∃ y, cK[k * 4 + 1]? = some y := ⟨cK[k * 4 + 1], by simp⟩
      obtain ⟨y2, hy2⟩ : ∃ y, cK[k * 4 + 2]? = some y := ⟨cK[k * 4 + 2], by simp⟩
      obtain ⟨y3, hy3⟩ : ∃ y, cK[k * 4 + 3]? = some y := ⟨cK[k * 4 + 3], by simp⟩
      have dL : wr.cell? ⟨wm.heap.size + 1 + 1 + 1, k, none⟩ = some y := by rw [cell_of_row wr _ _ _ _ _ HRL.out]; simpa using hy
      have fL : wr.frozen? ⟨wm.heap.size + 1 + 1 + 1, k, none⟩ = false := frozen_of_row wr _ k _ _ HRL.out
      have dK0 : wr.cell? ⟨w1.heap.size, k * 4, none⟩ = some y0 := by rw [cell_of_row wr _ _ _ _ _ HRK.out]; simpa using hy0
      have dK1 : wr.cell? ⟨w1.heap.size, k * 4 + 1, none⟩ = some y1 := by rw [cell_of_row wr _ _ _ _ _ HRK.out]; simpa using hy1
      have dK2 : wr.cell? ⟨w1.heap.size, k * 4 + 2, none⟩ = some y2 := by rw [cell_of_row wr _ _ _ _ _ HRK.out]; simpa using hy2
      have dK3 : wr.cell? ⟨w1.heap.size, k * 4 + 3, none⟩ = some y3 := by rw [cell_of_row wr _ _ _ _ _ HRK.out]; simpa using hy3
      have fK0 : wr.frozen? ⟨w1.heap.size, k * 4, none⟩ = false := frozen_of_row wr _ _ _ _ HRK.out
      have fK1 : wr.frozen? ⟨w1.heap.size, k * 4 + 1, none⟩ = false := frozen_of_row wr _ _ _ _ HRK.out
      have fK2 : wr.frozen? ⟨w1.heap.size, k * 4 + 2, none⟩ = false := frozen_of_row wr _ _ _ _ HRK.out
      have fK3 : wr.frozen? ⟨w1.heap.size, k * 4 + 3, none⟩ = false := frozen_of_row wr _ _ _ _ HRK.out
      clear hc0 g0 hy hy0 hy1 hy2 hy3
      have m1 : ¬ w1.heap.size = wm.heap.size + 1 + 1 + 1 := by omega
      have m2 : ¬ wm.heap.size + 1 + 1 + 1 = w1.heap.size := by omega
      have m3 : ¬ b0 = wm.heap.size + 1 + 1 + 1 := by have := HS0.out; omega
      have m4 : ¬ wm.heap.size + 1 + 1 + 1 = b0 := by omega
      generalize hz : z0.getD k 0 = z at d0
      have HZ : Hid (z0.getD k 0 = z) := hz
      clear hz
      go_wp2
      go_region
      go_wp2
      go_roundw
      case rel =>
        obtain ⟨e1, e2, e3⟩ := links_world (k := k) (by omega) hw1r HRL.out HRK.out HBL.out (.pointer (some ⟨wr.heap.size, 0, none⟩)) (.int .u32 z) (.map none) (.slice none 0 0) (.cells #[.map none, .int .i64 k] 32)
        exact ⟨k + 1, _, _, _, by omega, by go_num, e1, by simpa using hlL, e2, by simpa using hlK, e3, links_step HLK.out hkn hlL hlK HZ.out _⟩
      case measure => simp [intOf]; omega
    · obtain rfl : k = n0 := by omega
      obtain ⟨x1, x2, x3, x4⟩ := base_facts hsm HBM.out HBEL2.out HBL.out
      have hws : w.heap.size ≤ wm.heap.size := HBM.out.size
      have HX1 : Hid (wr.heap[wm.heap.size]? = some (.cells #[.int .i64 0] 3 (0, 0))) := x1
      have HX2 : Hid (wr.heap[wm.heap.size + 1]? = some (.cells #[.int .u32 0] 25 (0, 0))) := x2
      have HX3 : Hid (∀ b, b < wm.heap.size → wr.heap[b]? = wm.heap[b]?) := x3
      have HX4 : Hid (Below s0 w wr) := x4
      clear x1 x2 x3 x4
      go_upto_region 26 with fail
      go_upto_region 27 with (refine wpList_build_as rfl 74 #[(4, .tmp 102), (5, .tmp 103), (6, .tmp 104)] rfl (nodeCells (.slice (some ⟨w1.heap.size, 0, none⟩) k k) (.func (.func 4) #[] #[.pointer (some ⟨wm.heap.size, 0, none⟩), .pointer (some ⟨wm.heap.size + 1, 0, none⟩), .pointer (some ⟨s0, 0, none⟩)]) (.pointer (some ⟨wm.heap.size + 1 + 1, 0, none⟩))) (by simp only [List.map_toArray, List.map_cons, List.map_nil]; exact built74 _ _ _ _ _ _ _) ?_)
      go_cut [20] (fun v wx => ∃ nr pp, v = .pointer (some ⟨nr, 0, none⟩) ∧ State w wx s0 wm.heap.size (wm.heap.size + 1) (wm.heap.size + 1 + 1 + 1) w1.heap.size wr.heap.size nr k c0 n3 c3 gm mc ma a0 a3 r ⟨wm.heap.size + 1 + 1, 0, none⟩ pp z0 z3 ps)
      case rest =>
        obtain ⟨nr, pp, rfl, hS⟩ := hcut
        go_step
        exact tail_any hn0 hn3 hS
      case first =>
        have hcall := roster_any s0 wr.heap.size w1.heap.size k wm.heap.size (wm.heap.size + 1) s0 z0 ps ⟨wm.heap.size + 1 + 1, 0, none⟩ r ma n3 mc (wr.alloc (.cells (nodeCells (.slice (some ⟨w1.heap.size, 0, none⟩) k k) (.func (.func 4) #[] #[.pointer (some ⟨wm.heap.size, 0, none⟩), .pointer (some ⟨wm.heap.size + 1, 0, none⟩), .pointer (some ⟨s0, 0, none⟩)]) (.pointer (some ⟨wm.heap.size + 1 + 1, 0, none⟩))) 74)) hn0 (by omega) (by omega) (by omega) (by omega) (by omega) (by omega) (by omega)
          (by rw [Below.heap_alloc _ _ _ (by omega)]; exact HX1.out) (by rw [Below.heap_alloc _ _ _ (by omega)]; exact HX2.out) (by rw [Below.heap_alloc _ _ _ (by omega), HX3.out _ hsm]; exact HBOX.out)
          (by rw [World.cell?_alloc_new]; rfl) (by rw [World.cell?_alloc_new]; rfl) (by rw [World.cell?_alloc_new]; rfl) (by simp) (by intro _; simp; omega)
          (fun i hi => by
            obtain ⟨e1, e2, e3, e4, e5⟩ := HLK.out i hi
            have hcell : ∀ o, (wr.alloc (.cells (nodeCells (.slice (some ⟨w1.heap.size, 0, none⟩) k k) (.func (.func 4) #[] #[.pointer (some ⟨wm.heap.size, 0, none⟩), .pointer (some ⟨wm.heap.size + 1, 0, none⟩), .pointer (some ⟨s0, 0, none⟩)]) (.pointer (some ⟨wm.heap.size + 1 + 1, 0, none⟩))) 74)).cell? ⟨w1.heap.size, o, none⟩ = cK[o]? := fun o => by
              rw [World.cell?_alloc_lt _ _ _ hw1r, cell_of_row wr _ _ _ _ _ HRK.out]; simp
            exact ⟨(hcell _).trans e2, (hcell _).trans e3, (hcell _).trans e4, (hcell _).trans e5⟩)
        go_wp2_with fail
        refine hcall.mono ?_
        clear hcall
        rintro e w3 ⟨pp, rfl, hF, hA⟩
        have hgm : 0 < n3 → gm < wm.heap.size := fun h => World.block_lt_of_cell? _ _ (HMC.out 0 h)
        have HST : Hid (State w (w3.alloc (.cells #[.slice ma n3 mc, .pointer (some pp)] 76)) s0 wm.heap.size (wm.heap.size + 1) (wm.heap.size + 1 + 1 + 1) w1.heap.size wr.heap.size w3.heap.size k c0 n3 c3 gm mc ma a0 a3 r ⟨wm.heap.size + 1 + 1, 0, none⟩ pp z0 z3 ps) :=
          state_of HS0.out HV0.out HV3.out HX4.out hA hF HRL.out HRK.out HLK.out ((HX3.out _ hsm).trans HBOX.out)
            (fun j hj => (World.cell?_of_block (w := wm) (HX3.out gm (hgm (by omega)))).trans (HMC.out j hj)) HMA.out rfl rfl (by omega) (by omega) (by omega) (by omega) (by omega) (by omega)
            (fun h => by have := hgm h; omega) (fun h => by have := hgm h; omega) (by omega) (by omega)
        clear hF hA hgm
        go_wp2
        go_meet
        case rel => exact ⟨_, _, rfl, HST.out⟩

end Go.Proofs.Ybulkdywg
