/-
  Seat b6277aF: the law, from the loop of the wanted on.
-/
import Derived.Test.YbulkdyyyFmtL9
namespace Go.Proofs.YbulkdyyyFmt
open Go.RowKit Go.Sort Go.Shelf
set_option linter.unusedVariables false
set_option linter.unnecessarySimpa false

theorem infoI3 : (Ybaf.prog.info? 3).map (fun i => (i.zero, i.size, i.bytes)) = some (some (.int .i64 0), 1, 8) := by kernel_rfl
theorem one_int {w : World} {b x : Nat} (h : Blk w b #[.int .i64 x]) : ∀ j u, ([x].flatMap intCells)[j]? = some u → w.cell? ((⟨b, 0, none⟩ : Addr).add j) = some u := by
  intro j u hu
  rw [Addr.add_lit, h.cell, Nat.zero_add]
  simpa [intCells] using hu

/-- What the second loop has laid. -/
structure Wanted (wc : World) (xs : List Sn) (zs : List Zl) (k : Nat) (wr : World) (aw : Option Addr) (m cw : Nat) : Prop where
  row : Row intCells 1 wr aw m cw (wants xs zs k)
  nil : aw = none ↔ wants xs zs k = []
  far : ∀ b, blkOf aw = some b → wc.heap.size ≤ b
  kept : Kept (fun _ => False) wc wr

set_option maxHeartbeats 4000000 in
set_option maxRecDepth 100000 in
theorem tail8 {u2 u3 u4 u5 u6 u7 u11 u12 u13 u14 u15 u16 u17 u18 u19 u20 u21 u22 u23 u24 u25 u26 u27 u28 u29 u30 u31 u32 u33 u34 u35 u36 u37 u38 u39 u40 u41 u42 u43 u44 u45 u46 u47 u48 u49 u50 u51 u52 u53 u54 u55 u56 u57 u58 u59 u60 u61 u62 u63 u64 u65 u66 u67 u68 u69 u70 u71 u72 u73 u74 u75 u76 u77 u78 u79 u80 u81 u82 u83 u84 u85 u86 u87 u88 u89 u90 u91 u92 u93 u94 u95 u96 u97 u98 u99 u100 u101 u102 u103 u104 u105 u106 u107 u108 u109 u110 u111 u112 u113 u114 u115 u116 u117 u118 u119 u120 u121 u122 u123 u124 u125 u126 u127 u128 u129 u130 u131 u132 u133 u134 u135 u136 u137 u138 u139 u140 u141 u142 u143 u144 u145 u146 u147 u148 u149 u150 u151 u152 u153 u154 u155 u156 u157 u158 u159 u160 u161 u162 u163 u164 u165 u166 u167 u168 u169 u170 u171 u172 u173 u174 u175 u176 u177 u178 u179 u180 u181 u182 u183 u184 u185 u186 u187 u188 u189 u190 u191 u192 u193 : Value} {a0 a1 a9 : Option Addr} {n0 k0 n1 k1 k9 db dd : Nat} {xs : List Sn} {zs : List Zl} {vs : List Ln} {root : Option Addr} {w wc : World} (h0 : n0 ≤ 4096) (h1 : n1 ≤ 4096) (hl : xs.length = n1) (hs1 : SpAt wc a1 xs) (hs9 : SpAt wc a9 xs) (hd : wc.cell? ⟨db, 20, none⟩ = some (.int .i64 n0)) (hk : Kept (fun _ => False) w wc)
    (hln : LnAt wc a0 zs) (hzn : zs.length = n0) (hlaid : Laid wc zs vs) (hd1 : wc.cell? ⟨db, 19, none⟩ = some (.pointer root)) (hd2 : wc.cell? ⟨db, 24, none⟩ = some (.int .i64 0)) (hrope : RopeN Ln.cells 3 dd wc root vs)
    (hws : WideS xs) (hwz : ∀ z ∈ zs, U64 z.site) (hv1 : ∀ b, blkOf a1 = some b → b < wc.heap.size) :
    Code.wp Ybaf.prog (dropSeq 8 (Ybaf.f4.body.getD .skip)) (bodyPost Ybaf.prog Ybaf.f4 fun e w' => e = .returned (.bool true) ∧ Kept (fun _ => False) w w') ⟨#[.slice a0 n0 k0, .slice a1 n1 k1, u2, u3, u4, u5, u6, u7, .pointer (some ⟨db, 0, none⟩), .slice a9 n1 k9, .slice none 0 0, u11, u12, u13, u14, u15, u16, u17, u18, u19, u20, u21, u22, u23, u24, u25, u26, u27, u28, u29, u30, u31, u32, u33, u34, u35, u36, u37, u38, u39, u40, u41, u42, u43, u44, u45, u46, u47, u48, u49, u50, u51, u52, u53, u54, u55, u56, u57, u58, u59, u60, u61, u62, u63, u64, u65, u66, u67, u68, u69, u70, u71, u72, u73, u74, u75, u76, u77, u78, u79, u80, u81, u82, u83, u84, u85, u86, u87, u88, u89, u90, u91, u92, u93, u94, u95, u96, u97, u98, u99, u100, u101, u102, u103, u104, u105, u106, u107, u108, u109, u110, u111, u112, u113, u114, u115, u116, u117, u118, u119, u120, u121, u122, u123, u124, u125, u126, u127, u128, u129, u130, u131, u132, u133, u134, u135, u136, u137, u138, u139, u140, u141, u142, u143, u144, u145, u146, u147, u148, u149, u150, u151, u152, u153, u154, u155, u156, u157, u158, u159, u160, u161, u162, u163, u164, u165, u166, u167, u168, u169, u170, u171, u172, u173, u174, u175, u176, u177, u178, u179, u180, u181, u182, u183, u184, u185, u186, u187, u188, u189, u190, u191, u192, u193], []⟩ wc := by
  conv => arg 2; whnf
  have HSP1 : Hid (SpAt wc a1 xs) := hs1
  have HSP9 : Hid (SpAt wc a9 xs) := hs9
  have HK : Hid (Kept (fun _ => False) w wc) := hk
  have HLN : Hid (LnAt wc a0 zs) := hln
  have HLAID : Hid (Laid wc zs vs) := hlaid
  have HD : Hid (wc.cell? ⟨db, 20, none⟩ = some (.int .i64 n0)) := hd
  have HD1 : Hid (wc.cell? ⟨db, 19, none⟩ = some (.pointer root)) := hd1
  have HD2 : Hid (wc.cell? ⟨db, 24, none⟩ = some (.int .i64 0)) := hd2
  have HROPE : Hid (RopeN Ln.cells 3 dd wc root vs) := hrope
  have HWS : Hid (WideS xs) := hws
  have HWZ : Hid (∀ z ∈ zs, U64 z.site) := hwz
  have HV1 : Hid (∀ b, blkOf a1 = some b → b < wc.heap.size) := hv1
  clear hs1 hs9 hk hln hlaid hd hd1 hd2 hrope hws hwz hv1
  obtain ⟨i0, hi0, hz0, hz1, hz2⟩ := info_parts infoI3
  refine wp_seq_k fun K hK => ?_
  have HKK : Hid _ := hK
  clear hK
  go_wp2
  go_loopw [10, 85] (fun v i wr => ∃ (k : Nat) (aw : Option Addr) (m cw : Nat), k ≤ n0 ∧ i = .int .i64 k ∧ v = .slice aw m cw ∧ Hid (Wanted wc xs zs k wr aw m cw)) (fun _ i _ => n0 - (intOf i).toNat)
  case atStart => exact ⟨0, none, 0, 0, Nat.zero_le _, rfl, rfl, Row.nil (by omega), by simp [wants], fun b e => by simp [blkOf] at e, Kept.refl _ _⟩
  case round =>
    obtain ⟨k, aw, m, cw, hkn, rfl, rfl, HI⟩ := hrel
    by_cases hlt : k < n0
    · obtain ⟨z, hz⟩ : ∃ z, zs[k]? = some z := ⟨zs[k]'(by omega), by simp⟩
      have hne : zs ≠ [] := by rintro rfl; simp at hz
      rcases HLN.out with hq | ⟨b0, o0, rfl, hln⟩
      · exact (hne hq).elim
      obtain ⟨c0, c1, c2, c3⟩ := hln k z hz
      replace c0 := cell_keptF HI.out.kept c0
      replace c1 := cell_keptF HI.out.kept c1
      have kk : (k : Int) < (n0 : Int) := by omega
      have hkn' := known_any a9 n1 k9 xs z.site z.clock wr.drew ((HSP9.out.kept HI.out.kept).kept (Kept.refl _ wr).drew) hl h1
      have HKN : Hid _ := hkn'
      have hka : keepAt xs zs k = !named xs z.site z.clock := by unfold keepAt; rw [hz]
      have HKA : Hid (keepAt xs zs k = !named xs z.site z.clock) := hka
      have hmk : m ≤ k := by
        have := HI.out.row.len
        have h2 : (wants xs zs k).length ≤ k := by unfold wants; refine Nat.le_trans (List.length_filter_le _ _) (by simp)
        omega
      obtain ⟨q, hq⟩ : ∃ q, named xs z.site z.clock = q := ⟨_, rfl⟩
      rw [hq] at HKN HKA
      clear hz hne hln c2 c3 hkn' hka hq
      go_wp2
      go_region_held3 (fun w' => w'.cell? ⟨b0, o0 + k * 4, none⟩ = some (.int .u64 z.site) ∧ w'.cell? ⟨b0, o0 + k * 4 + 1, none⟩ = some (.int .u32 z.clock)) (go_keep) (first
        | (go_at_call 12; refine Calls.mono HKN.out ?_; rintro e w1 ⟨rfl, hk1⟩; have hk1' : Kept (fun _ => False) wr w1 := ⟨hk1.os, hk1.tape, hk1.output, hk1.size, hk1.block⟩; have v0 := cell_keptF hk1' c0; have v1 := cell_keptF hk1' c1; have HK1 : Hid (Kept (fun _ => False) wr w1) := hk1'; clear hk1 hk1')
        | fail)
      all_goals
        cases q with
        | true =>
          go_wp2
          refine ⟨⟨k + 1, aw, m, cw, by omega, by go_num, rfl, ?_⟩, by simp [intOf]; omega⟩
          have hw1 : wants xs zs (k + 1) = wants xs zs k := by rw [wants_succ, HKA.out]; rfl
          have hkk := HI.out.kept.trans HK1.out
          refine ⟨?_, ?_, HI.out.far, hkk⟩
          · rw [hw1]; exact HI.out.row.kept HK1.out (fun _ _ => id)
          · rw [hw1]; exact HI.out.nil
        | false =>
          have hr1 := HI.out.row.kept HK1.out (fun _ _ => id)
          have HR1 : Hid (Row intCells 1 w1 aw m cw (wants xs zs k)) := hr1
          clear hr1
          go_wp2_with (at_builtin; refine wpList_append_row _ rfl (.tmp 101) (.tmp 103) 22 rfl int_len int_one 3 i0 (.int .i64 0) 8 Ybaf.underlying22 hi0 hz0 hz1 hz2 rfl aw m cw (wants xs zs k) rfl (HR1.out.alloc _) ⟨w1.heap.size, 0, none⟩ 1 1 [k] rfl rfl (one_int (Blk.new w1 _ _)) (by omega) (by omega) ?_; intro a5 c5 w5 hrow hgrow hnew hnone; have HR5 : Hid _ := hrow; have HG5 : Hid _ := hgrow; have HW5 : Hid _ := hnew; have HN5 : Hid _ := hnone; clear hrow hgrow hnew hnone)
          refine ⟨⟨k + 1, a5, m + 1, c5, by omega, by go_num, rfl, ?_⟩, by simp [intOf]; omega⟩
          have hw1 : wants xs zs (k + 1) = wants xs zs k ++ [k] := by rw [wants_succ, HKA.out]; rfl
          have hkk := (HI.out.kept.trans HK1.out).alloc (.cells #[.int .i64 k] 3)
          have hg := HG5.out
          refine ⟨?_, ?_, fun b e => ?_, ?_⟩
          · rw [hw1]; exact HR5.out
          · rw [hw1]
            constructor
            · intro e
              have := (HN5.out e).1
              omega
            · intro e
              simp at e
          · rcases HW5.out b e with h | h
            · exact HI.out.far b h
            · have := hkk.size
              simp at h this
              omega
          · exact ⟨hg.os.trans hkk.os, hg.tape.trans hkk.tape, hg.output.trans hkk.output, Nat.le_trans hkk.size hg.size, fun q hq _ => (hg.block q (Nat.lt_of_lt_of_le hq hkk.size) (fun e => by have := HI.out.far q e.symm; omega)).trans (hkk.block q hq id)⟩
    · obtain rfl : n0 = k := by omega
      go_wp2
      refine HKK.out _ _ ?_
      have hkr := HI.out.kept
      have hsz := hkr.size
      exact tail9 h0 h1 hl (HSP1.out.kept hkr) (HSP9.out.kept hkr) (cell_keptF hkr HD.out) (HK.out.trans hkr) (HLN.out.kept hkr) hzn HI.out.row HI.out.nil (HLAID.out.kept hkr) (cell_keptF hkr HD1.out) (cell_keptF hkr HD2.out)
        ((HROPE.out.eqv (fun q _ hl => hkr.block q hl id)).rope) HWS.out HWZ.out (fun b e => by have := HV1.out b e; omega)

end Go.Proofs.YbulkdyyyFmt
