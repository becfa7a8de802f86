/-
  Seat b6277aF: the law, from the comparing loop on.
-/
import Derived.Test.YbulkdyyyFmtL13
namespace Go.Proofs.YbulkdyyyFmt
open Go.RowKit Go.Sort Go.Shelf
set_option linter.unusedVariables false
set_option linter.unnecessarySimpa false

/-- A laid line x is the drawn line z. -/
structure Good (W : World) (z : Zl) (x : Ln) : Prop where
  clock : x.clock = z.clock
  text : x.text = z.text
  len : (x.n : Int) = 1 + z.depth % 3
  low : 0 ≤ z.depth
  high : z.depth ≤ 255
  site : SiteOf W x z.site

theorem Good.kept {W W' : World} {z : Zl} {x : Ln} (h : Good W z x) (hk : Kept (fun _ => False) W W') : Good W' z x := ⟨h.clock, h.text, h.len, h.low, h.high, h.site.keptF hk⟩

set_option maxHeartbeats 4000000 in
set_option maxRecDepth 100000 in
theorem tail11 {u2 u3 u4 u5 u6 u7 u11 u13 u14 u15 u16 u17 u18 u19 u20 u21 u22 u23 u24 u25 u26 u27 u28 u29 u30 u31 u32 u33 u34 u35 u36 u37 u38 u39 u40 u41 u42 u43 u44 u45 u46 u47 u48 u49 u50 u51 u52 u53 u54 u55 u56 u57 u58 u59 u60 u61 u62 u63 u64 u65 u66 u67 u68 u69 u70 u71 u72 u73 u74 u75 u76 u77 u78 u79 u80 u81 u82 u83 u84 u85 u86 u87 u88 u89 u90 u91 u92 u93 u94 u95 u96 u97 u98 u99 u100 u101 u102 u103 u104 u105 u106 u107 u108 u109 u110 u111 u112 u113 u114 u115 u116 u117 u118 u119 u120 u121 u122 u123 u124 u125 u126 u127 u128 u129 u130 u131 u132 u133 u134 u135 u136 u137 u138 u139 u140 u141 u142 u143 u144 u145 u146 u147 u148 u149 u150 u151 u152 u153 u154 u155 u156 u157 u158 u159 u160 u161 u162 u163 u164 u165 u166 u167 u168 u169 u170 u171 u172 u173 u174 u175 u176 u177 u178 u179 u180 u181 u182 u183 u184 u185 u186 u187 u188 u189 u190 u191 u192 u193 : Value} {a0 a1 a9 aw ag : Option Addr} {n0 k0 n1 k1 k9 db m cw cg : Nat} {xs : List Sn} {zs : List Zl} {ks : List Nat} {gs : List Ln} {w wc : World} (h0 : n0 ≤ 4096) (h1 : n1 ≤ 4096) (hl : xs.length = n1) (hs1 : SpAt wc a1 xs) (hs9 : SpAt wc a9 xs) (hd : wc.cell? ⟨db, 20, none⟩ = some (.int .i64 n0)) (hk : Kept (fun _ => False) w wc)
    (hln : LnAt wc a0 zs) (hzn : zs.length = n0) (hrw : Row intCells 1 wc aw m cw ks) (hrg : Row Ln.cells 3 wc ag m cg gs) (hm : m ≤ 4096) (hgd : ∀ (k i : Nat), ks[k]? = some i → ∃ z x, zs[i]? = some z ∧ gs[k]? = some x ∧ Good wc z x) :
    Code.wp Ybaf.prog (dropSeq 11 (Ybaf.f4.body.getD .skip)) (bodyPost Ybaf.prog Ybaf.f4 fun e w' => e = .returned (.bool true) ∧ Kept (fun _ => False) w w') ⟨#[.slice a0 n0 k0, .slice a1 n1 k1, u2, u3, u4, u5, u6, u7, .pointer (some ⟨db, 0, none⟩), .slice a9 n1 k9, .slice aw m cw, u11, .slice ag m cg, u13, u14, u15, u16, u17, u18, u19, u20, u21, u22, u23, u24, u25, u26, u27, u28, u29, u30, u31, u32, u33, u34, u35, u36, u37, u38, u39, u40, u41, u42, u43, u44, u45, u46, u47, u48, u49, u50, u51, u52, u53, u54, u55, u56, u57, u58, u59, u60, u61, u62, u63, u64, u65, u66, u67, u68, u69, u70, u71, u72, u73, u74, u75, u76, u77, u78, u79, u80, u81, u82, u83, u84, u85, u86, u87, u88, u89, u90, u91, u92, u93, u94, u95, u96, u97, u98, u99, u100, u101, u102, u103, u104, u105, u106, u107, u108, u109, u110, u111, u112, u113, u114, u115, u116, u117, u118, u119, u120, u121, u122, u123, u124, u125, u126, u127, u128, u129, u130, u131, u132, u133, u134, u135, u136, u137, u138, u139, u140, u141, u142, u143, u144, u145, u146, u147, u148, u149, u150, u151, u152, u153, u154, u155, u156, u157, u158, u159, u160, u161, u162, u163, u164, u165, u166, u167, u168, u169, u170, u171, u172, u173, u174, u175, u176, u177, u178, u179, u180, u181, u182, u183, u184, u185, u186, u187, u188, u189, u190, u191, u192, u193], []⟩ wc := by
  conv => arg 2; whnf
  have HSP1 : Hid (SpAt wc a1 xs) := hs1
  have HSP9 : Hid (SpAt wc a9 xs) := hs9
  have HK : Hid (Kept (fun _ => False) w wc) := hk
  have HLN : Hid (LnAt wc a0 zs) := hln
  have HRW : Hid (Row intCells 1 wc aw m cw ks) := hrw
  have HRG : Hid (Row Ln.cells 3 wc ag m cg gs) := hrg
  have HGD : Hid (∀ (k i : Nat), ks[k]? = some i → ∃ z x, zs[i]? = some z ∧ gs[k]? = some x ∧ Good wc z x) := hgd
  have HD : Hid (wc.cell? ⟨db, 20, none⟩ = some (.int .i64 n0)) := hd
  have hml := hrw.len
  clear hs1 hs9 hk hln hrw hrg hgd hd
  refine wp_seq_k fun K hK => ?_
  have HKK : Hid _ := hK
  clear hK
  go_wp2
  go_loopw [123] (fun i wr => ∃ k : Nat, k ≤ m ∧ i = .int .i64 k ∧ Hid (Kept (fun _ => False) wc wr)) (fun i _ => m - (intOf i).toNat)
  case atStart => exact ⟨0, Nat.zero_le _, rfl, Kept.refl _ _⟩
  case round =>
    obtain ⟨k, hkm, rfl, HKR⟩ := hrel
    by_cases hlt : k < m
    · obtain ⟨i, hi⟩ : ∃ i, ks[k]? = some i := ⟨ks[k]'(by omega), by simp⟩
      obtain ⟨z, x, hz, hx, hgood⟩ := HGD.out k i hi
      have hzl : i < zs.length := (List.getElem?_eq_some_iff.1 hz).1
      have hne : zs ≠ [] := by rintro rfl; simp at hz
      rcases HLN.out with hq | ⟨b0, o0, rfl, hln⟩
      · exact (hne hq).elim
      obtain ⟨c0, c1, c2, c3⟩ := hln i z hz
      obtain ⟨bw, ow, rfl⟩ := HRW.out.some_of (by omega)
      obtain ⟨bg, og, rfl⟩ := HRG.out.some_of (by omega)
      have d0 := HRW.out.cell int_len hi 0 (by omega)
      have g0 := HRG.out.cell ln_len hx 0 (by omega)
      have g1 := HRG.out.cell ln_len hx 1 (by omega)
      have g2 := HRG.out.cell ln_len hx 2 (by omega)
      simp only [Ln.cells, intCells, List.getElem?_cons_zero, List.getElem?_cons_succ, Nat.add_zero, Nat.mul_one] at d0 g0 g1 g2
      replace c0 := cell_keptF HKR.out c0
      replace c1 := cell_keptF HKR.out c1
      replace c2 := cell_keptF HKR.out c2
      replace c3 := cell_keptF HKR.out c3
      replace d0 := cell_keptF HKR.out d0
      replace g0 := cell_keptF HKR.out g0
      replace g1 := cell_keptF HKR.out g1
      replace g2 := cell_keptF HKR.out g2
      have hgr := hgood.kept HKR.out
      have HGR : Hid (Good wr z x) := hgr
      rw [hgr.clock] at g1
      rw [hgr.text] at g2
      have kk : (k : Int) < (m : Int) := by omega
      have ii : (i : Int) < (n0 : Int) := by omega
      have ss0 := World.block_lt_of_cell? wr _ c0
      have ssw := World.block_lt_of_cell? wr _ d0
      have ssg := World.block_lt_of_cell? wr _ g0
      have a0c := fun ob => cell_keptF ((Kept.refl _ wr).alloc ob) g0
      have a1c := fun ob => cell_keptF ((Kept.refl _ wr).alloc ob) g1
      have a2c := fun ob => cell_keptF ((Kept.refl _ wr).alloc ob) g2
      clear hi hz hx hgood hne hln hgr
      go_wp2
      obtain ⟨W, hW⟩ : ∃ W, (wr.alloc (.cells #[.int .u64 z.site, .int .u32 z.clock, .int .u8 z.depth, .string z.text] 42)).alloc (.cells #[.slice x.a x.n x.c, .int .u32 z.clock, .string z.text] 48) = W := ⟨_, rfl⟩
      have hkW : Kept (fun _ => False) wr W := by rw [← hW]; exact ((Kept.refl _ wr).alloc _).alloc _
      have b14 : Blk W wr.heap.size #[.int .u64 z.site, .int .u32 z.clock, .int .u8 z.depth, .string z.text] := by rw [← hW]; exact (Blk.new wr _ 42).alloc _
      have b15 : Blk W (wr.heap.size + 1) #[.slice x.a x.n x.c, .int .u32 z.clock, .string z.text] := by
        rw [← hW]
        simpa using Blk.new (wr.alloc (.cells #[.int .u64 z.site, .int .u32 z.clock, .int .u8 z.depth, .string z.text] 42)) #[.slice x.a x.n x.c, .int .u32 z.clock, .string z.text] 48
      rw [hW]
      have HGW : Hid (Good W z x) := HGR.out.kept hkW
      have HKW : Hid (Kept (fun _ => False) wc W) := HKR.out.trans hkW
      have HB14 : Hid (Blk W wr.heap.size #[.int .u64 z.site, .int .u32 z.clock, .int .u8 z.depth, .string z.text]) := b14
      have HB15 : Hid (Blk W (wr.heap.size + 1) #[.slice x.a x.n x.c, .int .u32 z.clock, .string z.text]) := b15
      have y0 : W.cell? ⟨wr.heap.size, 0, none⟩ = some (.int .u64 z.site) := b14.cell 0
      have y1 : W.cell? ⟨wr.heap.size, 2, none⟩ = some (.int .u8 z.depth) := b14.cell 2
      have y2 : W.cell? ⟨wr.heap.size + 1, 0, none⟩ = some (.slice x.a x.n x.c) := b15.cell 0
      have y3 : W.cell? ⟨wr.heap.size + 1, 1, none⟩ = some (.int .u32 z.clock) := b15.cell 1
      have HCL : Hid (x.clock = z.clock) := HGW.out.clock
      have hlen := HGW.out.len
      have hlow := HGW.out.low
      have hhigh := HGW.out.high
      have htm : z.depth.tmod 3 = z.depth % 3 := Int.tmod_eq_emod_of_nonneg hlow
      have hw8 : IntKind.u8.wrap (z.depth % 3) = z.depth % 3 := by simp [IntKind.wrap, IntKind.bits, IntKind.signed]; omega
      have hw64 : IntKind.i64.wrap (z.depth % 3) = z.depth % 3 := w64 (by omega) (by omega)
      have hw65 : IntKind.i64.wrap (1 + z.depth % 3) = 1 + z.depth % 3 := w64 (by omega) (by omega)
      have hd1 : ((x.n : Int) == 1 + z.depth % 3) = true := by simpa using hlen
      have hd2 : ((x.n : Int) != 1 + z.depth % 3) = false := by simpa using hlen
      clear hW hkW b14 b15 c0 c1 c2 c3 d0 g0 g1 g2 a0c a1c a2c
      go_region_held3 (fun w' => w'.cell? ⟨wr.heap.size, 0, none⟩ = some (.int .u64 z.site) ∧ w'.cell? ⟨wr.heap.size, 2, none⟩ = some (.int .u8 z.depth) ∧ w'.cell? ⟨wr.heap.size + 1, 0, none⟩ = some (.slice x.a x.n x.c) ∧ w'.cell? ⟨wr.heap.size + 1, 1, none⟩ = some (.int .u32 z.clock)) (go_keep) (first
        | (go_at_call 14; rw [← HCL.out]; refine Calls.mono (site_any x z.site W.drew HGW.out.site) ?_; rintro e w1 ⟨rfl, hk1⟩; have hk1' : Kept (fun _ => False) W w1 := ⟨hk1.os, hk1.tape, hk1.output, hk1.size, hk1.block⟩; have v0 := cell_keptF hk1' y0; have v1 := cell_keptF hk1' y1; have v2 := cell_keptF hk1' y2; have v3 := cell_keptF hk1' y3; have HK1 : Hid (Kept (fun _ => False) W w1) := hk1'; clear hk1 hk1')
        | fail)
      all_goals
        go_wp2
        exact ⟨⟨k + 1, by omega, by go_num, HKW.out.trans HK1.out⟩, by simp [intOf]; omega⟩
    · obtain rfl : m = k := by omega
      go_wp2
      refine HKK.out _ _ ?_
      refine wp_seq_k fun K2 hK2 => ?_
      have HK2 : Hid _ := hK2
      clear hK2
      go_wp2
      refine HK2.out _ _ ?_
      have hs1 : SpAt wr a1 xs := HSP1.out.kept HKR.out
      have hs9 : SpAt wr a9 xs := HSP9.out.kept HKR.out
      exact tail13 h0 h1 hl hs1 hs9 (cell_keptF HKR.out HD.out) (HK.out.trans HKR.out)

end Go.Proofs.YbulkdyyyFmt
