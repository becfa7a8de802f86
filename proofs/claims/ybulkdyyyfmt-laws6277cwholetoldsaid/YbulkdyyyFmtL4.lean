/-
  Seat b6277aF: the law, from the document on.
-/
import Derived.Test.YbulkdyyyFmtL5
import Derived.Test.YbulkdyyyFmtOfL
namespace Go.Proofs.YbulkdyyyFmt
open Go.RowKit Go.Sort Go.Shelf
set_option linter.unusedVariables false
set_option linter.unnecessarySimpa false

set_option maxHeartbeats 4000000 in
set_option maxRecDepth 100000 in
theorem tail4 {u2 u3 u4 u6 u7 u8 u9 u10 u11 u12 u13 u14 u15 u16 u17 u18 u19 u20 u21 u22 u23 u24 u25 u26 u27 u28 u29 u30 u31 u32 u33 u34 u35 u36 u37 u38 u39 u40 u41 u42 u43 u44 u45 u46 u47 u48 u49 u50 u51 u52 u53 u54 u55 u56 u57 u58 u59 u60 u61 u62 u63 u64 u65 u66 u67 u68 u69 u70 u71 u72 u73 u74 u75 u76 u77 u78 u79 u80 u81 u82 u83 u84 u85 u86 u87 u88 u89 u90 u91 u92 u93 u94 u95 u96 u97 u98 u99 u100 u101 u102 u103 u104 u105 u106 u107 u108 u109 u110 u111 u112 u113 u114 u115 u116 u117 u118 u119 u120 u121 u122 u123 u124 u125 u126 u127 u128 u129 u130 u131 u132 u133 u134 u135 u136 u137 u138 u139 u140 u141 u142 u143 u144 u145 u146 u147 u148 u149 u150 u151 u152 u153 u154 u155 u156 u157 u158 u159 u160 u161 u162 u163 u164 u165 u166 u167 u168 u169 u170 u171 u172 u173 u174 u175 u176 u177 u178 u179 u180 u181 u182 u183 u184 u185 u186 u187 u188 u189 u190 u191 u192 u193 : Value} {a0 a1 : Option Addr} {n0 k0 n1 k1 lb : Nat} {xs : List Sn} {zs : List Zl} {vs : List Ln} {w wc : World} (h0 : n0 ≤ 4096) (h1 : n1 ≤ 4096) (hl : xs.length = n1) (hs1 : SpAt wc a1 xs) (hk : Kept (fun _ => False) w wc)
    (hln : LnAt wc a0 zs) (hzn : zs.length = n0) (hlaid : Laid wc zs vs) (hrow : Row Ln.cells 3 wc (some ⟨lb, 0, none⟩) n0 n0 vs)
    (hws : WideS xs) (hwz : ∀ z ∈ zs, U64 z.site) (hv1 : ∀ b, blkOf a1 = some b → b < wc.heap.size) :
    Code.wp Ybaf.prog (dropSeq 4 (Ybaf.f4.body.getD .skip)) (bodyPost Ybaf.prog Ybaf.f4 fun e w' => e = .returned (.bool true) ∧ Kept (fun _ => False) w w') ⟨#[.slice a0 n0 k0, .slice a1 n1 k1, u2, u3, u4, .slice (some ⟨lb, 0, none⟩) n0 n0, u6, u7, u8, u9, u10, u11, u12, u13, u14, u15, u16, u17, u18, u19, u20, u21, u22, u23, u24, u25, u26, u27, u28, u29, u30, u31, u32, u33, u34, u35, u36, u37, u38, u39, u40, u41, u42, u43, u44, u45, u46, u47, u48, u49, u50, u51, u52, u53, u54, u55, u56, u57, u58, u59, u60, u61, u62, u63, u64, u65, u66, u67, u68, u69, u70, u71, u72, u73, u74, u75, u76, u77, u78, u79, u80, u81, u82, u83, u84, u85, u86, u87, u88, u89, u90, u91, u92, u93, u94, u95, u96, u97, u98, u99, u100, u101, u102, u103, u104, u105, u106, u107, u108, u109, u110, u111, u112, u113, u114, u115, u116, u117, u118, u119, u120, u121, u122, u123, u124, u125, u126, u127, u128, u129, u130, u131, u132, u133, u134, u135, u136, u137, u138, u139, u140, u141, u142, u143, u144, u145, u146, u147, u148, u149, u150, u151, u152, u153, u154, u155, u156, u157, u158, u159, u160, u161, u162, u163, u164, u165, u166, u167, u168, u169, u170, u171, u172, u173, u174, u175, u176, u177, u178, u179, u180, u181, u182, u183, u184, u185, u186, u187, u188, u189, u190, u191, u192, u193], []⟩ wc := by
  conv => arg 2; whnf
  have HSP1 : Hid (SpAt wc a1 xs) := hs1
  have HK : Hid (Kept (fun _ => False) w wc) := hk
  have HLN : Hid (LnAt wc a0 zs) := hln
  have HLAID : Hid (Laid wc zs vs) := hlaid
  have HWS : Hid (WideS xs) := hws
  have HWZ : Hid (∀ z ∈ zs, U64 z.site) := hwz
  have HV1 : Hid (∀ b, blkOf a1 = some b → b < wc.heap.size) := hv1
  have hmm : ∀ W, (Instr.makeMap 51 none).run Ybaf.prog W = .ok (.map (some W.heap.size)) (W.alloc (.map #[] 0)) := fun W => by kernel_rfl
  have hof := OfL.of_any (some ⟨lb, 0, none⟩) n0 n0 vs (wc.alloc (.map #[] 0)) (hrow.alloc _) h0
  have HOF : Hid _ := hof
  clear hs1 hk hln hlaid hws hwz hv1 hof hrow
  refine wp_seq_k fun K hK => ?_
  have HKK : Hid _ := hK
  clear hK
  go_wp2_with fail
  refine Calls.mono HOF.out ?_
  rintro e w1 ⟨root, fv, rfl, hrope, hk1⟩
  have HROPE : Hid (RopeN Ln.cells 3 (wc.alloc (.map #[] 0)).heap.size w1 root vs) := hrope
  have HK1 : Hid (Kept (fun _ => False) (wc.alloc (.map #[] 0)) w1) := hk1
  clear hrope hk1
  go_wp2_with fail
  refine HKK.out _ _ ?_
  have hkk : ∀ ob, Kept (fun _ => False) wc (w1.alloc ob) := fun ob => (((Kept.refl _ wc).alloc _).trans HK1.out).alloc ob
  refine tail5 (dd := (wc.alloc (.map #[] 0)).heap.size) (root := root) h0 h1 hl (HSP1.out.kept (hkk _)) (((Blk.new w1 _ 76).cell 20).trans rfl) (HK.out.trans (hkk _)) (HLN.out.kept (hkk _)) hzn (HLAID.out.kept (hkk _)) (((Blk.new w1 _ 76).cell 19).trans rfl) (((Blk.new w1 _ 76).cell 24).trans rfl) (HROPE.out.eqv (fun q _ hl => Below.heap_alloc _ _ _ hl)) HWS.out HWZ.out (fun b e => ?_)
  have h2 := HV1.out b e
  have h3 := (hkk (.map #[] 0)).size
  simp at h3 ⊢
  omega

end Go.Proofs.YbulkdyyyFmt
