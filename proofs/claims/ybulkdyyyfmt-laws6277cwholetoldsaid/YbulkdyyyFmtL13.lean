/-
  Seat b6277aF: the end of the law.
-/
import Derived.Test.YbulkdyyyFmtKnown
import Derived.Deep.QuietTactic
import Derived.Deep.DeepCutAuto
import Derived.Deep.RegionHeld3
namespace Go.Proofs.YbulkdyyyFmt
open Go.RowKit Go.Sort Go.Shelf
set_option linter.unusedVariables false
set_option linter.unnecessarySimpa false

/-- What is left of a body behind its first k statements. -/
def dropSeq : Nat → Code → Code
  | 0, c => c
  | k + 1, .seq _ b => dropSeq k b
  | _ + 1, c => c

/-- A line as it is drawn. -/
structure Zl where
  site : Int
  clock : Int
  depth : Int
  text : ByteArray

/-- The drawn lines as they lie. -/
def LnAt (W : World) (a : Option Addr) (zs : List Zl) : Prop :=
  zs = [] ∨ ∃ b o, a = some ⟨b, o, none⟩ ∧ ∀ i z, zs[i]? = some z → W.cell? ⟨b, o + i * 4, none⟩ = some (.int .u64 z.site) ∧ W.cell? ⟨b, o + i * 4 + 1, none⟩ = some (.int .u32 z.clock) ∧ W.cell? ⟨b, o + i * 4 + 2, none⟩ = some (.int .u8 z.depth) ∧ W.cell? ⟨b, o + i * 4 + 3, none⟩ = some (.string z.text)

theorem LnAt.kept {W W' : World} {a : Option Addr} {zs : List Zl} (h : LnAt W a zs) (hk : Kept (fun _ => False) W W') : LnAt W' a zs := by
  rcases h with h | ⟨b, o, h1, h2⟩
  · exact .inl h
  · exact .inr ⟨b, o, h1, fun i z hz => ⟨cell_keptF hk (h2 i z hz).1, cell_keptF hk (h2 i z hz).2.1, cell_keptF hk (h2 i z hz).2.2.1, cell_keptF hk (h2 i z hz).2.2.2⟩⟩

set_option maxHeartbeats 4000000 in
set_option maxRecDepth 100000 in
theorem tail13 {u2 u3 u4 u5 u6 u7 u10 u11 u12 u13 u14 u15 u16 u17 u18 u19 u20 u21 u22 u23 u24 u25 u26 u27 u28 u29 u30 u31 u32 u33 u34 u35 u36 u37 u38 u39 u40 u41 u42 u43 u44 u45 u46 u47 u48 u49 u50 u51 u52 u53 u54 u55 u56 u57 u58 u59 u60 u61 u62 u63 u64 u65 u66 u67 u68 u69 u70 u71 u72 u73 u74 u75 u76 u77 u78 u79 u80 u81 u82 u83 u84 u85 u86 u87 u88 u89 u90 u91 u92 u93 u94 u95 u96 u97 u98 u99 u100 u101 u102 u103 u104 u105 u106 u107 u108 u109 u110 u111 u112 u113 u114 u115 u116 u117 u118 u119 u120 u121 u122 u123 u124 u125 u126 u127 u128 u129 u130 u131 u132 u133 u134 u135 u136 u137 u138 u139 u140 u141 u142 u143 u144 u145 u146 u147 u148 u149 u150 u151 u152 u153 u154 u155 u156 u157 u158 u159 u160 u161 u162 u163 u164 u165 u166 u167 u168 u169 u170 u171 u172 u173 u174 u175 u176 u177 u178 u179 u180 u181 u182 u183 u184 u185 u186 u187 u188 u189 u190 u191 u192 u193 : Value} {a0 a1 a9 : Option Addr} {n0 k0 n1 k1 k9 db : Nat} {xs : List Sn} {w wc : World} (h0 : n0 ≤ 4096) (h1 : n1 ≤ 4096) (hl : xs.length = n1) (hs1 : SpAt wc a1 xs) (hs9 : SpAt wc a9 xs) (hd : wc.cell? ⟨db, 20, none⟩ = some (.int .i64 n0)) (hk : Kept (fun _ => False) w wc) :
    Code.wp Ybaf.prog (dropSeq 13 (Ybaf.f4.body.getD .skip)) (bodyPost Ybaf.prog Ybaf.f4 fun e w' => e = .returned (.bool true) ∧ Kept (fun _ => False) w w') ⟨#[.slice a0 n0 k0, .slice a1 n1 k1, u2, u3, u4, u5, u6, u7, .pointer (some ⟨db, 0, none⟩), .slice a9 n1 k9, u10, u11, u12, u13, u14, u15, u16, u17, u18, u19, u20, u21, u22, u23, u24, u25, u26, u27, u28, u29, u30, u31, u32, u33, u34, u35, u36, u37, u38, u39, u40, u41, u42, u43, u44, u45, u46, u47, u48, u49, u50, u51, u52, u53, u54, u55, u56, u57, u58, u59, u60, u61, u62, u63, u64, u65, u66, u67, u68, u69, u70, u71, u72, u73, u74, u75, u76, u77, u78, u79, u80, u81, u82, u83, u84, u85, u86, u87, u88, u89, u90, u91, u92, u93, u94, u95, u96, u97, u98, u99, u100, u101, u102, u103, u104, u105, u106, u107, u108, u109, u110, u111, u112, u113, u114, u115, u116, u117, u118, u119, u120, u121, u122, u123, u124, u125, u126, u127, u128, u129, u130, u131, u132, u133, u134, u135, u136, u137, u138, u139, u140, u141, u142, u143, u144, u145, u146, u147, u148, u149, u150, u151, u152, u153, u154, u155, u156, u157, u158, u159, u160, u161, u162, u163, u164, u165, u166, u167, u168, u169, u170, u171, u172, u173, u174, u175, u176, u177, u178, u179, u180, u181, u182, u183, u184, u185, u186, u187, u188, u189, u190, u191, u192, u193], []⟩ wc := by
  conv => arg 2; whnf
  have HSP1 : Hid (SpAt wc a1 xs) := hs1
  have HSP9 : Hid (SpAt wc a9 xs) := hs9
  have HK : Hid (Kept (fun _ => False) w wc) := hk
  clear hs1 hs9 hk
  go_wp2
  go_loopw [176] (fun i wr => ∃ (k q : Nat), k ≤ n1 ∧ i = .int .i64 k ∧ wr = wc.drewN q) (fun i _ => n1 - (intOf i).toNat)
  case atStart => exact ⟨0, 0, Nat.zero_le _, rfl, rfl⟩
  case round =>
    obtain ⟨k, q, hkn, rfl, rfl⟩ := hrel
    by_cases hlt : k < n1
    · obtain ⟨s, hs⟩ : ∃ s, xs[k]? = some s := ⟨xs[k]'(by omega), by simp⟩
      have hne : xs ≠ [] := by rintro rfl; simp at hs
      rcases HSP1.out with h0 | ⟨b, o, rfl, hcs⟩
      · exact (hne h0).elim
      rcases HSP9.out with h0 | ⟨b9, o9, rfl, hcs9⟩
      · exact (hne h0).elim
      obtain ⟨c0, c1, c2⟩ := hcs k s hs
      obtain ⟨e0, e1, e2⟩ := hcs9 k s hs
      have kk : (k : Int) < (n1 : Int) := by omega
      clear hs hne hcs hcs9
      go_wp2
      go_quiet (fail)
      go_wp2
      exact ⟨⟨k + 1, q + nq, by omega, by go_num, by simp [World.drewN]⟩, by simp [intOf]; omega⟩
    · obtain rfl : n1 = k := by omega
      go_wp2
      go_ret
      exact ⟨rfl, HK.out.drewN q⟩

end Go.Proofs.YbulkdyyyFmt
