/-
  The walk of seat b6272a's law: its last part, behind the call of rosterOf.
-/
import Derived.Test.YbulkdywgMore
namespace Go.Proofs.Ybulkdywg
open Go.RowKit

set_option maxHeartbeats 4000000 in
set_option maxRecDepth 100000 in
theorem tail_any {u4 u5 u6 u7 u11 u14 u18 u21 u22 u23 u24 u25 u26 u27 u28 u29 u30 u31 u32 u33 u34 u35 u36 u37 u38 u39 u40 u41 u42 u43 u44 u45 u46 u47 u48 u49 u50 u51 u52 u53 u54 u55 u56 u57 u58 u59 u60 u61 u62 u63 u64 u65 u66 u67 u68 u69 u70 u71 u72 u73 u74 u75 u76 u77 u78 u79 u80 u81 u82 u83 u84 u85 u86 u87 u88 u89 u90 u91 u92 u93 u94 u95 u96 u97 u98 u99 u100 u101 u102 u103 u104 u105 u106 u107 u108 u109 u110 u111 u112 u113 u114 u115 u116 u117 u118 u119 u120 u121 u122 u123 u124 u125 u126 u127 u128 u129 u130 u131 u132 u133 u134 u135 u136 u137 u138 u139 u140 u141 u142 u143 u144 u145 u146 u147 u148 u149 u150 u151 u152 u153 u154 u155 u156 u157 u158 u159 u160 u161 u162 u163 u164 u165 u166 u167 u168 u169 u170 u171 u172 u173 u174 u175 u176 u177 u178 u179 u180 u181 u182 u183 u184 u185 u186 u187 u188 u189 u190 u191 u192 u193 u194 u195 u196 u197 u198 u199 u200 u201 u202 u203 u204 u205 u206 u207 u208 u209 u210 u211 u212 u213 u214 u215 u216 u217 u218 u219 : Value} {a0 a3 ma : Option Addr} {n0 c0 n3 c3 s0 bc ba bl bk nb nr gm mc : Nat} {z0 z3 : List Int} {p q r : Int} {pf pp : Addr} {ps : Nat → Addr} {w wc : World} (hn0 : n0 ≤ 1048576) (hn3 : n3 ≤ 1048576)
    (hS : State w wc s0 bc ba bl bk nb nr n0 c0 n3 c3 gm mc ma a0 a3 r pf pp z0 z3 ps) :
    Code.wp Yba.prog (dropSeq 15 (Yba.f3.body.getD .skip)) (bodyPost Yba.prog Yba.f3 fun e w' => e = .returned (.bool true) ∧ Below w.heap.size w w') ⟨#[.slice a0 n0 c0, .int .u32 p, .int .u32 q, .slice a3 n3 c3, u4, u5, u6, u7, .bool false, .int .u32 r, .pointer (some ⟨s0, 0, none⟩), u11, .pointer (some ⟨bc, 0, none⟩), .pointer (some ⟨ba, 0, none⟩), u14, .pointer (some pf), .slice (some ⟨bl, 0, none⟩) n0 n0, .slice (some ⟨bk, 0, none⟩) n0 n0, u18, .pointer (some ⟨nb, 0, none⟩), .pointer (some ⟨nr, 0, none⟩), u21, u22, u23, u24, u25, u26, u27, u28, u29, u30, u31, u32, u33, u34, u35, u36, u37, u38, u39, u40, u41, u42, u43, u44, u45, u46, u47, u48, u49, u50, u51, u52, u53, u54, u55, u56, u57, u58, u59, u60, u61, u62, u63, u64, u65, u66, u67, u68, u69, u70, u71, u72, u73, u74, u75, u76, u77, u78, u79, u80, u81, u82, u83, u84, u85, u86, u87, u88, u89, u90, u91, u92, u93, u94, u95, u96, u97, u98, u99, u100, u101, u102, u103, u104, u105, u106, u107, u108, u109, u110, u111, u112, u113, u114, u115, u116, u117, u118, u119, u120, u121, u122, u123, u124, u125, u126, u127, u128, u129, u130, u131, u132, u133, u134, u135, u136, u137, u138, u139, u140, u141, u142, u143, u144, u145, u146, u147, u148, u149, u150, u151, u152, u153, u154, u155, u156, u157, u158, u159, u160, u161, u162, u163, u164, u165, u166, u167, u168, u169, u170, u171, u172, u173, u174, u175, u176, u177, u178, u179, u180, u181, u182, u183, u184, u185, u186, u187, u188, u189, u190, u191, u192, u193, u194, u195, u196, u197, u198, u199, u200, u201, u202, u203, u204, u205, u206, u207, u208, u209, u210, u211, u212, u213, u214, u215, u216, u217, u218, u219], []⟩ wc := by
  conv => arg 2; whnf
  obtain ⟨hv0, hv3, hlives, hlinks, hmembs, hma, hcalls, hasked, hmemb, hres0, hres1, hnode4, hnode6, hfirst, hbelow⟩ := hS
  obtain ⟨i32, hi32⟩ : ∃ i, Yba.prog.info? 32 = some i := Option.isSome_iff_exists.1 (by kernel_rfl)
  have hpn := fun (w : World) (a : Addr) => Lib.run_neq_ptr_same (P := Yba.prog) w a Yba.underlying29 hi32
  have hnil := fun (w : World) a n c => Lib.run_eql_slice_nil (P := Yba.prog) w 26 27 a n c 0 0 Yba.underlying26
  have HV0 : Hid (View .u32 wc a0 n0 c0 z0) := hv0
  have HV3 : Hid (View .i32 wc a3 n3 c3 z3) := hv3
  have HLI : Hid (∀ j, j < n0 → wc.cell? ⟨bl, j, none⟩ = some (.pointer (some (ps j)))) := hlives
  have HLK : Hid (∀ j, j < n0 → wc.cell? ⟨bk, j * 4, none⟩ = some (.int .u32 (z0.getD j 0)) ∧ wc.cell? ⟨bk, j * 4 + 1, none⟩ = some (.pointer (some (ps j)))) := hlinks
  have HME : Hid (∀ j, j < n3 → wc.cell? ⟨gm, j, none⟩ = some (.int .i32 (z3.getD j 0))) := hmembs
  have HMA : Hid (0 < n3 → ma = some ⟨gm, 0, none⟩) := hma
  have HF : Hid (First z0 n0 r ps pf pp) := hfirst
  have HB : Hid (Below w.heap.size w wc) := hbelow
  clear hv0 hv3 hlives hlinks hmembs hma hfirst hbelow
  go_wp2
  go_loop [21, 22] (fun v i => ∃ (k : Nat) (x : Addr), k ≤ n0 ∧ i = .int .i64 ((k : Int) - 1) ∧ v = .pointer (some x) ∧ Hid (From z0 n0 k r ps pf x)) (fun _ i => (intOf i + 1).toNat)
  case atStart => exact ⟨n0, pf, Nat.le_refl _, rfl, rfl, From.start _ _ _ _ _⟩
  case round =>
    obtain ⟨k, x, hk, rfl, rfl, HFR⟩ := hrel
    cases k with
    | succ m =>
      obtain ⟨b0, o0, rfl, hc0⟩ := HV0.out.at (by omega)
      have e1 : (((m + 1 : Nat) : Int) - 1) = (m : Int) := by omega
      rw [e1]
      have d0 := hc0 m (by omega)
      have d1 := HLI.out m (by omega)
      have hmn : (m : Int) < (n0 : Int) := by omega
      clear hc0
      by_cases he : z0.getD m 0 = r
      · rw [he] at d0
        go_wp2
        go_round
        case rel => exact ⟨m, ps m, by omega, rfl, rfl, From.hit (by omega) he⟩
        case measure => simp [intOf]
      · have he' : (z0.getD m 0 == r) = false := by simpa using he
        generalize z0.getD m 0 = y at d0 he'
        go_wp2
        go_round
        case rel => exact ⟨m, x, by omega, rfl, rfl, From.miss HFR.out he⟩
        case measure => simp [intOf]
    | zero =>
      obtain rfl := From.same HFR.out HF.out
      go_upto_if 152 with fail
      go_cut [8] (fun _ w' => w' = wc)
      case first =>
        go_wp2
        go_meet
        case rel => rfl
      case rest =>
      rename World => wc'
      obtain rfl : wc = wc' := hcut.symm
      go_wp2
      go_loopw [23, 156] (fun _ i wr => ∃ k q : Nat, k ≤ n3 ∧ i = .int .i64 k ∧ wr = wc.drewN q) (fun _ i _ => n3 - (intOf i).toNat)
      case atStart => exact ⟨0, 0, Nat.zero_le _, rfl, rfl⟩
      case round =>
        obtain ⟨k, q1, hk3, rfl, rfl⟩ := hrel
        by_cases hkn : k < n3
        · obtain ⟨b3, o3, rfl, hc3⟩ := HV3.out.at (by omega)
          obtain rfl := HMA.out (by omega)
          have d3 := hc3 k hkn
          have d4 := HME.out k hkn
          generalize z3.getD k 0 = y at d3 d4
          have kk : (k : Int) < (n3 : Int) := by omega
          clear hc3
          go_wp2
          go_quiet (fail)
          go_wp2
          go_roundw
          case rel => exact ⟨k + 1, _, by omega, by go_num, rfl⟩
          case measure => simp [intOf]; omega
        · go_wp2
          go_loopw [24, 188] (fun _ i wr => ∃ k q : Nat, k ≤ n0 ∧ i = .int .i64 k ∧ wr = wc.drewN q) (fun _ i _ => n0 - (intOf i).toNat)
          case atStart => exact ⟨0, _, Nat.zero_le _, rfl, rfl⟩
          case round =>
            obtain ⟨m, q2, hm0, rfl, rfl⟩ := hrel
            by_cases hmn : m < n0
            · obtain ⟨b0, o0, rfl, hc0⟩ := HV0.out.at (by omega)
              have d0 := hc0 m hmn
              have d1 := HLI.out m hmn
              obtain ⟨d2, d3⟩ := HLK.out m hmn
              generalize z0.getD m 0 = y at d0 d2
              have kk : (m : Int) < (n0 : Int) := by omega
              clear hc0
              go_wp2
              go_quiet (fail)
              go_wp2
              go_roundw
              case rel => exact ⟨m + 1, _, by omega, by go_num, rfl⟩
              case measure => simp [intOf]; omega
            · go_wp2
              go_ret
              exact ⟨rfl, below_drewN HB.out _⟩

end Go.Proofs.Ybulkdywg
