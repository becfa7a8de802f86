/-
  Seat b6277aF: the law, from the copy of the spans on.
-/
import Derived.Test.YbulkdyyyFmtL8
import Derived.Test.YbulkdyyyFmtMade
import Derived.Laws.CopyOwn
namespace Go.Proofs.YbulkdyyyFmt
open Go.RowKit Go.Sort Go.Shelf
set_option linter.unusedVariables false
set_option linter.unnecessarySimpa false

theorem run_copy_structs {P : Program} (w : World) (dT sT ty elem : TypeId) (size g o dLen dCap : Nat) (a : Addr) (sLen sCap n : Nat) (cur : Array Value) (t : TypeId) (cs : List Value)
    (hu : P.underlying dT = some (.slice elem)) (hs : (P.info? elem).map (·.size) = some size)
    (hg : w.heap[g]? = some (.cells cur t (0, 0))) (hn : n = Nat.min sLen dLen) (hcl : cs.length = n * size)
    (hsrc : ∀ j v, cs[j]? = some v → w.cell? (a.add j) = some v) (hfit : o + cs.length ≤ cur.size) (h1 : ∀ v ∈ cs, v.oneCell' = true) :
    (Builtin.copy_ #[dT, sT] ty #[.slice (some ⟨g, o, none⟩) dLen dCap, .slice (some a) sLen sCap]).run P w =
      .ok (goInt n) (w.setRow g (cur.toList.take o ++ cs ++ cur.toList.drop (o + cs.length)).toArray) := by
  have hl := run_loadCells_list (P := P) w a cs hsrc
  have hst := run_storeCells_at P g o t cs 0 cur w hg (by simpa using hfit) h1
  cases hq : P.info? elem with
  | none => simp [hq] at hs
  | some i =>
    have hi : i.size = size := by simpa [hq] using hs
    simp [Builtin.copy_, run_underlying hu, Builtin.lenOf, Builtin.firstCells, sizeOf, typeInfo, hq, hi, ← hn, ← hcl, hl, hst]

theorem wpList_copy_structs {P : Program} {w : World} {ops : Array Oper} {rest : List Oper} {o : Oper} {a : Act} {Q : Exit → Act → World → Prop} (hgd : o.guard = none) (d s : Operand) (dT sT : TypeId)
    (ho : o.op = .call { callee := .builtin .copy, args := #[d, s], argTypes := #[dT, sT] }) (elem : TypeId) (size : Nat) (hu : P.underlying dT = some (.slice elem)) (hsz : (P.info? elem).map (·.size) = some size)
    (g off dLen dCap : Nat) (ad : Addr) (sLen sCap n : Nat) (hd : a.eval d = .slice (some ⟨g, off, none⟩) dLen dCap) (hs : a.eval s = .slice (some ad) sLen sCap)
    (cur : Array Value) (t : TypeId) (hg : w.heap[g]? = some (.cells cur t (0, 0))) (cs : List Value) (hn : n = Nat.min sLen dLen) (hcl : cs.length = n * size)
    (hsrc : ∀ j v, cs[j]? = some v → w.cell? (ad.add j) = some v) (hfit : off + cs.length ≤ cur.size) (h1 : ∀ v ∈ cs, v.oneCell' = true)
    (h : ∀ w', w'.heap[g]? = some (.cells (cur.toList.take off ++ cs ++ cur.toList.drop (off + cs.length)).toArray t (0, 0)) → Kept (fun k => k = g) w w' → wpList P ops Q rest (a.put o.dst (goInt n)) w') : wpList P ops Q (o :: rest) a w := by
  refine wpList_plain hgd fun K hK => ?_
  have hrun := run_copy_structs (P := P) w dT sT o.type elem size g off dLen dCap ad sLen sCap n cur t cs hu hsz hg hn hcl hsrc hfit h1
  unfold Oper.wp
  simp [execOp, ho, resolve, invoke, builtin, hd, hs, hrun, Result.andThen]
  exact hK _ _ (h _ (by simpa using setRow_heap w g _ _ t _ hg) ⟨rfl, rfl, rfl, by simp [World.setRow], fun k hk hne => setRow_other w g k _ hne⟩)

theorem run_neq_nil {P : Program} (w : World) (t e : TypeId) (a : Option Addr) (n c : Nat) (h : P.underlying t = some (.slice e)) :
    (binOp .neq t (.slice a n c) (.slice none 0 0)).run P w = .ok (.bool (!a.isNone)) w := by
  simp only [binOp]
  simp [Op.equal, Op.maxDepth, Lib.run_equalIn_slice_nil w 9999 t e a n c 0 0 h]

theorem infoS81 : (Ybaf.prog.info? 81).map (fun i => (i.zero, i.size, i.bytes)) = some (some (.agg #[.int .u64 0, .int .u32 0, .int .u32 0]), 3, 16) := by kernel_rfl

set_option maxHeartbeats 4000000 in
set_option maxRecDepth 100000 in
theorem tail5 {u2 u3 u4 u5 u6 u7 u9 u10 u11 u12 u13 u14 u15 u16 u17 u18 u19 u20 u21 u22 u23 u24 u25 u26 u27 u28 u29 u30 u31 u32 u33 u34 u35 u36 u37 u38 u39 u40 u41 u42 u43 u44 u45 u46 u47 u48 u49 u50 u51 u52 u53 u54 u55 u56 u57 u58 u59 u60 u61 u62 u63 u64 u65 u66 u67 u68 u69 u70 u71 u72 u73 u74 u75 u76 u77 u78 u79 u80 u81 u82 u83 u84 u85 u86 u87 u88 u89 u90 u91 u92 u93 u94 u95 u96 u97 u98 u99 u100 u101 u102 u103 u104 u105 u106 u107 u108 u109 u110 u111 u112 u113 u114 u115 u116 u117 u118 u119 u120 u121 u122 u123 u124 u125 u126 u127 u128 u129 u130 u131 u132 u133 u134 u135 u136 u137 u138 u139 u140 u141 u142 u143 u144 u145 u146 u147 u148 u149 u150 u151 u152 u153 u154 u155 u156 u157 u158 u159 u160 u161 u162 u163 u164 u165 u166 u167 u168 u169 u170 u171 u172 u173 u174 u175 u176 u177 u178 u179 u180 u181 u182 u183 u184 u185 u186 u187 u188 u189 u190 u191 u192 u193 : Value} {a0 a1 : Option Addr} {n0 k0 n1 k1 db dd : Nat} {xs : List Sn} {zs : List Zl} {vs : List Ln} {root : Option Addr} {w wc : World} (h0 : n0 ≤ 4096) (h1 : n1 ≤ 4096) (hl : xs.length = n1) (hs1 : SpAt wc a1 xs) (hd : wc.cell? ⟨db, 20, none⟩ = some (.int .i64 n0)) (hk : Kept (fun _ => False) w wc)
    (hln : LnAt wc a0 zs) (hzn : zs.length = n0) (hlaid : Laid wc zs vs) (hd1 : wc.cell? ⟨db, 19, none⟩ = some (.pointer root)) (hd2 : wc.cell? ⟨db, 24, none⟩ = some (.int .i64 0)) (hrope : RopeN Ln.cells 3 dd wc root vs)
    (hws : WideS xs) (hwz : ∀ z ∈ zs, U64 z.site) (hv1 : ∀ b, blkOf a1 = some b → b < wc.heap.size) :
    Code.wp Ybaf.prog (dropSeq 5 (Ybaf.f4.body.getD .skip)) (bodyPost Ybaf.prog Ybaf.f4 fun e w' => e = .returned (.bool true) ∧ Kept (fun _ => False) w w') ⟨#[.slice a0 n0 k0, .slice a1 n1 k1, u2, u3, u4, u5, u6, u7, .pointer (some ⟨db, 0, none⟩), u9, u10, u11, u12, u13, u14, u15, u16, u17, u18, u19, u20, u21, u22, u23, u24, u25, u26, u27, u28, u29, u30, u31, u32, u33, u34, u35, u36, u37, u38, u39, u40, u41, u42, u43, u44, u45, u46, u47, u48, u49, u50, u51, u52, u53, u54, u55, u56, u57, u58, u59, u60, u61, u62, u63, u64, u65, u66, u67, u68, u69, u70, u71, u72, u73, u74, u75, u76, u77, u78, u79, u80, u81, u82, u83, u84, u85, u86, u87, u88, u89, u90, u91, u92, u93, u94, u95, u96, u97, u98, u99, u100, u101, u102, u103, u104, u105, u106, u107, u108, u109, u110, u111, u112, u113, u114, u115, u116, u117, u118, u119, u120, u121, u122, u123, u124, u125, u126, u127, u128, u129, u130, u131, u132, u133, u134, u135, u136, u137, u138, u139, u140, u141, u142, u143, u144, u145, u146, u147, u148, u149, u150, u151, u152, u153, u154, u155, u156, u157, u158, u159, u160, u161, u162, u163, u164, u165, u166, u167, u168, u169, u170, u171, u172, u173, u174, u175, u176, u177, u178, u179, u180, u181, u182, u183, u184, u185, u186, u187, u188, u189, u190, u191, u192, u193], []⟩ wc := by
  conv => arg 2; whnf
  have HSP1 : Hid (SpAt wc a1 xs) := hs1
  have HK : Hid (Kept (fun _ => False) w wc) := hk
  have HLN : Hid (LnAt wc a0 zs) := hln
  have HLAID : Hid (Laid wc zs vs) := hlaid
  have HD : Hid (wc.cell? ⟨db, 20, none⟩ = some (.int .i64 n0)) := hd
  have HD1 : Hid (wc.cell? ⟨db, 19, none⟩ = some (.pointer root)) := hd1
  have HD2 : Hid (wc.cell? ⟨db, 24, none⟩ = some (.int .i64 0)) := hd2
  have HROPE : Hid (RopeN Ln.cells 3 dd wc root vs) := hrope
  have HWS : Hid (WideS xs) := hws
  have HWZ : Hid (∀ z ∈ zs, U64 z.site) := hwz
  have HV1 : Hid (∀ b, blkOf a1 = some b → b < wc.heap.size) := hv1
  clear hs1 hk hln hlaid hd hd1 hd2 hrope hws hwz hv1
  have hne35 := fun (W : World) a n c => run_neq_nil (P := Ybaf.prog) W 35 81 a n c Ybaf.underlying35
  have hmk : ∀ W, (Instr.makeSlice 35 (.int .i64 n1) (.int .i64 n1)).run Ybaf.prog W = .ok (.slice (some ⟨W.heap.size, 0, none⟩) n1 n1) (W.alloc (.cells (madeCells #[.int .u64 0, .int .u32 0, .int .u32 0] (n1 * 3)) 81)) := fun W =>
    (run_made (P := Ybaf.prog) (f := Sn.cells) ⟨0, 0, 0⟩ sn_len (by omega) 35 81 (.agg #[.int .u64 0, .int .u32 0, .int .u32 0]) 16 Ybaf.underlying35 infoS81 rfl .i64 .i64 n1 (by omega) (by omega) W).1
  refine wp_seq_k fun K hK => ?_
  have HKK : Hid _ := hK
  clear hK
  go_wp2
  refine HKK.out _ _ ?_
  clear HKK
  refine wp_seq_k fun K hK => ?_
  have HKK : Hid _ := hK
  clear hK
  cases a1 with
  | none =>
    have hx : xs = [] := by
      rcases HSP1.out with h | ⟨b, o, h, _⟩
      · exact h
      · cases h
    have hn10 : n1 = 0 := by rw [← hl, hx]; rfl
    subst hn10
    go_wp2
    refine HKK.out _ _ ?_
    refine wp_seq_k fun K2 hK2 => ?_
    have HK2 : Hid _ := hK2
    clear hK2
    go_wp2
    refine HK2.out _ _ ?_
    exact tail8 h0 h1 hl HSP1.out (.inl hx) HD.out HK.out HLN.out hzn HLAID.out HD1.out HD2.out HROPE.out HWS.out HWZ.out HV1.out
  | some p =>
    have hcl : (xs.flatMap Sn.cells).length = n1 * 3 := by rw [flatMap_len sn_len, hl]
    have hone : ∀ v ∈ xs.flatMap Sn.cells, v.oneCell' = true := fun v hv => by
      obtain ⟨x, _, hx⟩ := List.mem_flatMap.1 hv
      exact sn_one x v hx
    have hsrc : ∀ ob j v, (xs.flatMap Sn.cells)[j]? = some v → (wc.alloc ob).cell? (p.add j) = some v := fun ob j v hv => by
      refine cell_keptF ((Kept.refl _ wc).alloc ob) ?_
      rcases HSP1.out with h | ⟨b, o, h, hcs⟩
      · rw [h] at hv
        simp at hv
      · cases h
        rw [Addr.add_lit]
        obtain ⟨q, r, hr, rfl⟩ : ∃ q r, r < 3 ∧ j = q * 3 + r := ⟨j / 3, j % 3, by omega, by omega⟩
        rw [flatMap_get sn_len r hr] at hv
        obtain ⟨x, hx, hv'⟩ := Option.bind_eq_some_iff.1 hv
        obtain ⟨e0, e1, e2⟩ := hcs q x hx
        have hr3 : r = 0 ∨ r = 1 ∨ r = 2 := by omega
        rcases hr3 with rfl | rfl | rfl
        · simp [Sn.cells] at hv'; subst hv'; simpa using e0
        · simp [Sn.cells] at hv'; subst hv'; simpa [Nat.add_assoc] using e1
        · simp [Sn.cells] at hv'; subst hv'; simpa [Nat.add_assoc] using e2
    have HSRC : Hid _ := hsrc
    have HONE : Hid _ := hone
    have HCL : Hid _ := hcl
    clear hsrc hone hcl
    go_wp2_with (refine wpList_copy_structs rfl (.tmp 80) (.tmp 81) 35 35 rfl 81 3 Ybaf.underlying35 (by kernel_rfl) wc.heap.size 0 n1 n1 p n1 k1 n1 rfl rfl (madeCells #[.int .u64 0, .int .u32 0, .int .u32 0] (n1 * 3)) 81 (heap_alloc_new wc _) (xs.flatMap Sn.cells) (Nat.min_self n1).symm HCL.out (HSRC.out _) (by rw [size_madeCells, HCL.out]; omega) HONE.out ?_; intro w2 hheap hk2; have HHEAP : Hid _ := hheap; have HK2 : Hid (Kept (fun k => k = wc.heap.size) (wc.alloc (.cells (madeCells #[.int .u64 0, .int .u32 0, .int .u32 0] (n1 * 3)) 81)) w2) := hk2; clear hheap hk2)
    refine HKK.out _ _ ?_
    refine wp_seq_k fun K2 hK2 => ?_
    have HKK2 : Hid _ := hK2
    clear hK2
    go_wp2
    refine HKK2.out _ _ ?_
    have hkk : Kept (fun _ => False) wc w2 := by
      have h2 := HK2.out
      refine ⟨h2.os, h2.tape, h2.output, by have := h2.size; simp at this; omega, fun k hk' _ => ?_⟩
      exact (h2.block k (by simp; omega) (by omega)).trans (Below.heap_alloc _ _ _ hk')
    have hblk : Blk w2 wc.heap.size (xs.flatMap Sn.cells).toArray := by
      refine ⟨81, ?_⟩
      have h3 := HHEAP.out
      have hd3 : (madeCells #[.int .u64 0, .int .u32 0, .int .u32 0] (n1 * 3)).toList.drop (0 + (xs.flatMap Sn.cells).length) = [] := by
        apply List.drop_eq_nil_of_le
        rw [HCL.out, Array.length_toList, size_madeCells]
        omega
      rw [hd3] at h3
      simpa using h3
    have hs9 : SpAt w2 (some ⟨wc.heap.size, 0, none⟩) xs := by
      refine .inr ⟨_, _, rfl, fun i x hx => ?_⟩
      have hc : ∀ r, r < 3 → w2.cell? ⟨wc.heap.size, 0 + i * 3 + r, none⟩ = (Sn.cells x)[r]? := fun r hr => by
        rw [hblk.cell]
        have := flatMap_get sn_len r hr xs i
        rw [hx] at this
        simpa using this
      exact ⟨hc 0 (by omega), hc 1 (by omega), hc 2 (by omega)⟩
    have hsz := hkk.size
    exact tail8 h0 h1 hl (HSP1.out.kept hkk) hs9 (cell_keptF hkk HD.out) (HK.out.trans hkk) (HLN.out.kept hkk) hzn (HLAID.out.kept hkk) (cell_keptF hkk HD1.out) (cell_keptF hkk HD2.out) (HROPE.out.eqv (fun q _ hl => hkk.block q hl id)) HWS.out HWZ.out (fun b e => by have := HV1.out b e; omega)

end Go.Proofs.YbulkdyyyFmt
