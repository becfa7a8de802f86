/-
  Seat b6277aF: the law, from the first loop on.
-/
import Derived.Test.YbulkdyyyFmtL4
import Derived.Test.YbulkdyyyFmtMade
namespace Go.Proofs.YbulkdyyyFmt
open Go.RowKit Go.Sort Go.Shelf
set_option linter.unusedVariables false
set_option linter.unnecessarySimpa false

def zLn : Ln := ⟨none, 0, 0, 0, ⟨#[]⟩⟩

/-- What the first loop has laid. -/
structure Fill (w : World) (lb n0 k : Nat) (zs : List Zl) (wr : World) (ds : List Ln) : Prop where
  row : Row Ln.cells 3 wr (some ⟨lb, 0, none⟩) n0 n0 (ds ++ List.replicate (n0 - k) zLn)
  len : ds.length = k
  good : ∀ (i : Nat) z x, zs[i]? = some z → ds[i]? = some x → Good wr z x ∧ ∀ b o, x.a = some ⟨b, o, none⟩ → b ≠ lb
  kept : Kept (fun _ => False) w wr

theorem info44 : (Ybaf.prog.info? 44).map (fun i => (i.zero, i.size, i.bytes)) = some (some (.agg #[.int .u64 0, .int .u64 0]), 2, 16) := by kernel_rfl
/-- A pair's cells. -/
def pairCells (p : Int × Int) : List Value := [.int .u64 p.1, .int .u64 p.2]
theorem pair_len (p : Int × Int) : (pairCells p).length = 2 := rfl

/-- A world whose row has three cells set. -/
theorem row_set3 {W : World} {lb n k : Nat} {ds : List Ln} {x : Ln} (h : Row Ln.cells 3 W (some ⟨lb, 0, none⟩) n n (ds ++ List.replicate (n - k) zLn)) (hk : ds.length = k) (hlt : k < n) :
    Row Ln.cells 3 (((W.setCell ⟨lb, k * 3, none⟩ (.slice x.a x.n x.c)).setCell ⟨lb, k * 3 + 1, none⟩ (.int .u32 x.clock)).setCell ⟨lb, k * 3 + 2, none⟩ (.string x.text)) (some ⟨lb, 0, none⟩) n n ((ds ++ [x]) ++ List.replicate (n - (k + 1)) zLn) := by
  have hz : (ds ++ List.replicate (n - k) zLn)[k]? = some zLn := by rw [List.getElem?_append_right (by omega), hk, Nat.sub_self, List.getElem?_replicate, if_pos (by omega)]
  have h1 := h.setAt ln_len (t := 0) (x' := ⟨x.a, x.n, x.c, 0, ⟨#[]⟩⟩) (v := .slice x.a x.n x.c) hz (by omega) rfl
  have hl1 : k < (ds ++ List.replicate (n - k) zLn).length := by simp; omega
  have h2 := h1.setAt ln_len (j := k) (t := 1) (x := ⟨x.a, x.n, x.c, 0, ⟨#[]⟩⟩) (x' := ⟨x.a, x.n, x.c, x.clock, ⟨#[]⟩⟩) (v := .int .u32 x.clock) (by rw [List.getElem?_set_self hl1]) (by omega) rfl
  have h3 := h2.setAt ln_len (j := k) (t := 2) (x := ⟨x.a, x.n, x.c, x.clock, ⟨#[]⟩⟩) (x' := x) (v := .string x.text) (by rw [List.getElem?_set_self (by simpa using hl1)]) (by omega) rfl
  simp only [Nat.zero_add, Nat.add_zero, List.set_set] at h3
  have e : (ds ++ List.replicate (n - k) zLn).set k x = (ds ++ [x]) ++ List.replicate (n - (k + 1)) zLn := by
    rw [List.set_append_right _ _ (by omega), hk, Nat.sub_self]
    obtain ⟨q, hq⟩ : ∃ q, n - k = q + 1 := ⟨n - k - 1, by omega⟩
    rw [hq, List.replicate_succ, List.set_cons_zero, show n - (k + 1) = q by omega]
    simp
  rw [e] at h3
  exact h3

theorem fill_step {w W wr : World} {lb n0 k : Nat} {zs : List Zl} {ds : List Ln} {z : Zl} {x : Ln} (h : Fill w lb n0 k zs wr ds) (hlb : w.heap.size ≤ lb) (hz : zs[k]? = some z) (hlt : k < n0) (hk : Kept (fun _ => False) wr W) (hg : Good W z x) (hx : ∀ b o, x.a = some ⟨b, o, none⟩ → b ≠ lb) :
    Fill w lb n0 (k + 1) zs ((((W.setCell ⟨lb, k * 3, none⟩ (.slice x.a x.n x.c)).setCell ⟨lb, k * 3 + 1, none⟩ (.int .u32 x.clock)).setCell ⟨lb, k * 3 + 2, none⟩ (.string x.text)).drew) (ds ++ [x]) := by
  have hsite : ∀ y s, SiteOf W y s → (∀ b o, y.a = some ⟨b, o, none⟩ → b ≠ lb) → SiteOf ((((W.setCell ⟨lb, k * 3, none⟩ (.slice x.a x.n x.c)).setCell ⟨lb, k * 3 + 1, none⟩ (.int .u32 x.clock)).setCell ⟨lb, k * 3 + 2, none⟩ (.string x.text)).drew) y s := by
    rintro y s ⟨b, o, m, h1, h2, h3, h4, h5⟩ hb
    refine ⟨b, o, m, h1, h2, h3, h4, ?_⟩
    have hne := hb b o h1
    have hcb := World.cell?_of_block (w := W) (w' := (((W.setCell ⟨lb, k * 3, none⟩ (.slice x.a x.n x.c)).setCell ⟨lb, k * 3 + 1, none⟩ (.int .u32 x.clock)).setCell ⟨lb, k * 3 + 2, none⟩ (.string x.text))) (a := ⟨b, o + m * 2 + 1, none⟩) ((heap_setCell_other _ ⟨lb, k * 3 + 2, none⟩ b _ hne).trans ((heap_setCell_other _ ⟨lb, k * 3 + 1, none⟩ b _ hne).trans (heap_setCell_other W ⟨lb, k * 3, none⟩ b _ hne)))
    exact hcb.trans h5
  have hgood : ∀ y q, Good W q y → (∀ b o, y.a = some ⟨b, o, none⟩ → b ≠ lb) → Good ((((W.setCell ⟨lb, k * 3, none⟩ (.slice x.a x.n x.c)).setCell ⟨lb, k * 3 + 1, none⟩ (.int .u32 x.clock)).setCell ⟨lb, k * 3 + 2, none⟩ (.string x.text)).drew) q y := fun y q hy hb => ⟨hy.clock, hy.text, hy.len, hy.low, hy.high, hsite y q.site hy.site hb⟩
  refine ⟨(row_set3 (h.row.kept hk (fun _ _ => id)) h.len hlt).eqv (fun _ _ => rfl), by simp [h.len], fun i q y e1 e2 => ?_, ?_⟩
  · rcases Nat.lt_or_ge i k with hi | hi
    · rw [List.getElem?_append_left (by rw [h.len]; exact hi)] at e2
      obtain ⟨g1, g2⟩ := h.good i q y e1 e2
      exact ⟨hgood y q (g1.kept hk) g2, g2⟩
    · rw [List.getElem?_append_right (by rw [h.len]; exact hi), h.len] at e2
      have hik : i = k := by
        have := (List.getElem?_eq_some_iff.1 e2).1
        simp at this
        omega
      subst hik
      simp at e2
      subst e2
      rw [hz] at e1
      cases e1
      exact ⟨hgood _ _ hg hx, hx⟩
  · exact ((((h.kept.trans hk).over (p := ⟨lb, k * 3, none⟩) hlb _).over (p := ⟨lb, k * 3 + 1, none⟩) hlb _).over (p := ⟨lb, k * 3 + 2, none⟩) hlb _).drew

set_option maxHeartbeats 4000000 in
set_option maxRecDepth 100000 in
theorem tail3 {u2 u3 u4 u6 u7 u8 u9 u10 u11 u12 u13 u14 u15 u16 u17 u18 u19 u20 u21 u22 u23 u24 u25 u26 u27 u28 u29 u30 u31 u32 u33 u34 u35 u36 u37 u38 u39 u40 u41 u42 u43 u44 u45 u46 u47 u48 u49 u50 u51 u52 u53 u54 u55 u56 u57 u58 u59 u60 u61 u62 u63 u64 u65 u66 u67 u68 u69 u70 u71 u72 u73 u74 u75 u76 u77 u78 u79 u80 u81 u82 u83 u84 u85 u86 u87 u88 u89 u90 u91 u92 u93 u94 u95 u96 u97 u98 u99 u100 u101 u102 u103 u104 u105 u106 u107 u108 u109 u110 u111 u112 u113 u114 u115 u116 u117 u118 u119 u120 u121 u122 u123 u124 u125 u126 u127 u128 u129 u130 u131 u132 u133 u134 u135 u136 u137 u138 u139 u140 u141 u142 u143 u144 u145 u146 u147 u148 u149 u150 u151 u152 u153 u154 u155 u156 u157 u158 u159 u160 u161 u162 u163 u164 u165 u166 u167 u168 u169 u170 u171 u172 u173 u174 u175 u176 u177 u178 u179 u180 u181 u182 u183 u184 u185 u186 u187 u188 u189 u190 u191 u192 u193 : Value} {a0 a1 : Option Addr} {n0 k0 n1 k1 lb : Nat} {xs : List Sn} {zs : List Zl} {w wc : World} (h0 : n0 ≤ 4096) (h1 : n1 ≤ 4096) (hl : xs.length = n1) (hs1 : SpAt w a1 xs) (hk : Kept (fun _ => False) w wc)
    (hln : LnAt w a0 zs) (hzn : zs.length = n0) (hlb : w.heap.size ≤ lb) (hrow : Row Ln.cells 3 wc (some ⟨lb, 0, none⟩) n0 n0 (List.replicate n0 zLn))
    (hws : WideS xs) (hwz : ∀ z ∈ zs, U64 z.site ∧ 0 ≤ z.depth ∧ z.depth ≤ 255) (hv1 : ∀ b, blkOf a1 = some b → b < w.heap.size) :
    Code.wp Ybaf.prog (dropSeq 3 (Ybaf.f4.body.getD .skip)) (bodyPost Ybaf.prog Ybaf.f4 fun e w' => e = .returned (.bool true) ∧ Kept (fun _ => False) w w') ⟨#[.slice a0 n0 k0, .slice a1 n1 k1, u2, u3, u4, .slice (some ⟨lb, 0, none⟩) n0 n0, u6, u7, u8, u9, u10, u11, u12, u13, u14, u15, u16, u17, u18, u19, u20, u21, u22, u23, u24, u25, u26, u27, u28, u29, u30, u31, u32, u33, u34, u35, u36, u37, u38, u39, u40, u41, u42, u43, u44, u45, u46, u47, u48, u49, u50, u51, u52, u53, u54, u55, u56, u57, u58, u59, u60, u61, u62, u63, u64, u65, u66, u67, u68, u69, u70, u71, u72, u73, u74, u75, u76, u77, u78, u79, u80, u81, u82, u83, u84, u85, u86, u87, u88, u89, u90, u91, u92, u93, u94, u95, u96, u97, u98, u99, u100, u101, u102, u103, u104, u105, u106, u107, u108, u109, u110, u111, u112, u113, u114, u115, u116, u117, u118, u119, u120, u121, u122, u123, u124, u125, u126, u127, u128, u129, u130, u131, u132, u133, u134, u135, u136, u137, u138, u139, u140, u141, u142, u143, u144, u145, u146, u147, u148, u149, u150, u151, u152, u153, u154, u155, u156, u157, u158, u159, u160, u161, u162, u163, u164, u165, u166, u167, u168, u169, u170, u171, u172, u173, u174, u175, u176, u177, u178, u179, u180, u181, u182, u183, u184, u185, u186, u187, u188, u189, u190, u191, u192, u193], []⟩ wc := by
  conv => arg 2; whnf
  have HLN : Hid (LnAt w a0 zs) := hln
  have HSP1 : Hid (SpAt w a1 xs) := hs1
  have HWS : Hid (WideS xs) := hws
  have HWZ : Hid (∀ z ∈ zs, U64 z.site ∧ 0 ≤ z.depth ∧ z.depth ≤ 255) := hwz
  have HV1 : Hid (∀ b, blkOf a1 = some b → b < w.heap.size) := hv1
  have HF0 : Hid (Fill w lb n0 0 zs wc []) := ⟨by simpa using hrow, rfl, fun i z x _ e => by simp at e, hk⟩
  clear hln hs1 hws hwz hv1 hrow hk
  refine wp_seq_k fun K hK => ?_
  have HKK : Hid _ := hK
  clear hK
  go_wp2
  go_loopw [30] (fun i wr => ∃ (k : Nat) (ds : List Ln), k ≤ n0 ∧ i = .int .i64 k ∧ Hid (Fill w lb n0 k zs wr ds)) (fun i _ => n0 - (intOf i).toNat)
  case atStart => exact ⟨0, [], Nat.zero_le _, rfl, HF0.out⟩
  case round =>
    obtain ⟨k, ds, hkn, rfl, HF⟩ := hrel
    by_cases hlt : k < n0
    · obtain ⟨z, hz⟩ : ∃ z, zs[k]? = some z := ⟨zs[k]'(by omega), by simp⟩
      have hne : zs ≠ [] := by rintro rfl; simp at hz
      rcases HLN.out with hq | ⟨b0, o0, rfl, hln⟩
      · exact (hne hq).elim
      obtain ⟨c0, c1, c2, c3⟩ := hln k z hz
      have hb0 : b0 < w.heap.size := World.block_lt_of_cell? w _ c0
      replace c0 := cell_keptF HF.out.kept c0
      replace c1 := cell_keptF HF.out.kept c1
      replace c2 := cell_keptF HF.out.kept c2
      replace c3 := cell_keptF HF.out.kept c3
      obtain ⟨hU, hlow, hhigh⟩ := HWZ.out z (List.mem_of_getElem? hz)
      have HZ : Hid (zs[k]? = some z) := hz
      have kk : (k : Int) < (n0 : Int) := by omega
      have hlbw := HF.out.row.lt lb rfl
      have hzk : (ds ++ List.replicate (n0 - k) zLn)[k]? = some zLn := by rw [List.getElem?_append_right (by rw [HF.out.len]; omega), HF.out.len, Nat.sub_self, List.getElem?_replicate, if_pos (by omega)]
      have l0 := HF.out.row.cell ln_len hzk 0 (by omega)
      have l1 := HF.out.row.cell ln_len hzk 1 (by omega)
      have l2 := HF.out.row.cell ln_len hzk 2 (by omega)
      simp only [Ln.cells, zLn, List.getElem?_cons_zero, List.getElem?_cons_succ, Nat.add_zero, Nat.zero_add] at l0 l1 l2
      have hfr : ∀ j, wr.frozen? ⟨lb, j, none⟩ = false := fun j => by
        rcases HF.out.row.row with ⟨h, _⟩ | ⟨b', o', cs, h, hb, _⟩
        · cases h
        · cases h
          exact hb.free _
      have htm : z.depth.tmod 3 = z.depth % 3 := Int.tmod_eq_emod_of_nonneg hlow
      have ac0 := fun ob => cell_keptF ((Kept.refl _ wr).alloc ob) c0
      have ac1 := fun ob => cell_keptF ((Kept.refl _ wr).alloc ob) c1
      have ac3 := fun ob => cell_keptF ((Kept.refl _ wr).alloc ob) c3
      clear hz hne hln hzk
      have h3 : z.depth % 3 = 0 ∨ z.depth % 3 = 1 ∨ z.depth % 3 = 2 := by omega
      rcases h3 with hd3 | hd3 | hd3
      · rw [hd3] at htm
        have hmk : ∀ W, (Instr.makeSlice 38 (.int .i64 1) (.int .i64 1)).run Ybaf.prog W = .ok (.slice (some ⟨W.heap.size, 0, none⟩) 1 1) (W.alloc (.cells #[.int .u64 0, .int .u64 0] 44)) := fun W => by
          have hr := (run_made (P := Ybaf.prog) (f := pairCells) (0, 0) pair_len (by omega) 38 44 (.agg #[.int .u64 0, .int .u64 0]) 16 Ybaf.underlying38 info44 rfl .i64 .i64 1 (by omega) (by omega) W).1
          have hmc : madeCells (Value.agg #[.int .u64 0, .int .u64 0]).cells (1 * 2) = #[.int .u64 0, .int .u64 0] := by kernel_rfl
          rw [hmc] at hr
          exact hr
        go_wp2
        obtain ⟨W, hW⟩ : ∃ W, wr.alloc (.cells #[.int .u64 0, .int .u64 z.site] 44) = W := ⟨_, rfl⟩
        have hkW : Kept (fun _ => False) wr W := by rw [← hW]; exact (Kept.refl _ wr).alloc _
        have hbW : Blk W wr.heap.size #[.int .u64 0, .int .u64 z.site] := by rw [← hW]; exact Blk.new wr _ 44
        rw [hW]
        have x1 := cell_keptF hkW c1
        have x3 := cell_keptF hkW c3
        have m0 := cell_keptF hkW l0
        have m1 := cell_keptF hkW l1
        have m2 := cell_keptF hkW l2
        have mf : ∀ j, W.frozen? ⟨lb, j, none⟩ = false := fun j => by
          rcases (HF.out.row.kept hkW (fun _ _ => id)).row with ⟨h, _⟩ | ⟨b', o', cs, h, hb, _⟩
          · cases h
          · cases h
            exact hb.free _
        have hsite : SiteOf W ⟨some ⟨wr.heap.size, 0, none⟩, 1, 1, z.clock, z.text⟩ z.site := ⟨wr.heap.size, 0, 0, rfl, rfl, by simp, by simp, by simpa using hbW.cell 1⟩
        have hgood : Good W z ⟨some ⟨wr.heap.size, 0, none⟩, 1, 1, z.clock, z.text⟩ := ⟨rfl, rfl, by rw [hd3]; rfl, hlow, hhigh, hsite⟩
        have hst := fill_step HF.out hlb HZ.out hlt hkW hgood (fun b o e => by simp only [Option.some.injEq, Addr.mk.injEq] at e; omega)
        have HST : Hid _ := hst
        have hnl : lb ≠ b0 := by omega
        clear hW hkW hbW hsite hgood hst c0 c1 c2 c3 l0 l1 l2 hfr ac0 ac1 ac3
        go_region_held3 (fun w' => w'.cell? ⟨b0, o0 + k * 4 + 1, none⟩ = some (.int .u32 z.clock) ∧ w'.cell? ⟨b0, o0 + k * 4 + 3, none⟩ = some (.string z.text)) (go_keep) (fail)
        all_goals
          go_wp2
          exact ⟨⟨k + 1, _, by omega, by go_num, HST.out⟩, by simp [intOf]; omega⟩
      · rw [hd3] at htm
        have hmk : ∀ W, (Instr.makeSlice 38 (.int .i64 2) (.int .i64 2)).run Ybaf.prog W = .ok (.slice (some ⟨W.heap.size, 0, none⟩) 2 2) (W.alloc (.cells #[.int .u64 0, .int .u64 0, .int .u64 0, .int .u64 0] 44)) := fun W => by
          have hr := (run_made (P := Ybaf.prog) (f := pairCells) (0, 0) pair_len (by omega) 38 44 (.agg #[.int .u64 0, .int .u64 0]) 16 Ybaf.underlying38 info44 rfl .i64 .i64 2 (by omega) (by omega) W).1
          have hmc : madeCells (Value.agg #[.int .u64 0, .int .u64 0]).cells (2 * 2) = #[.int .u64 0, .int .u64 0, .int .u64 0, .int .u64 0] := by kernel_rfl
          rw [hmc] at hr
          exact hr
        go_wp2
        obtain ⟨W, hW⟩ : ∃ W, wr.alloc (.cells #[.int .u64 0, .int .u64 0, .int .u64 0, .int .u64 z.site] 44) = W := ⟨_, rfl⟩
        have hkW : Kept (fun _ => False) wr W := by rw [← hW]; exact (Kept.refl _ wr).alloc _
        have hbW : Blk W wr.heap.size #[.int .u64 0, .int .u64 0, .int .u64 0, .int .u64 z.site] := by rw [← hW]; exact Blk.new wr _ 44
        rw [hW]
        have x1 := cell_keptF hkW c1
        have x3 := cell_keptF hkW c3
        have m0 := cell_keptF hkW l0
        have m1 := cell_keptF hkW l1
        have m2 := cell_keptF hkW l2
        have mf : ∀ j, W.frozen? ⟨lb, j, none⟩ = false := fun j => by
          rcases (HF.out.row.kept hkW (fun _ _ => id)).row with ⟨h, _⟩ | ⟨b', o', cs, h, hb, _⟩
          · cases h
          · cases h
            exact hb.free _
        have hsite : SiteOf W ⟨some ⟨wr.heap.size, 0, none⟩, 2, 2, z.clock, z.text⟩ z.site := ⟨wr.heap.size, 0, 1, rfl, rfl, by simp, by simp, by simpa using hbW.cell 3⟩
        have hgood : Good W z ⟨some ⟨wr.heap.size, 0, none⟩, 2, 2, z.clock, z.text⟩ := ⟨rfl, rfl, by rw [hd3]; rfl, hlow, hhigh, hsite⟩
        have hst := fill_step HF.out hlb HZ.out hlt hkW hgood (fun b o e => by simp only [Option.some.injEq, Addr.mk.injEq] at e; omega)
        have HST : Hid _ := hst
        have hnl : lb ≠ b0 := by omega
        clear hW hkW hbW hsite hgood hst c0 c1 c2 c3 l0 l1 l2 hfr ac0 ac1 ac3
        go_region_held3 (fun w' => w'.cell? ⟨b0, o0 + k * 4 + 1, none⟩ = some (.int .u32 z.clock) ∧ w'.cell? ⟨b0, o0 + k * 4 + 3, none⟩ = some (.string z.text)) (go_keep) (fail)
        all_goals
          go_wp2
          exact ⟨⟨k + 1, _, by omega, by go_num, HST.out⟩, by simp [intOf]; omega⟩
      · rw [hd3] at htm
        have hmk : ∀ W, (Instr.makeSlice 38 (.int .i64 3) (.int .i64 3)).run Ybaf.prog W = .ok (.slice (some ⟨W.heap.size, 0, none⟩) 3 3) (W.alloc (.cells #[.int .u64 0, .int .u64 0, .int .u64 0, .int .u64 0, .int .u64 0, .int .u64 0] 44)) := fun W => by
          have hr := (run_made (P := Ybaf.prog) (f := pairCells) (0, 0) pair_len (by omega) 38 44 (.agg #[.int .u64 0, .int .u64 0]) 16 Ybaf.underlying38 info44 rfl .i64 .i64 3 (by omega) (by omega) W).1
          have hmc : madeCells (Value.agg #[.int .u64 0, .int .u64 0]).cells (3 * 2) = #[.int .u64 0, .int .u64 0, .int .u64 0, .int .u64 0, .int .u64 0, .int .u64 0] := by kernel_rfl
          rw [hmc] at hr
          exact hr
        go_wp2
        obtain ⟨W, hW⟩ : ∃ W, wr.alloc (.cells #[.int .u64 0, .int .u64 0, .int .u64 0, .int .u64 0, .int .u64 0, .int .u64 z.site] 44) = W := ⟨_, rfl⟩
        have hkW : Kept (fun _ => False) wr W := by rw [← hW]; exact (Kept.refl _ wr).alloc _
        have hbW : Blk W wr.heap.size #[.int .u64 0, .int .u64 0, .int .u64 0, .int .u64 0, .int .u64 0, .int .u64 z.site] := by rw [← hW]; exact Blk.new wr _ 44
        rw [hW]
        have x1 := cell_keptF hkW c1
        have x3 := cell_keptF hkW c3
        have m0 := cell_keptF hkW l0
        have m1 := cell_keptF hkW l1
        have m2 := cell_keptF hkW l2
        have mf : ∀ j, W.frozen? ⟨lb, j, none⟩ = false := fun j => by
          rcases (HF.out.row.kept hkW (fun _ _ => id)).row with ⟨h, _⟩ | ⟨b', o', cs, h, hb, _⟩
          · cases h
          · cases h
            exact hb.free _
        have hsite : SiteOf W ⟨some ⟨wr.heap.size, 0, none⟩, 3, 3, z.clock, z.text⟩ z.site := ⟨wr.heap.size, 0, 2, rfl, rfl, by simp, by simp, by simpa using hbW.cell 5⟩
        have hgood : Good W z ⟨some ⟨wr.heap.size, 0, none⟩, 3, 3, z.clock, z.text⟩ := ⟨rfl, rfl, by rw [hd3]; rfl, hlow, hhigh, hsite⟩
        have hst := fill_step HF.out hlb HZ.out hlt hkW hgood (fun b o e => by simp only [Option.some.injEq, Addr.mk.injEq] at e; omega)
        have HST : Hid _ := hst
        have hnl : lb ≠ b0 := by omega
        clear hW hkW hbW hsite hgood hst c0 c1 c2 c3 l0 l1 l2 hfr ac0 ac1 ac3
        go_region_held3 (fun w' => w'.cell? ⟨b0, o0 + k * 4 + 1, none⟩ = some (.int .u32 z.clock) ∧ w'.cell? ⟨b0, o0 + k * 4 + 3, none⟩ = some (.string z.text)) (go_keep) (fail)
        all_goals
          go_wp2
          exact ⟨⟨k + 1, _, by omega, by go_num, HST.out⟩, by simp [intOf]; omega⟩
    · obtain rfl : n0 = k := by omega
      go_wp2
      refine HKK.out _ _ ?_
      have hF := HF.out
      have hrow := hF.row
      rw [Nat.sub_self, List.replicate_zero, List.append_nil] at hrow
      have hsz := hF.kept.size
      exact tail4 h0 h1 hl (HSP1.out.kept hF.kept) hF.kept (HLN.out.kept hF.kept) hzn ⟨by rw [hF.len, hzn], fun i z x e1 e2 => (hF.good i z x e1 e2).1⟩ hrow HWS.out (fun z hz => (HWZ.out z hz).1) (fun b e => by have := HV1.out b e; omega)

end Go.Proofs.YbulkdyyyFmt
