/-
  Seat b6277aF: the law, from the call of LinesNotIn on.
-/
import Derived.Test.YbulkdyyyFmtL11
import Derived.Test.YbulkdyyyFmtLSet
import Derived.Test.YbulkdyyyFmtLni
namespace Go.Proofs.YbulkdyyyFmt
open Go.RowKit Go.Sort Go.Shelf
set_option linter.unusedVariables false
set_option linter.unnecessarySimpa false

/-- The site that lies in a line's last pair. -/
def siteIn (W : World) (x : Ln) : Int := match x.a with
  | some p => (match W.cell? ⟨p.block, p.off + (x.n - 1) * 2 + 1, none⟩ with | some (.int _ s) => s | _ => 0)
  | none => 0
theorem siteIn_of {W : World} {x : Ln} {s : Int} (h : SiteOf W x s) : siteIn W x = s := by
  obtain ⟨b, o, m, h1, h2, h3, h4, h5⟩ := h
  unfold siteIn
  rw [h1, h2, Nat.add_sub_cancel]
  dsimp only
  rw [h5]

/-- Does the i-th drawn line stay? -/
def keepAt (xs : List Sn) (zs : List Zl) (i : Nat) : Bool := match zs[i]? with
  | some z => !named xs z.site z.clock
  | none => false
/-- The places of those that stay. -/
def wants (xs : List Sn) (zs : List Zl) (k : Nat) : List Nat := (List.range k).filter (keepAt xs zs)
theorem wants_succ (xs : List Sn) (zs : List Zl) (k : Nat) : wants xs zs (k + 1) = if keepAt xs zs k then wants xs zs k ++ [k] else wants xs zs k := by
  unfold wants
  rw [List.range_succ, List.filter_append]
  split
  · rename_i h
    simp [h]
  · rename_i h
    simp [h]

theorem filter_places {α : Type} (p : α → Bool) (q : Nat → Bool) : ∀ (us vs : List α), (∀ (i : Nat) x, us[i]? = some x → vs[i]? = some x) → (∀ (i : Nat) x, us[i]? = some x → q i = p x) → ((List.range us.length).filter q).map (fun i => vs[i]?) = (us.filter p).map some := by
  intro us
  obtain ⟨rs, rfl⟩ : ∃ rs, us = rs.reverse := ⟨us.reverse, by simp⟩
  induction rs with
  | nil => intro vs _ _; simp
  | cons x rs ih =>
    intro vs h1 h2
    rw [List.reverse_cons] at *
    generalize rs.reverse = us at *
    have hx : (us ++ [x])[us.length]? = some x := by simp
    have hi := ih vs (fun i y hy => h1 i y (by rw [List.getElem?_append_left (List.getElem?_eq_some_iff.1 hy).1]; exact hy)) (fun i y hy => h2 i y (by rw [List.getElem?_append_left (List.getElem?_eq_some_iff.1 hy).1]; exact hy))
    rw [List.length_append, List.length_singleton, List.range_succ, List.filter_append, List.map_append, hi, List.filter_append, List.map_append]
    congr 1
    have e1 := h1 _ _ hx
    have e2 := h2 _ _ hx
    cases hp : p x <;> simp [e1, e2, hp]

/-- What the document's lines are. -/
structure Laid (W : World) (zs : List Zl) (vs : List Ln) : Prop where
  len : vs.length = zs.length
  good : ∀ (i : Nat) z x, zs[i]? = some z → vs[i]? = some x → Good W z x

theorem Laid.kept {W W' : World} {zs : List Zl} {vs : List Ln} (h : Laid W zs vs) (hk : Kept (fun _ => False) W W') : Laid W' zs vs := ⟨h.len, fun i z x e1 e2 => (h.good i z x e1 e2).kept hk⟩

theorem Laid.at {W : World} {zs : List Zl} {vs : List Ln} (h : Laid W zs vs) {i : Nat} {x : Ln} (hx : vs[i]? = some x) : ∃ z, zs[i]? = some z ∧ Good W z x := by
  have hl : i < zs.length := by rw [← h.len]; exact (List.getElem?_eq_some_iff.1 hx).1
  exact ⟨zs[i], List.getElem?_eq_getElem hl, h.good i _ x (List.getElem?_eq_getElem hl) hx⟩

theorem Laid.wanted {W : World} {zs : List Zl} {vs : List Ln} (h : Laid W zs vs) (xs : List Sn) : (wants xs zs zs.length).map (fun i => vs[i]?) = (vs.filter (keepL (named xs) (siteIn W))).map some := by
  unfold wants
  rw [← h.len]
  refine filter_places _ _ vs vs (fun _ _ e => e) (fun i x hx => ?_)
  obtain ⟨z, hz, hg⟩ := h.at hx
  unfold keepAt keepL
  rw [hz, siteIn_of hg.site, hg.clock]

set_option maxHeartbeats 4000000 in
set_option maxRecDepth 100000 in
theorem tail9 {u2 u3 u4 u5 u6 u7 u11 u12 u13 u14 u15 u16 u17 u18 u19 u20 u21 u22 u23 u24 u25 u26 u27 u28 u29 u30 u31 u32 u33 u34 u35 u36 u37 u38 u39 u40 u41 u42 u43 u44 u45 u46 u47 u48 u49 u50 u51 u52 u53 u54 u55 u56 u57 u58 u59 u60 u61 u62 u63 u64 u65 u66 u67 u68 u69 u70 u71 u72 u73 u74 u75 u76 u77 u78 u79 u80 u81 u82 u83 u84 u85 u86 u87 u88 u89 u90 u91 u92 u93 u94 u95 u96 u97 u98 u99 u100 u101 u102 u103 u104 u105 u106 u107 u108 u109 u110 u111 u112 u113 u114 u115 u116 u117 u118 u119 u120 u121 u122 u123 u124 u125 u126 u127 u128 u129 u130 u131 u132 u133 u134 u135 u136 u137 u138 u139 u140 u141 u142 u143 u144 u145 u146 u147 u148 u149 u150 u151 u152 u153 u154 u155 u156 u157 u158 u159 u160 u161 u162 u163 u164 u165 u166 u167 u168 u169 u170 u171 u172 u173 u174 u175 u176 u177 u178 u179 u180 u181 u182 u183 u184 u185 u186 u187 u188 u189 u190 u191 u192 u193 : Value} {a0 a1 a9 aw : Option Addr} {n0 k0 n1 k1 k9 db m cw : Nat} {xs : List Sn} {zs : List Zl} {vs : List Ln} {root : Option Addr} {w wc : World} (h0 : n0 ≤ 4096) (h1 : n1 ≤ 4096) (hl : xs.length = n1) (hs1 : SpAt wc a1 xs) (hs9 : SpAt wc a9 xs) (hd : wc.cell? ⟨db, 20, none⟩ = some (.int .i64 n0)) (hk : Kept (fun _ => False) w wc)
    (hln : LnAt wc a0 zs) (hzn : zs.length = n0) (hrw : Row intCells 1 wc aw m cw (wants xs zs n0)) (hnw : aw = none ↔ wants xs zs n0 = []) (hlaid : Laid wc zs vs) (hd1 : wc.cell? ⟨db, 19, none⟩ = some (.pointer root)) (hd2 : wc.cell? ⟨db, 24, none⟩ = some (.int .i64 0)) (hrope : RopeAt Ln.cells 3 wc.heap.size wc root vs)
    (hws : WideS xs) (hwz : ∀ z ∈ zs, U64 z.site) (hv1 : ∀ b, blkOf a1 = some b → b < wc.heap.size) :
    Code.wp Ybaf.prog (dropSeq 9 (Ybaf.f4.body.getD .skip)) (bodyPost Ybaf.prog Ybaf.f4 fun e w' => e = .returned (.bool true) ∧ Kept (fun _ => False) w w') ⟨#[.slice a0 n0 k0, .slice a1 n1 k1, u2, u3, u4, u5, u6, u7, .pointer (some ⟨db, 0, none⟩), .slice a9 n1 k9, .slice aw m cw, u11, u12, u13, u14, u15, u16, u17, u18, u19, u20, u21, u22, u23, u24, u25, u26, u27, u28, u29, u30, u31, u32, u33, u34, u35, u36, u37, u38, u39, u40, u41, u42, u43, u44, u45, u46, u47, u48, u49, u50, u51, u52, u53, u54, u55, u56, u57, u58, u59, u60, u61, u62, u63, u64, u65, u66, u67, u68, u69, u70, u71, u72, u73, u74, u75, u76, u77, u78, u79, u80, u81, u82, u83, u84, u85, u86, u87, u88, u89, u90, u91, u92, u93, u94, u95, u96, u97, u98, u99, u100, u101, u102, u103, u104, u105, u106, u107, u108, u109, u110, u111, u112, u113, u114, u115, u116, u117, u118, u119, u120, u121, u122, u123, u124, u125, u126, u127, u128, u129, u130, u131, u132, u133, u134, u135, u136, u137, u138, u139, u140, u141, u142, u143, u144, u145, u146, u147, u148, u149, u150, u151, u152, u153, u154, u155, u156, u157, u158, u159, u160, u161, u162, u163, u164, u165, u166, u167, u168, u169, u170, u171, u172, u173, u174, u175, u176, u177, u178, u179, u180, u181, u182, u183, u184, u185, u186, u187, u188, u189, u190, u191, u192, u193], []⟩ wc := by
  conv => arg 2; whnf
  have hwant := hlaid.wanted xs
  have hσ : ∀ x ∈ vs, SiteOf wc x (siteIn wc x) ∧ U64 (siteIn wc x) := fun x hx => by
    obtain ⟨i, hi⟩ := List.mem_iff_getElem?.1 hx
    obtain ⟨z, hz, hg⟩ := hlaid.at hi
    rw [siteIn_of hg.site]
    exact ⟨hg.site, hwz z (List.mem_of_getElem? hz)⟩
  have hva : ∀ b, blkOf a1 = some b → b < wc.heap.size := hv1
  have hset := lset_any a1 n1 k1 xs wc hs1 hl h1 hva hws
  have hlni := lni_any (named xs) (siteIn wc) (.slice a1 n1 k1) db root vs wc hset hd1 hd2 hrope (by rw [hlaid.len, hzn]; exact h0) hσ
  have HLNI : Hid _ := hlni
  have HSP1 : Hid (SpAt wc a1 xs) := hs1
  have HSP9 : Hid (SpAt wc a9 xs) := hs9
  have HK : Hid (Kept (fun _ => False) w wc) := hk
  have HLN : Hid (LnAt wc a0 zs) := hln
  have HRW : Hid (Row intCells 1 wc aw m cw (wants xs zs n0)) := hrw
  have HLAID : Hid (Laid wc zs vs) := hlaid
  have HD : Hid (wc.cell? ⟨db, 20, none⟩ = some (.int .i64 n0)) := hd
  have HNW : Hid (aw = none ↔ wants xs zs n0 = []) := hnw
  have HWANT : Hid _ := hwant
  have hml := hrw.len
  clear hs1 hs9 hk hln hrw hlaid hd hnw hwant hσ hva hset hlni hd1 hd2 hrope hws hwz hv1
  refine wp_seq_k fun K hK => ?_
  have HKK : Hid _ := hK
  clear hK
  go_wp2_with fail
  refine Calls.mono HLNI.out ?_
  rintro e w1 ⟨ag, n, cg, rfl, hrg, hng, hk1⟩
  have hww := HWANT.out
  rw [hzn] at hww
  have hlen := congrArg List.length hww
  simp only [List.length_map] at hlen
  have hn : n = m := by rw [← hrg.len, ← hlen, hml]
  subst hn
  have hnil : ag = none ↔ aw = none := by
    rw [hng, HNW.out, ← List.length_eq_zero_iff, ← List.length_eq_zero_iff (l := wants xs zs n0), hlen]
  have hnn : ag.isNone = aw.isNone := by rw [Bool.eq_iff_iff, Option.isNone_iff_eq_none, Option.isNone_iff_eq_none]; exact hnil
  have hm4 : n ≤ 4096 := by
    rw [← hml]
    unfold wants
    refine Nat.le_trans (List.length_filter_le _ _) ?_
    simpa using h0
  have hgd : ∀ (k i : Nat), (wants xs zs n0)[k]? = some i → ∃ z x, zs[i]? = some z ∧ (vs.filter (keepL (named xs) (siteIn wc)))[k]? = some x ∧ Good w1 z x := fun k i hi => by
    have e1 : ((wants xs zs n0).map (fun i => vs[i]?))[k]? = some (vs[i]?) := by rw [List.getElem?_map, hi]; rfl
    rw [hww, List.getElem?_map] at e1
    obtain ⟨x, hx, e2⟩ := Option.map_eq_some_iff.1 e1
    obtain ⟨z, hz, hg⟩ := HLAID.out.at e2.symm
    exact ⟨z, x, hz, hx, hg.kept hk1⟩
  have HGD : Hid _ := hgd
  have HRG : Hid (Row Ln.cells 3 w1 ag n cg (vs.filter (keepL (named xs) (siteIn wc)))) := hrg
  have HK1 : Hid (Kept (fun _ => False) wc w1) := hk1
  have hn36 := fun (W : World) a n c => Lib.run_eql_slice_nil (P := Ybaf.prog) W 36 48 a n c 0 0 Ybaf.underlying36
  have hn22 := fun (W : World) a n c => Lib.run_eql_slice_nil (P := Ybaf.prog) W 22 3 a n c 0 0 Ybaf.underlying22
  clear hrg hk1 hgd hww hlen hng hnil
  go_wp2
  refine HKK.out _ _ ?_
  refine wp_seq_k fun K2 hK2 => ?_
  have HK2 : Hid _ := hK2
  clear hK2
  cases ag with
  | none =>
    cases aw with
    | none =>
      go_wp2
      refine HK2.out _ _ ?_
      exact tail11 h0 h1 hl (HSP1.out.kept HK1.out) (HSP9.out.kept HK1.out) (cell_keptF HK1.out HD.out) (HK.out.trans HK1.out) (HLN.out.kept HK1.out) hzn (HRW.out.kept HK1.out (fun _ _ => id)) HRG.out hm4 HGD.out
    | some p => cases hnn
  | some q =>
    cases aw with
    | none => cases hnn
    | some p =>
      go_wp2
      refine HK2.out _ _ ?_
      exact tail11 h0 h1 hl (HSP1.out.kept HK1.out) (HSP9.out.kept HK1.out) (cell_keptF HK1.out HD.out) (HK.out.trans HK1.out) (HLN.out.kept HK1.out) hzn (HRW.out.kept HK1.out (fun _ _ => id)) HRG.out hm4 HGD.out

end Go.Proofs.YbulkdyyyFmt
